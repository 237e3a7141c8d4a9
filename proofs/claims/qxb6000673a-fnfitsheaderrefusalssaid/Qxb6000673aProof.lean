/-
  'Rows.FnFitsHeaderRefusalsSaid', proved: the frame is the guide's shell (proof-skeleton), the walk is this seat's.
-/
import Derived.Test.Qxb6000673aRows
import Derived.Test.Qxb6000673aFits
import Derived.Test.Qxb6000673aClosed
import Derived.WalkKit
import Derived.ProofKit
import Derived.OpenShut
import Derived.ShutString
namespace Go.Proofs.Qxb6000673a.fnFitsHeaderRefusals
open Go.ChangeShapes Go.WideShapes Go.ChangeAt Go.RowKit
open Go.ChangeMaps (open_string shut_string)
set_option linter.unusedVariables false      -- a walk need not use every 'w<i>' (that an integer argument fits its kind)

theorem own : ownKnob Try.prog.godebug = none := by kernel_rfl

/-! ### plain facts -/
theorem sp_left (s : ByteArray) : ∃ h : 0 < (({ data := #[32] } : ByteArray) ++ s).size, (((({ data := #[32] } : ByteArray) ++ s)[0]'h).toNat : Int) = 32 := by
  refine ⟨by simp [ByteArray.size_append]; show 0 < 1 + s.size; omega, ?_⟩
  rw [ByteArray.getElem_append_left (by decide)]
  rfl
theorem sp_right (s : ByteArray) : ∃ h : s.size < (s ++ ({ data := #[32] } : ByteArray)).size, (((s ++ ({ data := #[32] } : ByteArray))[s.size]'h).toNat : Int) = 32 := by
  refine ⟨by rw [ByteArray.size_append]; show s.size < s.size + 1; omega, ?_⟩
  rw [ByteArray.getElem_append_right (Nat.le_refl _)]
  simp
  rfl
theorem size_sp_left (s : ByteArray) : (({ data := #[32] } : ByteArray) ++ s).size = 1 + s.size := by rw [ByteArray.size_append]; rfl
theorem size_sp_right (s : ByteArray) : (s ++ ({ data := #[32] } : ByteArray)).size = s.size + 1 := by rw [ByteArray.size_append]; rfl

theorem fits_left (s : ByteArray) (hs : s.size ≤ 1048576) (w : World) : Calls Try.prog 10 #[.string (({ data := #[32] } : ByteArray) ++ s)] w fun e w' => e = .returned (.bool false) ∧ w' = w := by
  obtain ⟨h, e⟩ := sp_left s
  exact fits_bad _ 0 w (by rw [size_sp_left]; omega) h (.inr (.inr (.inl ⟨rfl, e⟩)))
theorem fits_right (s : ByteArray) (hs : s.size ≤ 1048576) (w : World) : Calls Try.prog 10 #[.string (s ++ ({ data := #[32] } : ByteArray))] w fun e w' => e = .returned (.bool false) ∧ w' = w := by
  obtain ⟨h, e⟩ := sp_right s
  exact fits_bad _ s.size w (by rw [size_sp_right]; omega) h (.inr (.inr (.inr ⟨by rw [size_sp_right]; omega, e⟩)))

/-! ### the walk on the ways that come to the calls -/
set_option maxHeartbeats 1000000 in
theorem core (s : ByteArray) (n : Nat) (c : UInt8) (hs : s.size ≤ 1048576) (hn : n ≤ s.size) (hc : (c.toNat : Int) < 32 ∨ (c.toNat : Int) = 127) (w : World) :
    Calls Try.prog 4 #[.string s, .int .i64 n, .int .u8 (c.toNat : Int)] w fun e w' => e = .returned (.bool true) ∧ Grown w w' := by
  have HC : Hid ((c.toNat : Int) < 32 ∨ (c.toNat : Int) = 127) := hc
  rcases hc with hc | hc
  · go_enter Try.func4, Try.ntmps4
    go_wp2_with (go_at_call 11; go_in)
    refine (fits_empty _).mono ?_
    rintro e w1 ⟨rfl, rfl⟩
    go_wp2_with fail
    refine (fits_left s hs _).mono ?_
    rintro e w1 ⟨rfl, rfl⟩
    go_wp2_with fail
    refine (fits_right s hs _).mono ?_
    rintro e w1 ⟨rfl, rfl⟩
    go_wp2_with fail
    refine (insert_any s n c _ hs hn).mono ?_
    rintro e w2 ⟨r, rfl, hg, hr, hnr, hrc⟩
    go_wp2_with fail
    refine (fits_bad r n _ (by omega) hnr (by rw [hrc]; exact HC.out.elim .inl (fun h => .inr (.inl h)))).mono ?_
    rintro e w3 ⟨rfl, rfl⟩
    go_wp2_with fail
    go_ret
    exact ⟨rfl, hg⟩
  · have h7 : ((c.toNat : Int) == 127) = true := by simp [hc]
    have h8 : (32 : Int) ≤ (c.toNat : Int) := by omega
    clear hc
    go_enter Try.func4, Try.ntmps4
    go_wp2_with (go_at_call 11; go_in)
    refine (fits_empty _).mono ?_
    rintro e w1 ⟨rfl, rfl⟩
    go_wp2_with fail
    refine (fits_left s hs _).mono ?_
    rintro e w1 ⟨rfl, rfl⟩
    go_wp2_with fail
    refine (fits_right s hs _).mono ?_
    rintro e w1 ⟨rfl, rfl⟩
    go_wp2_with fail
    refine (insert_any s n c _ hs hn).mono ?_
    rintro e w2 ⟨r, rfl, hg, hr, hnr, hrc⟩
    go_wp2_with fail
    refine (fits_bad r n _ (by omega) hnr (by rw [hrc]; exact HC.out.elim .inl (fun h => .inr (.inl h)))).mono ?_
    rintro e w3 ⟨rfl, rfl⟩
    go_wp2_with fail
    go_ret
    exact ⟨rfl, hg⟩

/-! ### STEP 1: THE WALK: the Go text returns true. -/
set_option maxHeartbeats 1000000 in
theorem walk (a0 : ByteArray) (a1 : Int) (a2 : Int) (w0 : a0.size ≤ maxLen) (w1 : (Lit.int .i64 a1).wf = true) (w2 : (Lit.int .u8 a2).wf = true) (w : World) :
    Calls Try.prog 4 #[.string a0, .int .i64 a1, .int .u8 a2] w fun e w' => e = .returned (.bool true) ∧ Grown w w' := by
  obtain ⟨b20, b21⟩ := bounds_u8 w2
  clear w0 w1 w2
  by_cases hsz : 1048576 < a0.size
  · go_enter Try.func4, Try.ntmps4
    go_wp2
    go_ret
    exact ⟨rfl, Grown.refl _⟩
  by_cases hi : a1 < 0
  · go_enter Try.func4, Try.ntmps4
    go_wp2
    go_ret
    exact ⟨rfl, Grown.refl _⟩
  by_cases hi2 : (a0.size : Int) < a1
  · go_enter Try.func4, Try.ntmps4
    go_wp2
    go_ret
    exact ⟨rfl, Grown.refl _⟩
  by_cases hc : a2 < 32 ∨ a2 = 127
  · obtain ⟨n, rfl⟩ := Int.eq_ofNat_of_zero_le (by omega : 0 ≤ a1)
    obtain ⟨c, rfl⟩ : ∃ c : UInt8, a2 = (c.toNat : Int) := ⟨UInt8.ofNat a2.toNat, by simp; omega⟩
    exact core a0 n c (by omega) (by omega) hc w
  · have h7 : (a2 == 127) = false := by simp; omega
    have h8 : (32 : Int) ≤ a2 := by omega
    have h9 : decide (a2 < 32) = false := by simp; omega
    clear hc
    go_enter Try.func4, Try.ntmps4
    go_wp2_with (go_at_call 11; go_in)
    go_ret
    exact ⟨rfl, Grown.refl _⟩

/-! ### THE ROW's STEP: WRITTEN OUT: LEAVE IT -/
set_option maxRecDepth 100000 in
theorem lifted (os : Os) (started : os.Started) (H : Type) (enc : TypeId × Value → H) :
    ReturnsInHanded {} Try.checked os 4 .any (Rows.fnFitsHeaderRefusalsSpec.pre6 enc Try.prog Try.f4 Rows.fnFitsHeaderRefusalsRow.domain false) (Rows.fnFitsHeaderRefusalsSpec.post enc Try.prog Try.f4 false true false false) := by
  refine returnsInHanded_of_change (C := Try.checked) own started (by kernel_rfl) Try.func4
    (ChangeSpec.witness6 (enc := enc) (C := Try.checked) false ⟨#[], #[.string ByteArray.empty, .int .i64 0, .int .u8 0], []⟩ 8 (by kernel_rfl) (by kernel_rfl) (by kernel_rfl) (by kernel_rfl)) ?_
  intro W base args ds gs before hval0 hW hcnd _
  have hval : ∀ (j : Nat) t v, Try.f4.params[j]? = some t → args[j]? = some v → Value.okWide Try.prog W .any base t v := hval0
  have hW' := hW
  obtain ⟨p, q, hA0, hV, rfl, hfz, hnd⟩ := hW
  have hA : DataW.TrodAll enc Try.prog W 0 (fun _ => true) true Try.f4.params.toList args.toList ds p := hA0
  rw [Try.params4] at hA hval
  obtain ⟨v0, vs0, d0, ds0, p0, q0, hargs, rfl, rfl, h0, r0⟩ := trodAll_cons hA
  obtain ⟨v1, vs1, d1, ds1, p1, q1, rfl, rfl, rfl, h1, r1⟩ := trodAll_cons r0
  obtain ⟨v2, vs2, d2, ds2, p2, q2, rfl, rfl, rfl, h2, r2⟩ := trodAll_cons r1
  obtain ⟨rfl, rfl, rfl⟩ := trodAll_nil r2
  obtain rfl : args = #[v0, v1, v2] := by cases args; simp_all
  obtain ⟨rfl, rfl⟩ := trodVars_none hV
  obtain ⟨a0, rfl, rfl, rfl, w0⟩ := open_string Try.underlying9 (hval 0 9 v0 rfl rfl) h0
  obtain ⟨a1, rfl, rfl, rfl, w1⟩ := open_int Try.underlying3 (hval 1 3 v1 rfl rfl) h1
  obtain ⟨a2, rfl, rfl, rfl, w2⟩ := open_int Try.underlying5 (hval 2 5 v2 rfl rfl) h2
  clear hA0 hval0
  simp only [List.append_nil] at hW'
  refine (walk a0 a1 a2 w0 w1 w2 W).mono fun e W' ⟨he, hg⟩ => ?_
  subst he
  exact ⟨_, rfl, post_of_same (pa := []) (pv := []) hW' (fun _ _ _ => (trodAll_cons_mk (shut_bool Try.underlying4 _) trodAll_mk0)) (fun sp _ => (trodAll_cons_mk (shut_string Try.underlying9 w0) (trodAll_cons_mk (shut_int Try.underlying3 w1) (trodAll_cons_mk (shut_int Try.underlying5 w2) trodAll_mk0)))) (fun _ _ => rfl) rfl
    (hg.frame _) hg.2.1 (ok_one (by kernel_rfl) rfl (okWide_bool_mk Try.underlying4 _))⟩

theorem over : Rows.fnFitsHeaderRefusalsRow.holds Try.pinned (OpenSpec.ofChange Rows.fnFitsHeaderRefusalsSpec) :=
  OpenClaim.holds_of_wide 4 Try.f4 rfl rfl rfl rfl rfl rfl rfl ⟨rfl, rfl, rfl, rfl, rfl⟩ rfl rfl rfl rfl rfl (by kernel_rfl) Try.func4 closed
    (of_decide_eq_true (by kernel_rfl)) (by unfold Func.isWrapper; first | (rw [if_pos (by decide +kernel)]; kernel_rfl) | (rw [if_neg (by decide +kernel)]; exact ⟨rfl, rfl⟩))
    (fun os started H enc _ => lifted os started H enc)

/-- ████ THE STATEMENT ████ -/
theorem proved : Rows.FnFitsHeaderRefusalsSaid :=
  over
end Go.Proofs.Qxb6000673a.fnFitsHeaderRefusals
