/-
  'Rows.FnIsJSONNumberRefusesLeadingZeroSaid', proved: the frame is the guide's shell (proof-skeleton), the walk is this seat's.
-/
import Derived.Test.Qxb6000674aRows
import Derived.Test.Qxb6000674aNum
import Derived.Test.Qxb6000674aClosed
import Derived.WalkKit
import Derived.ProofKit
import Derived.OpenShut
import Derived.ShutString
namespace Go.Proofs.Qxb6000674a.fnIsJSONNumberRefusesLeadingZero
open Go.ChangeShapes Go.WideShapes Go.ChangeAt Go.RowKit
open Go.ChangeMaps (open_string shut_string)
set_option linter.unusedVariables false      -- a walk need not use every 'w<i>' (that an integer argument fits its kind)

theorem own : ownKnob Try.prog.godebug = none := by kernel_rfl

/-! ### plain facts on the texts -/
theorem one_back (w : World) (d : UInt8) : (convert 24 9 (.slice (some ⟨w.heap.size, 0, none⟩) 1 1)).run Try.prog (w.alloc (.cells #[.int .u8 (d.toNat : Int)] 5)) = .ok (.string { data := #[d] }) (w.alloc (.cells #[.int .u8 (d.toNat : Int)] 5)) := by
  have h := run_convert_bytes_back (P := Try.prog) (w.alloc (.cells #[.int .u8 (d.toNat : Int)] 5)) 24 9 5 ⟨w.heap.size, 0, none⟩ 1 [d] Try.underlying24 Try.underlying5 Try.underlying9 (by
    intro j hj
    have : j = 0 := by simpa using hj
    subst this
    show (w.alloc (.cells #[.int .u8 (d.toNat : Int)] 5)).cell? ⟨w.heap.size, 0, none⟩ = _
    rw [World.cell?_alloc_at _ _ _ _ rfl]
    rfl)
  exact h

def pre2 (d : UInt8) : ByteArray := ({ data := #[48] } : ByteArray) ++ { data := #[d] }
theorem pre2_size (d : UInt8) : (pre2 d).size = 2 := rfl
theorem tx_size (d : UInt8) (r : ByteArray) : (({ data := #[48] } : ByteArray) ++ { data := #[d] } ++ r).size = 2 + r.size := by rw [ByteArray.size_append]; rfl
theorem tx0 (d : UInt8) (r : ByteArray) (h : 0 < (({ data := #[48] } : ByteArray) ++ { data := #[d] } ++ r).size) : (({ data := #[48] } : ByteArray) ++ { data := #[d] } ++ r)[0] = 48 := by
  exact (ByteArray.getElem_append_left (a := pre2 d) (b := r) (show 0 < (pre2 d).size by rw [pre2_size]; decide)).trans rfl
theorem tx1 (d : UInt8) (r : ByteArray) (h : 1 < (({ data := #[48] } : ByteArray) ++ { data := #[d] } ++ r).size) : (({ data := #[48] } : ByteArray) ++ { data := #[d] } ++ r)[1] = d := by
  exact (ByteArray.getElem_append_left (a := pre2 d) (b := r) (show 1 < (pre2 d).size by rw [pre2_size]; decide)).trans rfl
theorem ty_size (t : ByteArray) : (({ data := #[45] } : ByteArray) ++ t).size = 1 + t.size := by rw [ByteArray.size_append]; rfl
theorem ty0 (t : ByteArray) (h : 0 < (({ data := #[45] } : ByteArray) ++ t).size) : (({ data := #[45] } : ByteArray) ++ t)[0] = 45 := by
  rw [ByteArray.getElem_append_left (show 0 < ({ data := #[45] } : ByteArray).size by decide)]; rfl
theorem ty_succ (t : ByteArray) (k : Nat) (h : k + 1 < (({ data := #[45] } : ByteArray) ++ t).size) (h' : k < t.size) : (({ data := #[45] } : ByteArray) ++ t)[k + 1] = t[k] := by
  have hs : ({ data := #[45] } : ByteArray).size = 1 := rfl
  rw [ByteArray.getElem_append_right (by rw [hs]; omega)]
  rfl
theorem zz_no (d : UInt8) (r : ByteArray) (hr : r.size ≤ 1048576) (h1 : 48 ≤ d.toNat) (h2 : d.toNat ≤ 57) (w : World) :
    Calls Try.prog 13 #[.string (({ data := #[48] } : ByteArray) ++ { data := #[d] } ++ r)] w fun e w' => e = .returned (.bool false) ∧ w' = w :=
  zz_plain _ w (by rw [tx_size]; omega) (by rw [tx_size]; omega) (by rw [tx0]; rfl) (by rw [tx1]; exact h1) (by rw [tx1]; exact h2)
theorem zz_neg (d : UInt8) (r : ByteArray) (hr : r.size ≤ 1048576) (h1 : 48 ≤ d.toNat) (h2 : d.toNat ≤ 57) (w : World) :
    Calls Try.prog 13 #[.string (({ data := #[45] } : ByteArray) ++ (({ data := #[48] } : ByteArray) ++ { data := #[d] } ++ r))] w fun e w' => e = .returned (.bool false) ∧ w' = w :=
  zz_minus _ w (by rw [ty_size, tx_size]; omega) (by rw [ty_size, tx_size]; omega) (by rw [ty0]; rfl) (by rw [ty_succ _ 0 _ (by rw [tx_size]; omega), tx0]; rfl) (by rw [ty_succ _ 1 _ (by rw [tx_size]; omega), tx1]; exact h1) (by rw [ty_succ _ 1 _ (by rw [tx_size]; omega), tx1]; exact h2)

/-! ### STEP 1: THE WALK: the Go text returns true. -/
set_option maxHeartbeats 400000 in
theorem core (neg : Bool) (a1 : Int) (d : UInt8) (r : ByteArray) (b0 : 0 ≤ a1) (b1 : a1 ≤ 255) (hd : (d.toNat : Int) = 48 + a1 % 10) (hr : r.size ≤ 1048576) (w : World) :
    Calls Try.prog 5 #[.bool neg, .int .u8 a1, .string r] w fun e w' => e = .returned (.bool true) ∧ Grown w w' := by
  have hcv := one_back w d
  rw [hd] at hcv
  have HD : Hid ((d.toNat : Int) = 48 + a1 % 10) := hd
  clear hd
  cases neg
  · go_enter Try.func5, Try.ntmps5
    go_wp2_with (go_at_call 16; go_in)
    refine (zz_no d r hr (by have := HD.out; omega) (by have := HD.out; omega) _).mono ?_
    rintro e w1 ⟨rfl, rfl⟩
    go_wp2_with fail
    go_ret
    exact ⟨rfl, (Grown.refl _).alloc _ _⟩
  · go_enter Try.func5, Try.ntmps5
    go_wp2_with (go_at_call 16; go_in)
    refine (zz_neg d r hr (by have := HD.out; omega) (by have := HD.out; omega) _).mono ?_
    rintro e w1 ⟨rfl, rfl⟩
    go_wp2_with fail
    go_ret
    exact ⟨rfl, (Grown.refl _).alloc _ _⟩

set_option maxHeartbeats 400000 in
theorem walk (a0 : Bool) (a1 : Int) (a2 : ByteArray) (w1 : (Lit.int .u8 a1).wf = true) (w2 : a2.size ≤ maxLen) (w : World) :
    Calls Try.prog 5 #[.bool a0, .int .u8 a1, .string a2] w fun e w' => e = .returned (.bool true) ∧ Grown w w' := by
  obtain ⟨b10, b11⟩ := bounds_u8 w1
  clear w1 w2
  by_cases hsz : 1048576 < a2.size
  · go_enter Try.func5, Try.ntmps5
    go_wp2
    go_ret
    exact ⟨rfl, Grown.refl _⟩
  · exact core a0 a1 (UInt8.ofNat (48 + a1 % 10).toNat) a2 b10 b11 (by simp; omega) (by omega) w

/-! ### THE ROW's STEP: WRITTEN OUT: LEAVE IT -/
set_option maxRecDepth 100000 in
theorem lifted (os : Os) (started : os.Started) (H : Type) (enc : TypeId × Value → H) :
    ReturnsInHanded {} Try.checked os 5 .any (Rows.fnIsJSONNumberRefusesLeadingZeroSpec.pre6 enc Try.prog Try.f5 Rows.fnIsJSONNumberRefusesLeadingZeroRow.domain false) (Rows.fnIsJSONNumberRefusesLeadingZeroSpec.post enc Try.prog Try.f5 false true false false) := by
  refine returnsInHanded_of_change (C := Try.checked) own started (by kernel_rfl) Try.func5
    (ChangeSpec.witness6 (enc := enc) (C := Try.checked) false ⟨#[], #[.bool false, .int .u8 0, .string ByteArray.empty], []⟩ 8 (by kernel_rfl) (by kernel_rfl) (by kernel_rfl) (by kernel_rfl)) ?_
  intro W base args ds gs before hval0 hW hcnd _
  have hval : ∀ (j : Nat) t v, Try.f5.params[j]? = some t → args[j]? = some v → Value.okWide Try.prog W .any base t v := hval0
  have hW' := hW
  obtain ⟨p, q, hA0, hV, rfl, hfz, hnd⟩ := hW
  have hA : DataW.TrodAll enc Try.prog W 0 (fun _ => true) true Try.f5.params.toList args.toList ds p := hA0
  rw [Try.params5] at hA hval
  obtain ⟨v0, vs0, d0, ds0, p0, q0, hargs, rfl, rfl, h0, r0⟩ := trodAll_cons hA
  obtain ⟨v1, vs1, d1, ds1, p1, q1, rfl, rfl, rfl, h1, r1⟩ := trodAll_cons r0
  obtain ⟨v2, vs2, d2, ds2, p2, q2, rfl, rfl, rfl, h2, r2⟩ := trodAll_cons r1
  obtain ⟨rfl, rfl, rfl⟩ := trodAll_nil r2
  obtain rfl : args = #[v0, v1, v2] := by cases args; simp_all
  obtain ⟨rfl, rfl⟩ := trodVars_none hV
  obtain ⟨a0, rfl, rfl, rfl⟩ := open_bool Try.underlying4 (hval 0 4 v0 rfl rfl) h0
  obtain ⟨a1, rfl, rfl, rfl, w1⟩ := open_int Try.underlying5 (hval 1 5 v1 rfl rfl) h1
  obtain ⟨a2, rfl, rfl, rfl, w2⟩ := open_string Try.underlying9 (hval 2 9 v2 rfl rfl) h2
  clear hA0 hval0
  simp only [List.append_nil] at hW'
  refine (walk a0 a1 a2 w1 w2 W).mono fun e W' ⟨he, hg⟩ => ?_
  subst he
  exact ⟨_, rfl, post_of_same (pa := []) (pv := []) hW' (fun _ _ _ => (trodAll_cons_mk (shut_bool Try.underlying4 _) trodAll_mk0)) (fun sp _ => (trodAll_cons_mk (shut_bool Try.underlying4 _) (trodAll_cons_mk (shut_int Try.underlying5 w1) (trodAll_cons_mk (shut_string Try.underlying9 w2) trodAll_mk0)))) (fun _ _ => rfl) rfl
    (hg.frame _) hg.2.1 (ok_one (by kernel_rfl) rfl (okWide_bool_mk Try.underlying4 _))⟩

theorem over : Rows.fnIsJSONNumberRefusesLeadingZeroRow.holds Try.pinned (OpenSpec.ofChange Rows.fnIsJSONNumberRefusesLeadingZeroSpec) :=
  OpenClaim.holds_of_wide 5 Try.f5 rfl rfl rfl rfl rfl rfl rfl ⟨rfl, rfl, rfl, rfl, rfl⟩ rfl rfl rfl rfl rfl (by kernel_rfl) Try.func5 closed
    (of_decide_eq_true (by kernel_rfl)) (by unfold Func.isWrapper; first | (rw [if_pos (by decide +kernel)]; kernel_rfl) | (rw [if_neg (by decide +kernel)]; exact ⟨rfl, rfl⟩))
    (fun os started H enc _ => lifted os started H enc)

/-- ████ THE STATEMENT ████ -/
theorem proved : Rows.FnIsJSONNumberRefusesLeadingZeroSaid :=
  over
end Go.Proofs.Qxb6000674a.fnIsJSONNumberRefusesLeadingZero
