/-
  zzIndexOf, zzRemoveAt, zzHistAnswers.
-/
import Derived.Test.Qxb6003819aRead
import Derived.Deep.OwnRows
namespace Go.Proofs.Qxb6003819a
open Go.RowKit

/-- The cells of a slice: from its address on. -/
def Row (w : World) (a : Option Addr) (vs : List Value) : Prop :=
  vs = [] ∨ ∃ b off, a = some ⟨b, off, none⟩ ∧ ∀ i (h : i < vs.length), w.cell? ⟨b, off + i, none⟩ = some vs[i]
theorem Row.at {w : World} {a : Option Addr} {vs : List Value} (h : Row w a vs) {k : Nat} (hk : k < vs.length) : ∃ b off, a = some ⟨b, off, none⟩ ∧ b < w.heap.size ∧ ∀ i (h : i < vs.length), w.cell? ⟨b, off + i, none⟩ = some vs[i] := by
  rcases h with rfl | ⟨b, off, rfl, h⟩
  · simp at hk
  · exact ⟨b, off, rfl, World.block_lt_of_cell? w _ (h k hk), h⟩
theorem Row.kept {w w' : World} {a : Option Addr} {vs : List Value} (h : Row w a vs) (hb : Below w.heap.size w w') : Row w' a vs := by
  by_cases h0 : vs = []
  · exact .inl h0
  · obtain ⟨b, off, rfl, hlt, hc⟩ := h.at (List.length_pos_iff.2 h0)
    exact .inr ⟨b, off, rfl, fun i hi => (hb.cell (p := ⟨b, off + i, none⟩) hlt).trans (hc i hi)⟩
theorem row_of_owns {w : World} {B : Nat} {e : TypeId} {n : Nat} {vs : List Value} {v : Value} (h : w.ownsRow B e 1 v n vs) : ∃ a cap, v = .slice a n cap ∧ vs.length = n ∧ Row w a vs := by
  rcases h.2 with ⟨rfl, rfl⟩ | ⟨g, cap, cur, rfl, _⟩
  · exact ⟨_, _, rfl, by simpa using h.1, .inl (List.length_eq_zero_iff.1 (by simpa using h.1))⟩
  · refine ⟨_, _, rfl, by simpa using h.1, .inr ⟨g, 0, rfl, fun i hi => ?_⟩⟩
    have := h.cells (g := g) rfl i vs[i] (List.getElem?_eq_getElem hi)
    have ea : (⟨g, 0, none⟩ : Addr).add i = ⟨g, 0 + i, none⟩ := by unfold Addr.add; split <;> simp_all
    rw [ea] at this
    exact this
/-- A row's cell at k, with its address. -/
theorem Row.get {w : World} {a : Option Addr} {vs : List Value} (h : Row w a vs) {k : Nat} {v : Value} (hk : vs[k]? = some v) : ∃ b off, a = some ⟨b, off, none⟩ ∧ w.cell? ⟨b, off + k, none⟩ = some v := by
  obtain ⟨hl, rfl⟩ := List.getElem?_eq_some_iff.1 hk
  obtain ⟨b, off, rfl, _, hc⟩ := h.at hl
  exact ⟨b, off, rfl, hc k hl⟩
def ints (ks : List Nat) : List Value := ks.map (fun (i : Nat) => Value.int .i64 (i : Int))
theorem ints_get (ks : List Nat) (k x : Nat) (h : ks[k]? = some x) : (ints ks)[k]? = some (.int .i64 (x : Int)) := by simp [ints, h]
theorem ints_len (ks : List Nat) : (ints ks).length = ks.length := by simp [ints]

/-- Where x stands among ks, or -1. -/
def Found (ks : List Nat) (x : Nat) (r : Int) : Prop := (∃ p : Nat, r = (p : Int) ∧ ks[p]? = some x) ∨ (r = -1 ∧ x ∉ ks)

set_option maxHeartbeats 1000000 in
theorem indexOf_any (a : Option Addr) (n c x : Nat) (ks : List Nat) (w : World) (hn : ks.length = n) (hm : n ≤ 1000000) (hr : Row w a (ints ks)) :
    Calls Try.prog 12 #[.slice a n c, .int .i64 (x : Int)] w fun e w' => ∃ r : Int, e = .returned (.int .i64 r) ∧ w' = w ∧ Found ks x r := by
  have HR := Hid.mk hr
  have HN := Hid.mk hn
  clear hr hn
  go_enter Try.func12, Try.ntmps12
  go_wp2_with fail
  go_loop [5] (fun i => ∃ k : Nat, k ≤ n ∧ i = .int .i64 k ∧ Hid (∀ j, j < k → ks[j]? ≠ some x)) (fun i => n - (intOf i).toNat)
  case atStart => exact ⟨0, Nat.zero_le _, rfl, fun j hj => by omega⟩
  case round =>
    obtain ⟨k, hk, rfl, HJ⟩ := hrel
    by_cases hlt : k < n
    · obtain ⟨y, hy⟩ : ∃ y, ks[k]? = some y := ⟨_, List.getElem?_eq_getElem (by rw [HN.out]; exact hlt)⟩
      obtain ⟨b, off, rfl, hck⟩ := HR.out.get (ints_get ks k y hy)
      have HY := Hid.mk hy
      clear hy
      by_cases e : y = x
      · have hb : ((y : Int) == (x : Int)) = true := by simp [e]
        have HE := Hid.mk e
        clear e
        go_wp2_with fail
        go_ret
        exact ⟨_, rfl, rfl, .inl ⟨k, rfl, by rw [← HE.out]; exact HY.out⟩⟩
      · have hb : ((y : Int) == (x : Int)) = false := by simp; omega
        go_wp2_with fail
        go_round
        case rel => exact ⟨k + 1, by omega, by go_num, fun j hj => by
          by_cases h : j = k
          · subst h; rw [HY.out]; intro h2; exact e (Option.some.inj h2)
          · exact HJ.out j (by omega)⟩
        case measure => simp [intOf]; omega
    · go_wp2_with fail
      go_ret
      refine ⟨_, rfl, rfl, .inr ⟨rfl, fun hm => ?_⟩⟩
      obtain ⟨j, hj⟩ := List.getElem?_of_mem hm
      have := (List.getElem?_eq_some_iff.1 hj).1
      exact HJ.out j (by rw [HN.out] at this; omega) hj

theorem Try.info3 : (Try.prog.info? 3).map (fun i => (i.zero, i.size, i.bytes)) = some (some (.int .i64 0), 1, 8) := by kernel_rfl
theorem Try.info33 : (Try.prog.info? 33).map (fun i => (i.zero, i.size, i.bytes)) = some (some (.pointer none), 1, 8) := by kernel_rfl

theorem erase_take (ks : List Nat) (p k x : Nat) (h : ks[k]? = some x) : (ks.take (k + 1)).eraseIdx p = (ks.take k).eraseIdx p ++ (if k = p then [] else [x]) := by
  obtain ⟨hl, rfl⟩ := List.getElem?_eq_some_iff.1 h
  rw [List.take_succ_eq_append_getElem hl]
  by_cases hp : p < k
  · rw [List.eraseIdx_append_of_lt_length (by simp; omega), if_neg (by omega)]
  · rw [List.eraseIdx_append_of_length_le (by simp; omega), List.eraseIdx_of_length_le (show (ks.take k).length ≤ p by simp; omega)]
    have e : (ks.take k).length = k := by simp; omega
    rw [e]
    by_cases e2 : k = p
    · subst e2; simp
    · rw [if_neg e2, List.eraseIdx_of_length_le (by simp; omega)]

set_option maxHeartbeats 2000000 in
set_option maxRecDepth 100000 in
theorem removeAt_any (a : Option Addr) (n c p : Nat) (ks : List Nat) (w : World) (hn : ks.length = n) (hm : n ≤ 1000000) (hr : Row w a (ints ks)) :
    Calls Try.prog 14 #[.slice a n c, .int .i64 (p : Int)] w fun e w' => ∃ v, e = .returned v ∧ w'.ownsRow w.heap.size 3 1 v (ks.eraseIdx p).length (ints (ks.eraseIdx p)) ∧ Below w.heap.size w w' := by
  obtain ⟨i0, hi, hz0, hz1, hz2⟩ := info_parts Try.info3
  have HR := Hid.mk hr
  have HN := Hid.mk hn
  have I := Hid.mk (And.intro hi (And.intro hz0 (And.intro hz1 hz2)))
  clear hr hn
  go_enter Try.func14, Try.ntmps14
  go_wp2_with (at_make; refine wpList_make_own _ rfl _ _ 31 rfl w.heap.size 3 i0 _ 1 Try.underlying31 hi hz0 hz1 .i64 .i64 _ n rfl rfl (by omega) (by rw [hz2]; omega) (by unfold maxLen; omega) (Nat.le_refl _) ?_)
  intro w1 hown hgrow
  have hb1 := (Below.refl w.heap.size w).grown hgrow (Nat.le_refl _) (fun k hk => by cases hk)
  have HO := Hid.mk hown
  have HB := Hid.mk hb1
  clear hown hgrow hb1 hi hz0 hz1 hz2
  go_wp2_with fail
  go_loopw [5, 6] (fun out i wr => ∃ (k : Nat) (xs : List Nat), k ≤ n ∧ i = .int .i64 k ∧ wr.ownsRow w.heap.size 3 1 out xs.length (ints xs) ∧ Below w.heap.size w wr ∧ xs.length ≤ k ∧ Hid (xs = (ks.take k).eraseIdx p)) (fun _ i _ => n - (intOf i).toNat)
  case atStart => exact ⟨0, [], Nat.zero_le _, rfl, HO.out, HB.out, Nat.le_refl _, by simp [Hid]⟩
  case round =>
    obtain ⟨k, xs, hk, rfl, hown, hbel, hll, HX⟩ := hrel
    clear HO HB
    have HO := Hid.mk hown
    have HL := Hid.mk hbel
    by_cases hlt : k < n
    · obtain ⟨y, hy⟩ : ∃ y, ks[k]? = some y := ⟨_, List.getElem?_eq_getElem (by rw [HN.out]; exact hlt)⟩
      have hT := erase_take ks p k y hy
      obtain ⟨b, off, rfl, hck⟩ := (HR.out.kept hbel).get (ints_get ks k y hy)
      have hszr := hbel.size
      by_cases e : k = p
      · subst e
        rw [if_pos rfl, List.append_nil] at hT
        have HT := Hid.mk hT
        clear hown hbel hT hy
        go_wp2_with fail
        go_roundw
        case rel => exact ⟨k + 1, xs, by omega, by go_num, HO.out, HL.out, by omega, by rw [HT.out]; exact HX.out⟩
        case measure => simp [intOf]; omega
      · rw [if_neg e] at hT
        have HT := Hid.mk hT
        have eb : ((k : Int) == (p : Int)) = false := by simp; omega
        obtain ⟨hi, hz0, hz1, hz2⟩ := I.out
        clear hbel hT hy
        go_wp2_with (at_builtin; refine wpList_append_own _ rfl _ _ 31 rfl w.heap.size 3 i0 _ 1 8 Try.underlying31 hi hz0 hz1 hz2 rfl (by decide) _ _ _ rfl (hown.alloc _) ⟨wr.heap.size, 0, none⟩ 1 1 [.int .i64 (y : Int)] rfl rfl (cell_one_new _ _ _) (by intro u hu; simp at hu; subst hu; rfl) (by unfold maxLen; omega) (by omega) (by simp; omega) ?_)
        intro v' w2 hown' hgrow _
        have hb2 := (HL.out.alloc hszr (.cells #[.int .i64 (y : Int)] 3)).grown hgrow (by simp; omega) (fun j hj => (hown.lt j hj).1)
        have HO2 := Hid.mk hown'
        have HB2 := Hid.mk hb2
        clear hown' hgrow hb2 hown hi hz0 hz1 hz2
        go_wp2_with fail
        go_roundw
        case rel => exact ⟨k + 1, xs ++ [y], by omega, by go_num, by have := HO2.out; simpa [ints] using this, HB2.out, by simp; omega, by rw [HT.out, ← HX.out]; rfl⟩
        case measure => simp [intOf]; omega
    · have hxs := HX.out
      rw [List.take_of_length_le (by rw [HN.out]; omega)] at hxs
      have HF := Hid.mk hxs
      clear hxs hown hbel
      go_wp2_with fail
      go_ret
      exact ⟨_, rfl, by rw [← HF.out]; exact HO.out, HL.out⟩

/-! zzHistAnswers -/
def u64s (ps : List Int) : List Value := ps.map (fun s => Value.int .u64 s)
theorem u64s_get (ps : List Int) (k : Nat) (s : Int) (h : ps[k]? = some s) : (u64s ps)[k]? = some (.int .u64 s) := by simp [u64s, h]
def St.answers (S : St) (ps : List Int) : List Value := ps.map (fun s => Value.pointer (S.ptr (S.ans s)))
theorem made_nil (n : Nat) : madeCells #[Value.pointer none] n = (List.replicate n (Value.pointer none)).toArray := by
  apply Array.ext
  · simp [madeCells]
  · intro j h1 h2
    simp [madeCells, Nat.mod_one]
theorem set_next (A : List Value) (n k : Nat) (v u : Value) (hA : A.length = k) (hk : k < n) : (A ++ List.replicate (n - k) u).set k v = A ++ [v] ++ List.replicate (n - (k + 1)) u := by
  rw [List.set_append_right _ _ (by omega), show n - k = (n - (k + 1)) + 1 by omega, List.replicate_succ, hA, Nat.sub_self]
  simp

set_option maxRecDepth 100000 in
set_option maxHeartbeats 2000000 in
theorem answers_any (h : Nat) (S : St) (a : Option Addr) (n c : Nat) (ps : List Int) (w : World) (ok : S.Ok) (m : Mem h S w) (hn : ps.length = n) (hm : n ≤ 1000000) (hr : Row w a (u64s ps)) :
    Calls Try.prog 11 #[.pointer (some ⟨h, 0, none⟩), .slice a n c] w fun e w' => e = .returned (.slice (some ⟨w.heap.size, 0, none⟩) n n) ∧ w' = w.alloc (.cells (S.answers ps).toArray 33) := by
  have hmk := run_make_row' (P := Try.prog) 30 33 (.pointer none) 8 Try.underlying30 Try.info33 rfl .i64 .i64 n (by omega) (by omega)
  rw [made_nil] at hmk
  have HR := Hid.mk hr
  have HN := Hid.mk hn
  have OK := Hid.mk ok
  have M := Hid.mk m
  clear hr hn ok m
  go_enter Try.func11, Try.ntmps11
  go_wp2_with fail
  clear hmk
  go_loopw [6] (fun i wr => ∃ (k : Nat) (A : List Value), k ≤ n ∧ i = .int .i64 k ∧ A.length = k ∧ wr = w.alloc (.cells (A ++ List.replicate (n - k) (Value.pointer none)).toArray 33) ∧ Hid (A = (S.answers ps).take k)) (fun i _ => n - (intOf i).toNat)
  case atStart => exact ⟨0, [], Nat.zero_le _, rfl, rfl, by simp, by simp [Hid]⟩
  case round =>
    obtain ⟨k, A, hk, rfl, hA, rfl, HA⟩ := hrel
    have HAL := Hid.mk hA
    by_cases hlt : k < n
    · obtain ⟨s, hs⟩ : ∃ s, ps[k]? = some s := ⟨_, List.getElem?_eq_getElem (by rw [HN.out]; exact hlt)⟩
      have hbel : Below w.heap.size w (w.alloc (.cells (A ++ List.replicate (n - k) (Value.pointer none)).toArray 33)) := (Below.refl _ _).alloc (Nat.le_refl _) _
      obtain ⟨b, off, rfl, hck⟩ := HR.out.get (u64s_get ps k s hs)
      have hblt : b < w.heap.size := World.block_lt_of_cell? w _ hck
      have HS := Hid.mk hs
      have HM := Hid.mk (M.out.below hbel)
      have hcell : ((A ++ List.replicate (n - k) (Value.pointer none)).toArray)[k]? = some (Value.pointer none) := by
        rw [List.getElem?_toArray, List.getElem?_append_right (by omega), hA, Nat.sub_self, List.getElem?_replicate, if_pos (by omega)]
      clear hs hbel
      obtain ⟨cur, hcur⟩ : ∃ cur, cur = (A ++ List.replicate (n - k) (Value.pointer none)).toArray := ⟨_, rfl⟩
      rw [← hcur] at hcell
      rw [← hcur] at HM
      rw [← hcur]
      have HC := Hid.mk hcur
      clear hcur hA
      go_wp2_with fail
      refine (zzVersion h S s _ OK.out HM.out).mono ?_
      rintro e w1 ⟨rfl, rfl⟩
      obtain ⟨pv, hpv⟩ : ∃ pv, pv = S.ptr (S.ans s) := ⟨_, rfl⟩
      rw [← hpv]
      have HP := Hid.mk hpv
      clear hpv
      go_wp2_with fail
      go_roundw
      case rel =>
        refine ⟨k + 1, A ++ [Value.pointer pv], by omega, by go_num, by simp; exact HAL.out, ?_, ?_⟩
        · rw [HC.out, List.setIfInBounds_toArray, set_next A n k _ _ HAL.out hlt]
        · have e : (S.answers ps)[k]? = some (Value.pointer pv) := by simp [St.answers, HS.out, HP.out]
          obtain ⟨hl, e⟩ := List.getElem?_eq_some_iff.1 e
          show _ = _
          rw [List.take_succ_eq_append_getElem hl, e, ← HA.out]
      case measure => simp [intOf]; omega
    · obtain rfl : k = n := by omega
      clear hA
      go_wp2_with fail
      go_ret
      refine ⟨rfl, ?_⟩
      rw [HA.out, List.take_of_length_le (by simp [St.answers]; rw [HN.out]; omega)]
end Go.Proofs.Qxb6003819a
