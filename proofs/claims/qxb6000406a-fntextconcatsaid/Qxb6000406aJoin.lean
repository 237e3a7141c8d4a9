/-
  joinStrings, joinBools: the rows that they hand back.
-/
import Derived.Test.Qxb6000406aCount
namespace Go.Proofs.Qxb6000406a
open Go.RowKit
theorem Try.info9 : (Try.prog.info? 9).map (fun i => (i.zero, i.size, i.bytes)) = some (some (.string ⟨#[]⟩), 1, 16) := by kernel_rfl
theorem Try.info4 : (Try.prog.info? 4).map (fun i => (i.zero, i.size, i.bytes)) = some (some (.bool false), 1, 1) := by kernel_rfl
theorem take_next' (vs : List Value) (k : Nat) (h : k < vs.length) : vs.take (k + 1) = vs.take k ++ [vs[k]] := List.take_succ_eq_append_getElem h

/-- An owned row read as a row. -/
theorem row_of_owns {w : World} {B : Nat} {e : TypeId} {n : Nat} {vs : List Value} {v : Value} (h : w.ownsRow B e 1 v n vs) : ∃ a cap, v = .slice a n cap ∧ vs.length = n ∧ Row w a vs := by
  rcases h.2 with ⟨rfl, rfl⟩ | ⟨g, cap, cur, rfl, _⟩
  · exact ⟨_, _, rfl, by simpa using h.1, .inl (List.length_eq_zero_iff.1 (by simpa using h.1))⟩
  · refine ⟨_, _, rfl, by simpa using h.1, .inr ⟨g, 0, rfl, fun i hi => ?_⟩⟩
    have := h.cells (g := g) rfl i vs[i] (List.getElem?_eq_getElem hi)
    have ea : (⟨g, 0, none⟩ : Addr).add i = ⟨g, 0 + i, none⟩ := by unfold Addr.add; split <;> simp_all
    rw [ea] at this
    exact this

set_option maxHeartbeats 2000000 in
theorem joinStrings (a0 a1 : Option Addr) (n0 n1 c0 c1 : Nat) (us vs : List Value) (w : World) (hn0 : us.length = n0) (hn1 : vs.length = n1) (h0 : n0 ≤ 1048576) (h1 : n1 ≤ 1048576) (r0 : Row w a0 us) (r1 : Row w a1 vs)
    (k0 : ∀ u ∈ us, ∃ s, u = .string s) (k1 : ∀ u ∈ vs, ∃ s, u = .string s) :
    Calls Try.prog 14 #[.slice a0 n0 c0, .slice a1 n1 c1] w fun e w' => ∃ a c, e = .returned (.slice a (n0 + n1) c) ∧ Row w' a (us ++ vs) ∧ Below w.heap.size w w' := by
  obtain ⟨i0, hi, hz0, hz1, hz2⟩ := info_parts Try.info9
  have R0 := Hid.mk r0
  have R1 := Hid.mk r1
  have N0 := Hid.mk hn0
  have N1 := Hid.mk hn1
  have K0 := Hid.mk k0
  have K1 := Hid.mk k1
  have I := Hid.mk (And.intro hi (And.intro hz0 (And.intro hz1 hz2)))
  clear r0 r1 hn0 hn1 k0 k1
  go_enter Try.func14, Try.ntmps14
  go_wp2_with (at_make; refine wpList_make_own _ rfl _ _ 22 rfl w.heap.size 9 i0 _ 1 Try.underlying22 hi hz0 hz1 .i64 .i64 _ (n0 + n1) rfl rfl (by omega) (by rw [hz2]; omega) (by unfold maxLen; omega) (Nat.le_refl _) ?_)
  intro w1 hown hgrow
  have hb1 := (Below.refl w.heap.size w).grown hgrow (Nat.le_refl _) (fun k hk => by cases hk)
  have HO := Hid.mk hown
  have HB := Hid.mk hb1
  clear hown hgrow hb1 hi hz0 hz1 hz2
  go_wp2_with fail
  go_loopw [5, 6] (fun out i wr => ∃ k : Nat, k ≤ n0 ∧ i = .int .i64 k ∧ wr.ownsRow w.heap.size 9 1 out k (us.take k) ∧ Below w.heap.size w wr) (fun _ i _ => n0 - (intOf i).toNat)
  case atStart => exact ⟨0, Nat.zero_le _, rfl, by simpa using HO.out, HB.out⟩
  case round =>
    obtain ⟨k, hk, rfl, hown, hbel⟩ := hrel
    clear HO HB
    have HO := Hid.mk hown
    have HL := Hid.mk hbel
    by_cases hlt : k < n0
    · have hk' : k < us.length := by rw [N0.out]; exact hlt
      obtain ⟨b, off, rfl, hbl, hc⟩ := R0.out.at hk'
      have hck := (hbel.cell (p := ⟨b, off + k, none⟩) hbl).trans (hc k hk')
      obtain ⟨s, hs⟩ := K0.out us[k] (List.getElem_mem _)
      rw [hs] at hck
      have HS := Hid.mk hs
      have hszr := hbel.size
      obtain ⟨hi, hz0, hz1, hz2⟩ := I.out
      clear hc hs hbel hbl
      go_wp2_with (at_builtin; refine wpList_append_own _ rfl _ _ 22 rfl w.heap.size 9 i0 _ 1 16 Try.underlying22 hi hz0 hz1 hz2 rfl (by decide) _ _ _ rfl (hown.alloc _) ⟨wr.heap.size, 0, none⟩ 1 1 [.string s] rfl rfl (cell_one_new _ _ _) (by intro u hu; simp at hu; subst hu; rfl) (by unfold maxLen; omega) (by omega) (by simp; omega) ?_)
      intro v' w2 hown' hgrow _
      have hb2 := (HL.out.alloc hszr (.cells #[.string s] 9)).grown hgrow (by simp; omega) (fun j hj => (hown.lt j hj).1)
      have HO2 := Hid.mk hown'
      have HB2 := Hid.mk hb2
      clear hown' hgrow hb2 hown hi hz0 hz1 hz2
      go_wp2_with fail
      go_roundw
      case rel => exact ⟨k + 1, by omega, by go_num, by rw [take_next' us k hk', HS.out]; exact HO2.out, HB2.out⟩
      case measure => simp [intOf]; omega
    · obtain rfl : k = n0 := by omega
      clear hown hbel
      go_wp2_with fail
      go_loopw [5, 7] (fun out i wr => ∃ k2 : Nat, k2 ≤ n1 ∧ i = .int .i64 k2 ∧ wr.ownsRow w.heap.size 9 1 out (k + k2) (us ++ vs.take k2) ∧ Below w.heap.size w wr) (fun _ i _ => n1 - (intOf i).toNat)
      case atStart => exact ⟨0, Nat.zero_le _, rfl, by have := HO.out; rw [List.take_of_length_le (by rw [N0.out]; omega)] at this; simpa using this, HL.out⟩
      case round =>
        obtain ⟨k2, hk2, rfl, hown, hbel⟩ := hrel
        clear HO HL
        have HO := Hid.mk hown
        have HL := Hid.mk hbel
        by_cases hlt2 : k2 < n1
        · have hk' : k2 < vs.length := by rw [N1.out]; exact hlt2
          obtain ⟨b, off, rfl, hbl, hc⟩ := R1.out.at hk'
          have hck := (hbel.cell (p := ⟨b, off + k2, none⟩) hbl).trans (hc k2 hk')
          obtain ⟨s, hs⟩ := K1.out vs[k2] (List.getElem_mem _)
          rw [hs] at hck
          have HS := Hid.mk hs
          have hszr := hbel.size
          obtain ⟨hi, hz0, hz1, hz2⟩ := I.out
          clear hc hs hbel hbl
          go_wp2_with (at_builtin; refine wpList_append_own _ rfl _ _ 22 rfl w.heap.size 9 i0 _ 1 16 Try.underlying22 hi hz0 hz1 hz2 rfl (by decide) _ _ _ rfl (hown.alloc _) ⟨wr.heap.size, 0, none⟩ 1 1 [.string s] rfl rfl (cell_one_new _ _ _) (by intro u hu; simp at hu; subst hu; rfl) (by unfold maxLen; omega) (by omega) (by simp; omega) ?_)
          intro v' w2 hown' hgrow _
          have hb2 := (HL.out.alloc hszr (.cells #[.string s] 9)).grown hgrow (by simp; omega) (fun j hj => (hown.lt j hj).1)
          have HO2 := Hid.mk hown'
          have HB2 := Hid.mk hb2
          clear hown' hgrow hb2 hown hi hz0 hz1 hz2
          go_wp2_with fail
          go_roundw
          case rel => exact ⟨k2 + 1, by omega, by go_num, by rw [take_next' vs k2 hk', HS.out, ← Nat.add_assoc]; exact HO2.out, HB2.out⟩
          case measure => simp [intOf]; omega
        · obtain rfl : k2 = n1 := by omega
          have hfin := HO.out
          rw [List.take_of_length_le (by rw [N1.out]; omega)] at hfin
          obtain ⟨a, cap, rfl, hl, hrow⟩ := row_of_owns hfin
          have HR := Hid.mk hrow
          clear hfin hrow hl hown hbel
          go_wp2_with fail
          go_ret
          exact ⟨a, cap, rfl, HR.out, HL.out⟩

set_option maxHeartbeats 2000000 in
theorem joinBools (a0 a1 : Option Addr) (n0 n1 c0 c1 : Nat) (us vs : List Value) (w : World) (hn0 : us.length = n0) (hn1 : vs.length = n1) (h0 : n0 ≤ 1048576) (h1 : n1 ≤ 1048576) (r0 : Row w a0 us) (r1 : Row w a1 vs)
    (k0 : ∀ u ∈ us, ∃ s, u = .bool s) (k1 : ∀ u ∈ vs, ∃ s, u = .bool s) :
    Calls Try.prog 15 #[.slice a0 n0 c0, .slice a1 n1 c1] w fun e w' => ∃ a c, e = .returned (.slice a (n0 + n1) c) ∧ Row w' a (us ++ vs) ∧ Below w.heap.size w w' := by
  obtain ⟨i0, hi, hz0, hz1, hz2⟩ := info_parts Try.info4
  have R0 := Hid.mk r0
  have R1 := Hid.mk r1
  have N0 := Hid.mk hn0
  have N1 := Hid.mk hn1
  have K0 := Hid.mk k0
  have K1 := Hid.mk k1
  have I := Hid.mk (And.intro hi (And.intro hz0 (And.intro hz1 hz2)))
  clear r0 r1 hn0 hn1 k0 k1
  go_enter Try.func15, Try.ntmps15
  go_wp2_with (at_make; refine wpList_make_own _ rfl _ _ 23 rfl w.heap.size 4 i0 _ 1 Try.underlying23 hi hz0 hz1 .i64 .i64 _ (n0 + n1) rfl rfl (by omega) (by rw [hz2]; omega) (by unfold maxLen; omega) (Nat.le_refl _) ?_)
  intro w1 hown hgrow
  have hb1 := (Below.refl w.heap.size w).grown hgrow (Nat.le_refl _) (fun k hk => by cases hk)
  have HO := Hid.mk hown
  have HB := Hid.mk hb1
  clear hown hgrow hb1 hi hz0 hz1 hz2
  go_wp2_with fail
  go_loopw [5, 6] (fun out i wr => ∃ k : Nat, k ≤ n0 ∧ i = .int .i64 k ∧ wr.ownsRow w.heap.size 4 1 out k (us.take k) ∧ Below w.heap.size w wr) (fun _ i _ => n0 - (intOf i).toNat)
  case atStart => exact ⟨0, Nat.zero_le _, rfl, by simpa using HO.out, HB.out⟩
  case round =>
    obtain ⟨k, hk, rfl, hown, hbel⟩ := hrel
    clear HO HB
    have HO := Hid.mk hown
    have HL := Hid.mk hbel
    by_cases hlt : k < n0
    · have hk' : k < us.length := by rw [N0.out]; exact hlt
      obtain ⟨b, off, rfl, hbl, hc⟩ := R0.out.at hk'
      have hck := (hbel.cell (p := ⟨b, off + k, none⟩) hbl).trans (hc k hk')
      obtain ⟨s, hs⟩ := K0.out us[k] (List.getElem_mem _)
      rw [hs] at hck
      have HS := Hid.mk hs
      have hszr := hbel.size
      obtain ⟨hi, hz0, hz1, hz2⟩ := I.out
      clear hc hs hbel hbl
      go_wp2_with (at_builtin; refine wpList_append_own _ rfl _ _ 23 rfl w.heap.size 4 i0 _ 1 1 Try.underlying23 hi hz0 hz1 hz2 rfl (by decide) _ _ _ rfl (hown.alloc _) ⟨wr.heap.size, 0, none⟩ 1 1 [.bool s] rfl rfl (cell_one_new _ _ _) (by intro u hu; simp at hu; subst hu; rfl) (by unfold maxLen; omega) (by omega) (by simp; omega) ?_)
      intro v' w2 hown' hgrow _
      have hb2 := (HL.out.alloc hszr (.cells #[.bool s] 4)).grown hgrow (by simp; omega) (fun j hj => (hown.lt j hj).1)
      have HO2 := Hid.mk hown'
      have HB2 := Hid.mk hb2
      clear hown' hgrow hb2 hown hi hz0 hz1 hz2
      go_wp2_with fail
      go_roundw
      case rel => exact ⟨k + 1, by omega, by go_num, by rw [take_next' us k hk', HS.out]; exact HO2.out, HB2.out⟩
      case measure => simp [intOf]; omega
    · obtain rfl : k = n0 := by omega
      clear hown hbel
      go_wp2_with fail
      go_loopw [5, 7] (fun out i wr => ∃ k2 : Nat, k2 ≤ n1 ∧ i = .int .i64 k2 ∧ wr.ownsRow w.heap.size 4 1 out (k + k2) (us ++ vs.take k2) ∧ Below w.heap.size w wr) (fun _ i _ => n1 - (intOf i).toNat)
      case atStart => exact ⟨0, Nat.zero_le _, rfl, by have := HO.out; rw [List.take_of_length_le (by rw [N0.out]; omega)] at this; simpa using this, HL.out⟩
      case round =>
        obtain ⟨k2, hk2, rfl, hown, hbel⟩ := hrel
        clear HO HL
        have HO := Hid.mk hown
        have HL := Hid.mk hbel
        by_cases hlt2 : k2 < n1
        · have hk' : k2 < vs.length := by rw [N1.out]; exact hlt2
          obtain ⟨b, off, rfl, hbl, hc⟩ := R1.out.at hk'
          have hck := (hbel.cell (p := ⟨b, off + k2, none⟩) hbl).trans (hc k2 hk')
          obtain ⟨s, hs⟩ := K1.out vs[k2] (List.getElem_mem _)
          rw [hs] at hck
          have HS := Hid.mk hs
          have hszr := hbel.size
          obtain ⟨hi, hz0, hz1, hz2⟩ := I.out
          clear hc hs hbel hbl
          go_wp2_with (at_builtin; refine wpList_append_own _ rfl _ _ 23 rfl w.heap.size 4 i0 _ 1 1 Try.underlying23 hi hz0 hz1 hz2 rfl (by decide) _ _ _ rfl (hown.alloc _) ⟨wr.heap.size, 0, none⟩ 1 1 [.bool s] rfl rfl (cell_one_new _ _ _) (by intro u hu; simp at hu; subst hu; rfl) (by unfold maxLen; omega) (by omega) (by simp; omega) ?_)
          intro v' w2 hown' hgrow _
          have hb2 := (HL.out.alloc hszr (.cells #[.bool s] 4)).grown hgrow (by simp; omega) (fun j hj => (hown.lt j hj).1)
          have HO2 := Hid.mk hown'
          have HB2 := Hid.mk hb2
          clear hown' hgrow hb2 hown hi hz0 hz1 hz2
          go_wp2_with fail
          go_roundw
          case rel => exact ⟨k2 + 1, by omega, by go_num, by rw [take_next' vs k2 hk', HS.out, ← Nat.add_assoc]; exact HO2.out, HB2.out⟩
          case measure => simp [intOf]; omega
        · obtain rfl : k2 = n1 := by omega
          have hfin := HO.out
          rw [List.take_of_length_le (by rw [N1.out]; omega)] at hfin
          obtain ⟨a, cap, rfl, hl, hrow⟩ := row_of_owns hfin
          have HR := Hid.mk hrow
          clear hfin hrow hl hown hbel
          go_wp2_with fail
          go_ret
          exact ⟨a, cap, rfl, HR.out, HL.out⟩
end Go.Proofs.Qxb6000406a
