import Derived.Test.Qxb6000673aRows
import Derived.WalkKit
import Derived.WalkSpells
import Derived.WalkLawsBesides
import Derived.Deep.OwnRows
namespace Go.Proofs.Qxb6000673a
open Go.RowKit

/-! fitsHeader refuses -/
set_option maxHeartbeats 400000 in
theorem fits_empty (w : World) : Calls Try.prog 10 #[.string ⟨#[]⟩] w fun e w' => e = .returned (.bool false) ∧ w' = w := by
  go_enter Try.func10, Try.ntmps10
  go_wp2
  go_ret
  exact ⟨rfl, rfl⟩

set_option maxHeartbeats 400000 in
/-- A first byte, or a last byte, that is a space; or a control byte anywhere: refused. -/
theorem fits20_bad (s : ByteArray) (p : Nat) (w : World) (hs : s.size ≤ 1048577) (hp : p < s.size) (hb : (s[p].toNat : Int) < 32 ∨ (s[p].toNat : Int) = 127 ∨ (p = 0 ∧ (s[p].toNat : Int) = 32) ∨ (p = s.size - 1 ∧ (s[p].toNat : Int) = 32)) :
    Calls Try.prog 20 #[.string s] w fun e w' => e = .returned (.bool false) ∧ w' = w := by
  have HB : Hid ((s[p].toNat : Int) < 32 ∨ (s[p].toNat : Int) = 127 ∨ (p = 0 ∧ (s[p].toNat : Int) = 32) ∨ (p = s.size - 1 ∧ (s[p].toNat : Int) = 32)) := hb
  clear hb
  go_enter Try.func20, Try.ntmps20
  go_wp2
  · go_ret
    exact ⟨rfl, rfl⟩
  · go_ret
    exact ⟨rfl, rfl⟩
  · go_ret
    exact ⟨rfl, rfl⟩
  · have h0 : 0 < s.size := by assumption
    have hn0 : ¬ (s[0].toNat : Int) = 32 := by assumption
    have hlast : (s.toList.isEmpty = false ∧ ((s[0].toNat : Int) == 32) = false) ∧ ((s[s.size - 1].toNat : Int) == 32) = false := by assumption
    have hn1 : ¬ (s[s.size - 1].toNat : Int) = 32 := by simpa using hlast.2
    have HC : Hid ((s[p].toNat : Int) < 32 ∨ (s[p].toNat : Int) = 127) := by
      rcases HB.out with h | h | ⟨rfl, h⟩ | ⟨rfl, h⟩
      · exact .inl h
      · exact .inr h
      · exact absurd h hn0
      · exact absurd h hn1
    clear HB hlast hn1 hn0
    go_loop [3] (fun i => ∃ k : Nat, k ≤ p ∧ i = .int .i64 k) (fun i => s.size - (intOf i).toNat)
    case atStart => exact ⟨0, Nat.zero_le _, rfl⟩
    case round =>
      obtain ⟨k, hk, rfl⟩ := hrel
      have hlt : k < s.size := by omega
      go_wp2
      · go_ret
        exact ⟨rfl, rfl⟩
      · have h1 : 32 ≤ (s[k].toNat : Int) ∧ ((s[k].toNat : Int) == 127) = false := by assumption
        have hne : k ≠ p := by
          rintro rfl
          have h2 : ¬ (s[k].toNat : Int) = 127 := by simpa using h1.2
          rcases HC.out with h | h
          · omega
          · exact h2 h
        exact ⟨⟨k + 1, by omega, by omega⟩, by simp [intOf]; omega⟩
      · go_ret
        exact ⟨rfl, rfl⟩

theorem fits_bad (s : ByteArray) (p : Nat) (w : World) (hs : s.size ≤ 1048577) (hp : p < s.size) (hb : (s[p].toNat : Int) < 32 ∨ (s[p].toNat : Int) = 127 ∨ (p = 0 ∧ (s[p].toNat : Int) = 32) ∨ (p = s.size - 1 ∧ (s[p].toNat : Int) = 32)) :
    Calls Try.prog 10 #[.string s] w fun e w' => e = .returned (.bool false) ∧ w' = w := by
  have H := fits20_bad s p w hs hp hb
  clear hb
  go_enter Try.func10, Try.ntmps10
  go_wp2_with (go_at_call 20; refine H.mono ?_; rintro e w' ⟨rfl, rfl⟩)
  go_ret
  exact ⟨rfl, rfl⟩

/-! b1Insert -/
theorem Try.info5 : (Try.prog.info? 5).map (fun i => (i.zero, i.size, i.bytes)) = some (some (.int .u8 0), 1, 1) := by kernel_rfl

/-- The cells of a row of bytes. -/
def bcells (l : List UInt8) : Array Value := (l.map (fun b => Value.int .u8 (b.toNat : Int))).toArray
theorem bcells_size (l : List UInt8) : (bcells l).size = l.length := by simp [bcells]
theorem bcells_set (l : List UInt8) (k : Nat) (b : UInt8) : (bcells l).setIfInBounds k (.int .u8 (b.toNat : Int)) = bcells (l.set k b) := by
  simp [bcells, List.map_set]
theorem bcells_made (n : Nat) : madeCells #[Value.int .u8 0] n = bcells (List.replicate n 0) := by
  apply Array.ext
  · simp [madeCells, bcells]
  · intro j h1 h2
    simp [madeCells, bcells, Nat.mod_one]
theorem bcells_get (l : List UInt8) (n k : Nat) (hl : l.length = n) (h : k < n) : ∃ v, (bcells l)[k]? = some v := by
  subst hl
  exact ⟨_, by simp [bcells, h]; rfl⟩

theorem bcell (w : World) (l : List UInt8) (j : Nat) (hj : j < l.length) : (w.alloc (.cells (bcells l) 5)).cell? (Addr.add ⟨w.heap.size, 0, none⟩ j) = some (.int .u8 (l[j].toNat : Int)) := by
  have e : Addr.add ⟨w.heap.size, 0, none⟩ j = ⟨w.heap.size, j, none⟩ := by
    unfold Addr.add
    split
    · simp_all
    · simp
  rw [e, World.cell?_alloc_at _ _ _ _ rfl]
  simp [bcells, hj]

set_option maxHeartbeats 400000 in
theorem insert_any (s : ByteArray) (i : Nat) (c : UInt8) (w : World) (hs : s.size ≤ 1048576) (hi : i ≤ s.size) :
    Calls Try.prog 12 #[.string s, .int .i64 i, .int .u8 (c.toNat : Int)] w fun e w' => ∃ r : ByteArray, e = .returned (.string r) ∧ Grown w w' ∧ r.size = s.size + 1 ∧ ∃ h : i < r.size, r[i] = c := by
  have hmk := run_make_row' (P := Try.prog) 28 5 (.int .u8 0) 1 Try.underlying28 Try.info5 rfl .i64 .i64 (s.size + 1) (by omega) (by omega)
  have ec : ((s.size + 1 : Nat) : Int) = (s.size : Int) + 1 := by omega
  rw [ec] at hmk
  rw [bcells_made] at hmk
  clear ec
  go_enter Try.func12, Try.ntmps12
  go_wp2
  go_loopw [8] (fun j wr => ∃ (k : Nat) (l : List UInt8), k ≤ i ∧ j = .int .i64 k ∧ l.length = s.size + 1 ∧ wr = w.alloc (.cells (bcells l) 5)) (fun j _ => i - (intOf j).toNat)
  case atStart => exact ⟨0, List.replicate (s.size + 1) 0, Nat.zero_le _, rfl, by simp, rfl⟩
  case round =>
    obtain ⟨k, l, hk, rfl, hl, rfl⟩ := hrel
    have HL : Hid (l.length = s.size + 1) := hl
    by_cases hlt : k < i
    · have hks : k < s.size := by omega
      obtain ⟨v, hg⟩ := bcells_get l _ k hl (by omega)
      clear hl hmk
      go_wp2
      go_roundw
      case rel => exact ⟨k + 1, l.set k s[k], by omega, by go_num, by simp; exact HL.out, by rw [bcells_set]⟩
      case measure => simp [intOf]; omega
    · obtain ⟨v, hg⟩ := bcells_get l _ i hl (by omega)
      clear hl hmk
      go_wp2
      rw [bcells_set]
      have HG : Hid (∃ l' : List UInt8, l' = l.set i c ∧ l'.length = s.size + 1 ∧ l'[i]? = some c) := ⟨_, rfl, by simp; exact HL.out, by rw [List.getElem?_set_self (by rw [HL.out]; omega)]⟩
      clear hg HL
      obtain ⟨l', hl', h1, h2⟩ := HG.out
      rw [← hl']
      clear hl' HG
      have H1 : Hid (l'.length = s.size + 1 ∧ l'[i]? = some c) := ⟨h1, h2⟩
      clear h1 h2
      go_loopw [9] (fun j wr => ∃ (k : Nat) (l : List UInt8), i ≤ k ∧ k ≤ s.size ∧ j = .int .i64 k ∧ l.length = s.size + 1 ∧ l[i]? = some c ∧ wr = w.alloc (.cells (bcells l) 5)) (fun j _ => s.size - (intOf j).toNat)
      case atStart => exact ⟨i, l', Nat.le_refl _, hi, rfl, H1.out.1, H1.out.2, rfl⟩
      case round =>
        obtain ⟨k2, l2, hk2, hk3, rfl, hl2, hi2, rfl⟩ := hrel
        have HL : Hid (l2.length = s.size + 1 ∧ l2[i]? = some c) := ⟨hl2, hi2⟩
        by_cases hlt : k2 < s.size
        · obtain ⟨v, hg⟩ := bcells_get l2 _ (k2 + 1) hl2 (by omega)
          clear hl2 hi2
          go_wp2
          go_roundw
          case rel => exact ⟨k2 + 1, l2.set (k2 + 1) s[k2], by omega, by omega, by go_num, by simp; exact HL.out.1, by rw [List.getElem?_set_ne (by omega)]; exact HL.out.2, by rw [bcells_set]⟩
          case measure => simp [intOf]; omega
        · have hcv := run_convert_bytes_back (P := Try.prog) (w.alloc (.cells (bcells l2) 5)) 28 9 5 ⟨w.heap.size, 0, none⟩ (s.size + 1) l2 Try.underlying28 Try.underlying5 Try.underlying9 (bcell w l2)
          rw [hl2] at hcv
          clear hl2 hi2
          go_wp2
          go_ret
          refine ⟨_, rfl, (Grown.refl _).alloc _ _, ?_, ?_⟩
          · show l2.toArray.size = _
            simp; exact HL.out.1
          · refine ⟨by show i < l2.toArray.size; simp; rw [HL.out.1]; omega, ?_⟩
            have := HL.out.2
            obtain ⟨h, e⟩ := List.getElem?_eq_some_iff.1 this
            exact e
end Go.Proofs.Qxb6000673a
