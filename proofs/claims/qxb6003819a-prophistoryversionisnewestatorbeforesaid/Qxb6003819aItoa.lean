/-
  zzItoa: the decimal digits.
-/
import Derived.Test.Qxb6003819aRows
import Derived.Test.Qxb6003819aPlain
import Derived.WalkSpells
import Derived.WalkLawsBesides
import Derived.Deep.OwnRows
namespace Go.Proofs.Qxb6003819a
open Go.RowKit

/-- The cells of a row of bytes. -/
def bcells (l : List UInt8) : Array Value := (l.map (fun b => Value.int .u8 (b.toNat : Int))).toArray
theorem bcells_set (l : List UInt8) (k : Nat) (b : UInt8) : (bcells l).setIfInBounds k (.int .u8 (b.toNat : Int)) = bcells (l.set k b) := by
  simp [bcells, List.map_set]
theorem bcells_get (l : List UInt8) (n k : Nat) (hl : l.length = n) (h : k < n) : ∃ v, (bcells l)[k]? = some v := by
  subst hl
  exact ⟨_, by simp [bcells, h]; rfl⟩
theorem bcell (w : World) (T : TypeId) (l : List UInt8) (i : Nat) (j : Nat) (hj : j < (l.drop i).length) : (w.alloc (.cells (bcells l) T)).cell? (Addr.add ⟨w.heap.size, i, none⟩ j) = some (.int .u8 ((l.drop i)[j].toNat : Int)) := by
  have e : Addr.add ⟨w.heap.size, i, none⟩ j = ⟨w.heap.size, i + j, none⟩ := by
    unfold Addr.add
    split
    · simp_all
    · simp
  rw [e, World.cell?_alloc_at _ _ _ _ rfl]
  simp at hj
  simp [bcells, show i + j < l.length by omega]

theorem itoa_zero (w : World) (n : Int) (h : n ≤ 0) : Calls Try.prog 9 #[.int .i64 n] w fun e w' => e = .returned (.string ⟨#[48]⟩) ∧ w' = w := by
  go_enter Try.func9, Try.ntmps9
  go_wp2_with fail
  go_ret
  exact ⟨rfl, rfl⟩

theorem dig_zero (f : Nat) (acc : List UInt8) : dig f 0 acc = acc := by
  cases f with
  | zero => rfl
  | succ f => simp [dig]
theorem dig_step (k m : Nat) (l : List UInt8) (hm : m ≠ 0) (hl : l.length = 24) (hk : k < 4) : dig (16 + (k + 1)) m (l.drop (20 + (k + 1))) = dig (16 + k) (m / 10) ((l.set (20 + k) (UInt8.ofNat (48 + m % 10))).drop (20 + k)) := by
  have e : (l.set (20 + k) (UInt8.ofNat (48 + m % 10))).drop (20 + k) = UInt8.ofNat (48 + m % 10) :: l.drop (20 + (k + 1)) := by
    rw [List.drop_eq_getElem_cons (by simp; omega), List.getElem_set_self, Nat.add_assoc, List.drop_set_of_lt (by omega)]
  rw [e]
  show dig (16 + k + 1) m _ = _
  simp [dig, hm]
theorem div_lt (k m : Nat) (h : m < 10 ^ (k + 1)) : m / 10 < 10 ^ k := by
  rw [Nat.pow_succ] at h
  exact Nat.div_lt_of_lt_mul (by omega)
theorem pow_small (k : Nat) (h : k ≤ 4) : 10 ^ k ≤ 10000 := by
  match k, h with
  | 0, _ => decide
  | 1, _ => decide
  | 2, _ => decide
  | 3, _ => decide
  | 4, _ => decide
theorem byte_of (m : Nat) : Value.int .u8 (48 + (m : Int) % 10) = .int .u8 ((UInt8.ofNat (48 + m % 10)).toNat : Int) := by
  congr 1
  simp
  omega

theorem slice24 (b k : Nat) (hk : k < 4) (w : World) : (Instr.sliceAt 83 (.pointer (some ⟨b, 0, none⟩)) (some (.int .i64 (20 + (k : Int)))) none none).run Try.prog w = .ok (.slice (some ⟨b, 20 + k, none⟩) (4 - k) (4 - k)) w := by
  have hl : Try.prog.arrayLen 83 = 24 := by kernel_rfl
  have hs : (sizeOf (Try.prog.elem 83)).run Try.prog w = .ok 1 w := by
    have : Try.prog.elem 83 = 5 := by kernel_rfl
    rw [this]; exact Try.sizeOf5 w
  rw [run_sliceAt_array_l w 83 ⟨b, 0, none⟩ (by kernel_rfl) .i64 (20 + (k : Int)) (by omega) (by rw [hl]; omega), hs, hl]
  have e1 : (20 + (k : Int)).toNat = 20 + k := by omega
  simp only [Result.andThen_ok, slicedAt, e1, Nat.mul_one]
  rw [if_neg (by omega)]
  have e2 : (⟨b, 0, none⟩ : Addr).add (20 + k) = ⟨b, 20 + k, none⟩ := by unfold Addr.add; split <;> simp_all
  rw [e2, show 24 - (20 + k) = 4 - k by omega]

set_option maxRecDepth 100000 in
set_option maxHeartbeats 1000000 in
theorem itoa_pos (w : World) (n : Nat) (h : 0 < n) (hn : n < 10000) : Calls Try.prog 9 #[.int .i64 (n : Int)] w fun e w' => e = .returned (.string ⟨(dig 20 n []).toArray⟩) ∧ Below w.heap.size w w' := by
  go_enter Try.func9, Try.ntmps9
  go_wp2_with fail
  go_loopw [0, 4] (fun v i wr => ∃ (k m : Nat) (l : List UInt8), k ≤ 4 ∧ v = .int .i64 m ∧ i = .int .i64 (20 + (k : Int)) ∧ l.length = 24 ∧ wr = w.alloc (.cells (bcells l) 83) ∧ m < 10000 ∧ (0 < m ∨ k < 4) ∧ Hid (m < 10 ^ k ∧ dig 20 n [] = dig (16 + k) m (l.drop (20 + k)))) (fun _ i _ => (intOf i).toNat)
  case atStart => exact ⟨4, n, List.replicate 24 0, by omega, rfl, rfl, by simp, rfl, hn, .inl h, hn, by simp⟩
  case round =>
    obtain ⟨k, m, l, hk, rfl, rfl, hl, rfl, hm4, hmk, HD⟩ := hrel
    have HL := Hid.mk hl
    by_cases hm : 0 < m
    · obtain ⟨k', rfl⟩ : ∃ k', k = k' + 1 := by
        cases k with
        | zero => have := HD.out.1; simp at this; omega
        | succ k' => exact ⟨k', rfl⟩
      obtain ⟨v, hg⟩ := bcells_get l _ (20 + k') hl (by omega)
      have hne : (m == 0) = false := by simp; omega
      clear hl
      go_wp2_with fail
      rw [byte_of, bcells_set]
      go_roundw
      case rel => exact ⟨k', m / 10, l.set (20 + k') (UInt8.ofNat (48 + m % 10)), by omega, by go_num, by go_num, by simp; exact HL.out, rfl, by omega, .inr (by omega), div_lt _ _ HD.out.1, by rw [← dig_step k' m l (by omega) HL.out (by omega)]; exact HD.out.2⟩
      case measure => simp [intOf]; omega
    · obtain rfl : m = 0 := by omega
      have hcv := run_convert_bytes_back (P := Try.prog) (w.alloc (.cells (bcells l) 83)) 84 9 5 ⟨w.heap.size, 20 + k, none⟩ (4 - k) (l.drop (20 + k)) Try.underlying84 Try.underlying5 Try.underlying9 (bcell w 83 l (20 + k))
      rw [List.length_drop, hl, show 24 - (20 + k) = 4 - k by omega] at hcv
      have hsl := slice24 w.heap.size k (by omega) (w.alloc (.cells (bcells l) 83))
      clear hl
      go_wp2_with fail
      go_ret
      refine ⟨?_, (Below.refl _ _).alloc (Nat.le_refl _) _⟩
      have := HD.out.2
      rw [dig_zero] at this
      rw [this]
      rfl
theorem itoa_any (w : World) (n : Nat) (hn : n < 10000) : Calls Try.prog 9 #[.int .i64 (n : Int)] w fun e w' => e = .returned (.string (itoa n)) ∧ Below w.heap.size w w' := by
  unfold itoa
  by_cases h : n = 0
  · rw [if_pos h]
    refine (itoa_zero w n (by omega)).mono ?_
    rintro e w' ⟨rfl, rfl⟩
    exact ⟨rfl, Below.refl _ _⟩
  · rw [if_neg h]
    exact itoa_pos w n (by omega) hn
end Go.Proofs.Qxb6003819a
