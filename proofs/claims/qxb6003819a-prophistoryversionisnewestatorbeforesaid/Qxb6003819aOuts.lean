/-
  The scripts, and zzHistOutside: where it says no, the script is within the premise.
-/
import Derived.Test.Qxb6003819aLists
namespace Go.Proofs.Qxb6003819a
open Go.RowKit

structure Op where
  kd : Int
  cm : Int
  ix : Int
def ORow (w : World) (a : Option Addr) (ops : List Op) : Prop :=
  ops = [] ∨ ∃ b off, a = some ⟨b, off, none⟩ ∧ ∀ i op, ops[i]? = some op → w.cell? ⟨b, off + i * 3, none⟩ = some (.int .i64 op.kd) ∧ w.cell? ⟨b, off + i * 3 + 1, none⟩ = some (.int .u64 op.cm) ∧ w.cell? ⟨b, off + i * 3 + 2, none⟩ = some (.int .i64 op.ix)
theorem ORow.get {w : World} {a : Option Addr} {ops : List Op} (h : ORow w a ops) {k : Nat} {op : Op} (hk : ops[k]? = some op) : ∃ b off, a = some ⟨b, off, none⟩ ∧ b < w.heap.size ∧ w.cell? ⟨b, off + k * 3, none⟩ = some (.int .i64 op.kd) ∧ w.cell? ⟨b, off + k * 3 + 1, none⟩ = some (.int .u64 op.cm) ∧ w.cell? ⟨b, off + k * 3 + 2, none⟩ = some (.int .i64 op.ix) := by
  rcases h with rfl | ⟨b, off, rfl, h⟩
  · simp at hk
  · obtain ⟨h1, h2, h3⟩ := h k op hk
    exact ⟨b, off, rfl, World.block_lt_of_cell? w _ h1, h1, h2, h3⟩
theorem ORow.kept {w w' : World} {a : Option Addr} {ops : List Op} (h : ORow w a ops) (hb : Below w.heap.size w w') : ORow w' a ops := by
  rcases h with h0 | ⟨b, off, rfl, h⟩
  · exact .inl h0
  · by_cases h0 : ops = []
    · exact .inl h0
    · obtain ⟨op, hop⟩ : ∃ op, ops[0]? = some op := ⟨_, List.getElem?_eq_getElem (List.length_pos_iff.2 h0)⟩
      have hlt : b < w.heap.size := World.block_lt_of_cell? w _ (h 0 op hop).1
      refine .inr ⟨b, off, rfl, fun i op hi => ?_⟩
      obtain ⟨h1, h2, h3⟩ := h i op hi
      exact ⟨(hb.cell (p := ⟨b, off + i * 3, none⟩) hlt).trans h1, (hb.cell (p := ⟨b, off + i * 3 + 1, none⟩) hlt).trans h2, (hb.cell (p := ⟨b, off + i * 3 + 2, none⟩) hlt).trans h3⟩

/-- How many were added, and the last added's commit. -/
def added (ops : List Op) : Nat := (ops.filter (fun o => o.kd == 0)).length
def lastC (ops : List Op) : Int := match (ops.filter (fun o => o.kd == 0)).getLast? with | none => 0 | some o => o.cm
theorem added_le (ops : List Op) : added ops ≤ ops.length := List.length_filter_le _ _
theorem take_snoc {ops : List Op} {k : Nat} {op : Op} (h : ops[k]? = some op) : ops.take (k + 1) = ops.take k ++ [op] := by
  obtain ⟨hl, rfl⟩ := List.getElem?_eq_some_iff.1 h
  exact List.take_succ_eq_append_getElem hl
theorem added_add {ops : List Op} {k : Nat} {op : Op} (h : ops[k]? = some op) (hk : op.kd = 0) : added (ops.take (k + 1)) = added (ops.take k) + 1 ∧ lastC (ops.take (k + 1)) = op.cm := by
  rw [take_snoc h]
  simp [added, lastC, List.filter_append, hk]
theorem added_else {ops : List Op} {k : Nat} {op : Op} (h : ops[k]? = some op) (hk : op.kd ≠ 0) : added (ops.take (k + 1)) = added (ops.take k) ∧ lastC (ops.take (k + 1)) = lastC (ops.take k) := by
  rw [take_snoc h]
  simp [added, lastC, List.filter_append, hk]

/-- The premise at step k. -/
def Good (ops : List Op) (k : Nat) (op : Op) : Prop :=
  (op.kd = 0 ∧ (0 < added (ops.take k) → lastC (ops.take k) < op.cm)) ∨ (op.kd = 1 ∧ 0 ≤ op.ix ∧ op.ix < (added (ops.take k) : Int) - 1) ∨ op.kd = 2
def Inside (ops : List Op) (n : Nat) : Prop := ∀ k op, k < n → ops[k]? = some op → Good ops k op
theorem inside_next {ops : List Op} {k : Nat} {op : Op} (h : Inside ops k) (hk : ops[k]? = some op) (hg : Good ops k op) : Inside ops (k + 1) := by
  intro j op' hj hj'
  by_cases e : j = k
  · subst e; rw [hk] at hj'; obtain rfl := Option.some.inj hj'; exact hg
  · exact h j op' (by omega) hj'

/-- A bool is answered; nothing old has turned; where it is false S holds. -/
def Says (S : Prop) (w : World) (e : Ending) (w' : World) : Prop := ∃ r : Bool, e = .returned (.bool r) ∧ Below w.heap.size w w' ∧ (r = false → S)

set_option maxRecDepth 100000 in
set_option maxHeartbeats 4000000 in
theorem outside_any (a : Option Addr) (n c : Nat) (ops : List Op) (w : World) (hn : ops.length = n) (hm : n ≤ 4096) (hr : ORow w a ops) :
    Calls Try.prog 5 #[.slice a n c] w (Says (Inside ops n) w) := by
  have HR := Hid.mk hr
  have HN := Hid.mk hn
  clear hr hn
  go_enter Try.func5, Try.ntmps5
  go_wp2_with fail
  go_loopw [3, 4, 5] (fun l d i wr => ∃ (k ad : Nat) (lc : Int), k ≤ n ∧ i = .int .i64 k ∧ d = .int .i64 ad ∧ l = .int .u64 lc ∧ ad ≤ k ∧ Below w.heap.size w wr ∧ Hid (ad = added (ops.take k) ∧ lc = lastC (ops.take k) ∧ Inside ops k)) (fun _ _ i _ => n - (intOf i).toNat)
  case atStart => exact ⟨0, 0, 0, Nat.zero_le _, rfl, rfl, rfl, Nat.le_refl _, Below.refl _ _, by simp [added], by simp [lastC], fun k op hk => by omega⟩
  case round =>
    obtain ⟨k, ad, lc, hk, rfl, rfl, rfl, had, hbel, HI⟩ := hrel
    have HL := Hid.mk hbel
    have hszr := hbel.size
    by_cases hlt : k < n
    · obtain ⟨op, hop⟩ : ∃ op, ops[k]? = some op := ⟨_, List.getElem?_eq_getElem (by rw [HN.out]; exact hlt)⟩
      obtain ⟨b, off, rfl, hbl, g0, g1, g2⟩ := (HR.out.kept hbel).get hop
      have HOP := Hid.mk hop
      obtain ⟨kd, cm, ix⟩ := op
      simp only at g0 g1 g2
      clear hop hbel
      by_cases h0 : kd = 0
      · have b0 : (kd == 0) = true := by simp [h0]
        have H0 := Hid.mk h0
        clear h0
        by_cases h1 : 0 < ad
        · by_cases h2 : cm ≤ lc
          · go_wp2_with fail
            go_ret
            exact ⟨_, rfl, HL.out.alloc hszr _, fun h => by cases h⟩
          · go_wp2_with fail
            go_roundw
            case rel => exact ⟨k + 1, ad + 1, cm, by omega, by go_num, by go_num, rfl, by omega, HL.out.alloc hszr _, by rw [(added_add HOP.out H0.out).1, ← HI.out.1], (added_add HOP.out H0.out).2.symm, inside_next HI.out.2.2 HOP.out (.inl ⟨H0.out, fun _ => by rw [← HI.out.2.1]; show lc < cm; omega⟩)⟩
            case measure => simp [intOf]; omega
        · have h1' : ad = 0 := by omega
          subst h1'
          go_wp2_with fail
          go_roundw
          case rel => exact ⟨k + 1, 1, cm, by omega, by go_num, by go_num, rfl, by omega, HL.out.alloc hszr _, by rw [(added_add HOP.out H0.out).1, ← HI.out.1], (added_add HOP.out H0.out).2.symm, inside_next HI.out.2.2 HOP.out (.inl ⟨H0.out, fun h => by rw [← HI.out.1] at h; omega⟩)⟩
          case measure => simp [intOf]; omega
      · have b0 : (kd == 0) = false := by simp [h0]
        have A := Hid.mk (added_else HOP.out h0)
        by_cases h1 : kd = 1
        · have b1 : (kd == 1) = true := by simp [h1]
          have H1 := Hid.mk h1
          clear h0 h1
          by_cases h2 : ix < 0
          · go_wp2_with fail
            go_ret
            exact ⟨_, rfl, HL.out.alloc hszr _, fun h => by cases h⟩
          · by_cases h3 : (ad : Int) - 1 ≤ ix
            · go_wp2_with fail
              go_ret
              exact ⟨_, rfl, HL.out.alloc hszr _, fun h => by cases h⟩
            · go_wp2_with fail
              go_roundw
              case rel => exact ⟨k + 1, ad, lc, by omega, by go_num, rfl, rfl, by omega, HL.out.alloc hszr _, by rw [A.out.1, ← HI.out.1], by rw [A.out.2, ← HI.out.2.1], inside_next HI.out.2.2 HOP.out (.inr (.inl ⟨H1.out, by show (0 : Int) ≤ ix; omega, by rw [← HI.out.1]; show ix < (ad : Int) - 1; omega⟩))⟩
              case measure => simp [intOf]; omega
        · have b1 : (kd == 1) = false := by simp [h1]
          by_cases h2 : kd = 2
          · have b2 : (kd == 2) = true := by simp [h2]
            have H2 := Hid.mk h2
            clear h0 h1 h2
            go_wp2_with fail
            go_roundw
            case rel => exact ⟨k + 1, ad, lc, by omega, by go_num, rfl, rfl, by omega, HL.out.alloc hszr _, by rw [A.out.1, ← HI.out.1], by rw [A.out.2, ← HI.out.2.1], inside_next HI.out.2.2 HOP.out (.inr (.inr H2.out))⟩
            case measure => simp [intOf]; omega
          · have b2 : (kd == 2) = false := by simp [h2]
            clear h0 h1 h2
            go_wp2_with fail
            go_ret
            exact ⟨_, rfl, HL.out.alloc hszr _, fun h => by cases h⟩
    · go_wp2_with fail
      go_ret
      obtain rfl : k = n := by omega
      exact ⟨_, rfl, HL.out, fun _ => HI.out.2.2⟩
end Go.Proofs.Qxb6003819a
