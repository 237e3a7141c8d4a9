/-
  What add, drop and forget do to the plain state, and to memory.
-/
import Derived.Test.Qxb6003819aPlain
namespace Go.Proofs.Qxb6003819a
open Go.RowKit

theorem heap_set_same {w : World} {b : Nat} {cs : Array Value} {T : TypeId} {f : Nat × Nat} (h : w.heap[b]? = some (.cells cs T f)) (j : Nat) (u : Value) : (w.setCell ⟨b, j, none⟩ u).heap[b]? = some (.cells (cs.setIfInBounds j u) T f) := by
  simp [World.setCell, Array.getElem?_modify, h]
theorem heap_set_other {w : World} {b k : Nat} (j : Nat) (u : Value) (h : k ≠ b) : (w.setCell ⟨b, j, none⟩ u).heap[k]? = w.heap[k]? := Below.heap_setCell _ _ _ _ h
theorem shape_of {w : World} {b : Nat} {cs : Array Value} {T : TypeId} {f : Nat × Nat} (h : w.heap[b]? = some (.cells cs T f)) : w.shape? b = some (T, cs.size) := by simp [World.shape?, h]

/-! ### add -/
def St.push (S : St) (b c : Nat) : St :=
  { n := S.n + 1, vb := fun i => if i = S.n then b else S.vb i, cm := fun i => if i = S.n then c else S.cm i,
    od := fun i => if i = S.n then S.ks.getLast? else S.od i, nw := fun i => if i = S.n then none else if S.ks.getLast? = some i then some S.n else S.nw i,
    ks := S.ks ++ [S.n] }

theorem St.Ok.inj_ks {S : St} (ok : S.Ok) {i j x : Nat} (hi : S.ks[i]? = some x) (hj : S.ks[j]? = some x) : i = j := by
  rcases Nat.lt_trichotomy i j with h | h | h
  · have := ok.sorted i j _ _ h hi hj; omega
  · exact h
  · have := ok.sorted j i _ _ h hj hi; omega
theorem last_get (ks : List Nat) : ks.getLast? = ks[ks.length - 1]? := List.getLast?_eq_getElem?
theorem snoc_get {ks : List Nat} {n j x : Nat} (h : (ks ++ [n])[j]? = some x) : (j < ks.length ∧ ks[j]? = some x) ∨ (j = ks.length ∧ x = n) := by
  by_cases e : j < ks.length
  · rw [List.getElem?_append_left e] at h; exact .inl ⟨e, h⟩
  · rw [List.getElem?_append_right (by omega)] at h
    by_cases e2 : j = ks.length
    · subst e2; simp at h; exact .inr ⟨rfl, h.symm⟩
    · rw [List.getElem?_eq_none (by simp; omega)] at h; cases h
theorem get_lt {ks : List Nat} {j x : Nat} (h : ks[j]? = some x) : j < ks.length := (List.getElem?_eq_some_iff.1 h).1

theorem push_ok {S : St} {b c : Nat} (ok : S.Ok) (hc : c < 18446744073709551616) (hasc : ∀ i, i < S.n → S.cm i < c) (hb : ∀ i, i < S.n → S.vb i ≠ b) : (S.push b c).Ok := by
  refine ⟨?_, ?_, ?_, ?_, ?_, ?_, ?_, ?_, ?_, ?_⟩
  · intro i j x y hij hx hy
    rcases snoc_get hy with ⟨_, hy⟩ | ⟨_, rfl⟩
    · rcases snoc_get hx with ⟨_, hx⟩ | ⟨rfl, rfl⟩
      · exact ok.sorted i j x y hij hx hy
      · have := get_lt hy; omega
    · rcases snoc_get hx with ⟨_, hx⟩ | ⟨rfl, rfl⟩
      · exact ok.lt i x hx
      · omega
  · intro j x hx
    show x < S.n + 1
    rcases snoc_get hx with ⟨_, hx⟩ | ⟨_, rfl⟩
    · have := ok.lt j x hx; omega
    · omega
  · intro j x hx e
    have e' : j + 1 = S.ks.length + 1 := by simpa [St.push] using e
    show x + 1 = S.n + 1
    rcases snoc_get hx with ⟨h, hx⟩ | ⟨_, rfl⟩
    · omega
    · rfl
  · intro j x hx
    show (if x = S.n then S.ks.getLast? else S.od x) = if j = 0 then none else (S.ks ++ [S.n])[j - 1]?
    rcases snoc_get hx with ⟨h, hx⟩ | ⟨rfl, rfl⟩
    · rw [if_neg (by have := ok.lt j x hx; omega), ok.older j x hx]
      split
      · rfl
      · rw [List.getElem?_append_left (by omega)]
    · rw [if_pos rfl, last_get]
      split
      · rename_i h0; simp [h0]
      · rw [List.getElem?_append_left (by omega)]
  · intro j x hx
    show (if x = S.n then none else if S.ks.getLast? = some x then some S.n else S.nw x) = (S.ks ++ [S.n])[j + 1]?
    rcases snoc_get hx with ⟨h, hx⟩ | ⟨rfl, rfl⟩
    · rw [if_neg (by have := ok.lt j x hx; omega)]
      by_cases e2 : j + 1 = S.ks.length
      · rw [if_pos (by rw [last_get, show S.ks.length - 1 = j by omega]; exact hx), e2]; simp
      · rw [if_neg, ok.newer j x hx, List.getElem?_append_left (by omega)]
        intro h
        rw [last_get] at h
        have := ok.inj_ks h hx
        omega
    · rw [if_pos rfl]; simp
  · intro i hi hn
    have hi' : i < S.n + 1 := hi
    show (if i = S.n then none else if S.ks.getLast? = some i then some S.n else S.nw i) = none
    have hn' : i ∉ S.ks ∧ i ≠ S.n := by simpa [St.push, not_or] using hn
    rw [if_neg hn'.2, if_neg, ok.out i (by omega) hn'.1]
    intro h
    exact hn'.1 (List.mem_of_getLast? h)
  · intro i j hij hj
    have hj' : j < S.n + 1 := hj
    show (if i = S.n then c else S.cm i) < (if j = S.n then c else S.cm j)
    rw [if_neg (by omega)]
    split
    · exact hasc i (by omega)
    · exact ok.asc i j hij (by omega)
  · intro i j hi hj
    have hi' : i < S.n + 1 := hi
    have hj' : j < S.n + 1 := hj
    show (if i = S.n then b else S.vb i) = (if j = S.n then b else S.vb j) → i = j
    split <;> split
    · intro _; omega
    · intro h; exact absurd h.symm (hb j (by omega))
    · intro h; exact absurd h (hb i (by omega))
    · intro h; exact ok.inj i j (by omega) (by omega) h
  · intro i hi
    have hi' : i < S.n + 1 := hi
    show (if i = S.n then c else S.cm i) < _
    split
    · exact hc
    · exact ok.wide i (by omega)
  · intro i hi j
    have hi' : i < S.n + 1 := hi
    show (if i = S.n then S.ks.getLast? else S.od i) = some j → j < S.n + 1
    split
    · intro h
      rw [last_get] at h
      have := ok.lt _ _ h; omega
    · intro h; have := ok.odlt i (by omega) j h; omega

/-! ### drop -/
/-- Out goes the p-th of the kept: x; nx is the one behind it. -/
def St.cut (S : St) (p x nx : Nat) : St :=
  { S with od := fun i => if i = nx then S.od x else S.od i, nw := fun i => if i = x then none else if S.od x = some i then some nx else S.nw i, ks := S.ks.eraseIdx p }

theorem erase_get {ks : List Nat} {p j y : Nat} (h : (ks.eraseIdx p)[j]? = some y) : (j < p ∧ ks[j]? = some y) ∨ (p ≤ j ∧ ks[j + 1]? = some y) := by
  rw [List.getElem?_eraseIdx] at h
  split at h
  · exact .inl ⟨by assumption, h⟩
  · exact .inr ⟨by omega, h⟩
theorem get_erase (ks : List Nat) (p j : Nat) : (ks.eraseIdx p)[j]? = if j < p then ks[j]? else ks[j + 1]? := List.getElem?_eraseIdx

theorem cut_ok {S : St} {p x nx : Nat} (ok : S.Ok) (hp : S.ks[p]? = some x) (hnx : S.ks[p + 1]? = some nx) : (S.cut p x nx).Ok := by
  have hlen := get_lt hnx
  have hxlt := ok.lt p x hp
  have hnlt := ok.lt _ _ hnx
  have hox := ok.older p x hp
  have hxn : x < nx := ok.sorted p (p + 1) x nx (by omega) hp hnx
  refine ⟨?_, ?_, ?_, ?_, ?_, ?_, ?_, ?_, ?_, ?_⟩
  · intro i j y z hij hy hz
    rcases erase_get hy with ⟨_, hy⟩ | ⟨_, hy⟩
    · rcases erase_get hz with ⟨_, hz⟩ | ⟨_, hz⟩
      · exact ok.sorted i j y z hij hy hz
      · exact ok.sorted i (j + 1) y z (by omega) hy hz
    · rcases erase_get hz with ⟨_, hz⟩ | ⟨_, hz⟩
      · omega
      · exact ok.sorted (i + 1) (j + 1) y z (by omega) hy hz
  · intro j y hy
    rcases erase_get hy with ⟨_, hy⟩ | ⟨_, hy⟩
    · exact ok.lt j y hy
    · exact ok.lt _ y hy
  · intro j y hy e
    have e' : j + 1 = S.ks.length - 1 := by
      have : (S.cut p x nx).ks.length = S.ks.length - 1 := by show (S.ks.eraseIdx p).length = _; rw [List.length_eraseIdx, if_pos (by omega)]
      omega
    rcases erase_get hy with ⟨hj, hy⟩ | ⟨_, hy⟩
    · omega
    · exact ok.last (j + 1) y hy (by omega)
  · intro j y hy
    show (if y = nx then S.od x else S.od y) = if j = 0 then none else (S.ks.eraseIdx p)[j - 1]?
    rcases erase_get hy with ⟨hj, hq⟩ | ⟨hj, hq⟩
    · rw [if_neg, ok.older j y hq]
      · split
        · rfl
        · rw [get_erase, if_pos (by omega)]
      · rintro rfl; have := ok.inj_ks hq hnx; omega
    · by_cases e : j = p
      · subst e
        rw [hnx] at hq
        obtain rfl := Option.some.inj hq
        rw [if_pos rfl, hox]
        split
        · rfl
        · rw [get_erase, if_pos (by omega)]
      · rw [if_neg, ok.older (j + 1) y hq, if_neg (by omega), if_neg (by omega), get_erase, if_neg (by omega)]
        · congr 1; omega
        · rintro rfl; have := ok.inj_ks hq hnx; omega
  · intro j y hy
    show (if y = x then none else if S.od x = some y then some nx else S.nw y) = (S.ks.eraseIdx p)[j + 1]?
    rcases erase_get hy with ⟨hj, hq⟩ | ⟨hj, hq⟩
    · rw [if_neg (by rintro rfl; have := ok.inj_ks hq hp; omega)]
      by_cases e : j + 1 = p
      · rw [if_pos (by rw [hox, if_neg (by omega), show p - 1 = j by omega]; exact hq), get_erase, if_neg (by omega), e, hnx]
      · rw [if_neg, ok.newer j y hq, get_erase, if_pos (by omega)]
        rw [hox]
        split
        · simp
        · intro h; have := ok.inj_ks h hq; omega
    · rw [if_neg (by rintro rfl; have := ok.inj_ks hq hp; omega), if_neg, ok.newer (j + 1) y hq, get_erase, if_neg (by omega)]
      rw [hox]
      split
      · simp
      · intro h; have := ok.inj_ks h hq; omega
  · intro i hi hn
    show (if i = x then none else if S.od x = some i then some nx else S.nw i) = none
    by_cases e : i = x
    · rw [if_pos e]
    · have hni : i ∉ S.ks := by
        intro hm
        obtain ⟨j, hj⟩ := List.getElem?_of_mem hm
        apply hn
        show i ∈ S.ks.eraseIdx p
        have hjp : j ≠ p := by rintro rfl; rw [hp] at hj; exact e (Option.some.inj hj).symm
        by_cases h : j < p
        · exact List.mem_of_getElem? (i := j) (by rw [get_erase, if_pos h]; exact hj)
        · exact List.mem_of_getElem? (i := j - 1) (by rw [get_erase, if_neg (by omega), show j - 1 + 1 = j by omega]; exact hj)
      rw [if_neg e, if_neg, ok.out i hi hni]
      rw [hox]
      split
      · simp
      · intro h; exact hni (List.mem_of_getElem? h)
  · exact ok.asc
  · exact ok.inj
  · exact ok.wide
  · intro i hi j
    show (if i = nx then S.od x else S.od i) = some j → j < S.n
    split
    · exact ok.odlt x hxlt j
    · exact ok.odlt i hi j

/-! ### forget -/
def St.clear (S : St) : St := { S with nw := fun _ => none, ks := [] }
theorem clear_ok {S : St} (ok : S.Ok) : S.clear.Ok :=
  ⟨fun _ _ _ _ _ h => by simp [St.clear] at h, fun _ _ h => by simp [St.clear] at h, fun _ _ h => by simp [St.clear] at h, fun _ _ h => by simp [St.clear] at h, fun _ _ h => by simp [St.clear] at h, fun _ _ _ => rfl, ok.asc, ok.inj, ok.wide, ok.odlt⟩
end Go.Proofs.Qxb6003819a
