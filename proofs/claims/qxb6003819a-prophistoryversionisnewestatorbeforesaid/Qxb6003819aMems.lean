/-
  The steps in memory.
-/
import Derived.Test.Qxb6003819aSteps
namespace Go.Proofs.Qxb6003819a
open Go.RowKit

theorem St.Ok.nwlt {S : St} (ok : S.Ok) {i j : Nat} (hi : i < S.n) (h : S.nw i = some j) : j < S.n := by
  by_cases hm : i ∈ S.ks
  · obtain ⟨p, hp⟩ := List.getElem?_of_mem hm
    rw [ok.newer p i hp] at h
    exact ok.lt _ _ h
  · rw [ok.out i hi hm] at h; cases h
theorem ptr_push {S : St} {b c : Nat} {o : Option Nat} (h : ∀ i, o = some i → i < S.n) : (S.push b c).ptr o = S.ptr o := by
  cases o with
  | none => rfl
  | some i =>
    have := h i rfl
    show some (⟨if i = S.n then b else S.vb i, 0, none⟩ : Addr) = some ⟨S.vb i, 0, none⟩
    rw [if_neg (by omega)]
theorem ptr_push_new (S : St) (b c : Nat) : (S.push b c).ptr (some S.n) = some ⟨b, 0, none⟩ := by
  show some (⟨if S.n = S.n then b else S.vb S.n, 0, none⟩ : Addr) = _
  rw [if_pos rfl]

/-- A new version, not yet in the history. -/
def Fresh (b : Nat) (S : St) (c : Nat) (w : World) : Prop := w.heap[b]? = some (.cells #[.int .u64 (c : Int), .string (itoa S.n), .bool false, .pointer none, .pointer none] 82 (0, 0)) ∧ ∀ i, i < S.n → S.vb i ≠ b
theorem Fresh.ne {b h c : Nat} {S : St} {w : World} (f : Fresh b S c w) (m : Mem h S w) : b ≠ h := by
  rintro rfl
  have h1 := f.1
  rw [m.top] at h1
  simp only [Option.some.injEq, Obj.cells.injEq] at h1
  exact absurd h1.2.1 (by decide)

theorem push_vcells_old {S : St} (ok : S.Ok) {b c i : Nat} (hi : i < S.n) : (S.push b c).vcells i = #[.int .u64 (S.cm i : Int), .string (itoa i), .bool false, .pointer (S.ptr (S.od i)), .pointer (if S.ks.getLast? = some i then some ⟨b, 0, none⟩ else S.ptr (S.nw i))] := by
  have e1 : (S.push b c).cm i = S.cm i := by show (if i = S.n then c else S.cm i) = _; rw [if_neg (by omega)]
  have e2 : (S.push b c).od i = S.od i := by show (if i = S.n then _ else S.od i) = _; rw [if_neg (by omega)]
  have e3 : (S.push b c).nw i = if S.ks.getLast? = some i then some S.n else S.nw i := by show (if i = S.n then none else _) = _; rw [if_neg (by omega)]
  unfold St.vcells
  rw [e1, e2, e3, ptr_push (fun j hj => ok.odlt i hi j hj)]
  by_cases h : S.ks.getLast? = some i
  · rw [if_pos h, if_pos h, ptr_push_new]
  · rw [if_neg h, if_neg h, ptr_push (fun j hj => ok.nwlt hi hj)]
theorem push_vcells_new {S : St} (ok : S.Ok) {b c : Nat} : (S.push b c).vcells S.n = #[.int .u64 (c : Int), .string (itoa S.n), .bool false, .pointer (S.ptr S.ks.getLast?), .pointer none] := by
  have e1 : (S.push b c).cm S.n = c := by show (if S.n = S.n then c else S.cm S.n) = _; rw [if_pos rfl]
  have e2 : (S.push b c).od S.n = S.ks.getLast? := by show (if S.n = S.n then _ else S.od S.n) = _; rw [if_pos rfl]
  have e3 : (S.push b c).nw S.n = none := by show (if S.n = S.n then none else _) = _; rw [if_pos rfl]
  unfold St.vcells
  rw [e1, e2, e3, ptr_push (fun j hj => by rw [last_get] at hj; exact ok.lt _ _ hj)]
  rfl
theorem push_top (S : St) (b c : Nat) : (S.push b c).ptr (S.push b c).ks.getLast? = some ⟨b, 0, none⟩ := by
  have : (S.push b c).ks.getLast? = some S.n := by show (S.ks ++ [S.n]).getLast? = _; simp
  rw [this, ptr_push_new]

theorem push_mem_none {S : St} {h b c : Nat} {w : World} (ok : S.Ok) (m : Mem h S w) (f : Fresh b S c w) (hl : S.ks.getLast? = none) : Mem h (S.push b c) (w.setCell ⟨h, 2, none⟩ (.pointer (some ⟨b, 0, none⟩))) := by
  refine ⟨?_, ?_⟩
  · rw [heap_set_same m.top, push_top]; simp
  · intro i hi
    have hi' : i < S.n + 1 := hi
    by_cases e : i = S.n
    · subst e
      have ev : (S.push b c).vb S.n = b := by show (if S.n = S.n then b else _) = _; rw [if_pos rfl]
      rw [ev, heap_set_other _ _ (f.ne m), f.1, push_vcells_new ok, hl]; rfl
    · have ev : (S.push b c).vb i = S.vb i := by show (if i = S.n then b else _) = _; rw [if_neg e]
      rw [ev, heap_set_other _ _ (m.ne (by omega)), m.ver i (by omega), push_vcells_old ok (by omega), hl]
      simp [St.vcells]
theorem push_mem_some {S : St} {h b c l : Nat} {w : World} (ok : S.Ok) (m : Mem h S w) (f : Fresh b S c w) (hl : S.ks.getLast? = some l) (hln : l < S.n) :
    Mem h (S.push b c) (((w.setCell ⟨b, 3, none⟩ (.pointer (some ⟨S.vb l, 0, none⟩))).setCell ⟨S.vb l, 4, none⟩ (.pointer (some ⟨b, 0, none⟩))).setCell ⟨h, 2, none⟩ (.pointer (some ⟨b, 0, none⟩))) := by
  have hbh := f.ne m
  have hlh := m.ne hln
  have hlb := f.2 l hln
  refine ⟨?_, ?_⟩
  · rw [heap_set_same (cs := #[.string ⟨#[]⟩, .int .u64 0, .pointer (S.ptr S.ks.getLast?)]) (T := 73) (f := (0, 0)), push_top]
    · simp
    · rw [heap_set_other _ _ hlh.symm, heap_set_other _ _ hbh.symm]; exact m.top
  · intro i hi
    have hi' : i < S.n + 1 := hi
    by_cases e : i = S.n
    · subst e
      have ev : (S.push b c).vb S.n = b := by show (if S.n = S.n then b else _) = _; rw [if_pos rfl]
      rw [ev, heap_set_other _ _ hbh, heap_set_other _ _ hlb.symm, heap_set_same f.1, push_vcells_new ok, hl]
      simp [St.ptr]
    · have hin : i < S.n := by omega
      have ev : (S.push b c).vb i = S.vb i := by show (if i = S.n then b else _) = _; rw [if_neg e]
      rw [ev, heap_set_other _ _ (m.ne hin), push_vcells_old ok hin, hl]
      by_cases e2 : l = i
      · subst e2
        rw [heap_set_same (cs := S.vcells l) (T := 82) (f := (0, 0)) (by rw [heap_set_other _ _ hlb]; exact m.ver l hln)]
        simp [St.vcells]
      · rw [heap_set_other _ _ (fun e3 => e2 (ok.inj l i hln hin e3.symm)), heap_set_other _ _ (f.2 i hin), m.ver i hin]
        simp [St.vcells, e2]

/-! ### drop -/
theorem cut_vcells {S : St} {p x nx i : Nat} : (S.cut p x nx).vcells i = #[.int .u64 (S.cm i : Int), .string (itoa i), .bool false, .pointer (S.ptr (if i = nx then S.od x else S.od i)), .pointer (S.ptr (if i = x then none else if S.od x = some i then some nx else S.nw i))] := rfl
theorem cut_top {S : St} {p x nx : Nat} (hnx : S.ks[p + 1]? = some nx) : (S.cut p x nx).ptr (S.cut p x nx).ks.getLast? = S.ptr S.ks.getLast? := by
  have hl := get_lt hnx
  have : (S.cut p x nx).ks.getLast? = S.ks.getLast? := by
    show (S.ks.eraseIdx p).getLast? = _
    rw [last_get, last_get, List.length_eraseIdx, if_pos (by omega), get_erase, if_neg (by omega)]
    congr 1; omega
  rw [this]; rfl
theorem cut_mem_none {S : St} {h p x nx : Nat} {w : World} (ok : S.Ok) (m : Mem h S w) (hp : S.ks[p]? = some x) (hnx : S.ks[p + 1]? = some nx) (ho : S.od x = none) :
    Mem h (S.cut p x nx) ((w.setCell ⟨S.vb nx, 3, none⟩ (.pointer none)).setCell ⟨S.vb x, 4, none⟩ (.pointer none)) := by
  have hx := ok.lt _ _ hp
  have hn := ok.lt _ _ hnx
  have hxn : x ≠ nx := by have := ok.sorted p (p + 1) x nx (by omega) hp hnx; omega
  have hv : S.vb x ≠ S.vb nx := fun e => hxn (ok.inj _ _ hx hn e)
  refine ⟨?_, ?_⟩
  · rw [cut_top hnx, heap_set_other _ _ (m.ne hx).symm, heap_set_other _ _ (m.ne hn).symm]; exact m.top
  · intro i hi
    have hi' : i < S.n := hi
    show (World.setCell _ _ _).heap[S.vb i]? = _
    rw [cut_vcells, ho]
    by_cases e : i = x
    · subst e
      rw [heap_set_same (cs := S.vcells i) (T := 82) (f := (0, 0)) (by rw [heap_set_other _ _ hv]; exact m.ver i hi')]
      simp [St.vcells, hxn, ho, St.ptr]
    · rw [heap_set_other _ _ (fun e2 => e (ok.inj _ _ hi' hx e2))]
      by_cases e3 : i = nx
      · subst e3
        rw [heap_set_same (m.ver i hi')]
        simp [St.vcells, e, St.ptr]
      · rw [heap_set_other _ _ (fun e2 => e3 (ok.inj _ _ hi' hn e2)), m.ver i hi']
        simp [St.vcells, e, e3]
theorem cut_mem_some {S : St} {h p x nx l : Nat} {w : World} (ok : S.Ok) (m : Mem h S w) (hp : S.ks[p]? = some x) (hnx : S.ks[p + 1]? = some nx) (ho : S.od x = some l) :
    Mem h (S.cut p x nx) (((w.setCell ⟨S.vb nx, 3, none⟩ (.pointer (some ⟨S.vb l, 0, none⟩))).setCell ⟨S.vb l, 4, none⟩ (.pointer (some ⟨S.vb nx, 0, none⟩))).setCell ⟨S.vb x, 4, none⟩ (.pointer none)) := by
  have hx := ok.lt _ _ hp
  have hn := ok.lt _ _ hnx
  have hl := ok.odlt x hx l ho
  have hxn' := ok.sorted p (p + 1) x nx (by omega) hp hnx
  have hpl : 0 < p ∧ S.ks[p - 1]? = some l := by
    have := ok.older p x hp
    rw [ho] at this
    split at this
    · cases this
    · exact ⟨by omega, this.symm⟩
  have hlx' := ok.sorted (p - 1) p l x (by omega) hpl.2 hp
  have hxn : x ≠ nx := by omega
  have hlx : l ≠ x := by omega
  have hln : l ≠ nx := by omega
  have vxn : S.vb x ≠ S.vb nx := fun e => hxn (ok.inj _ _ hx hn e)
  have vlx : S.vb l ≠ S.vb x := fun e => hlx (ok.inj _ _ hl hx e)
  have vln : S.vb l ≠ S.vb nx := fun e => hln (ok.inj _ _ hl hn e)
  refine ⟨?_, ?_⟩
  · rw [cut_top hnx, heap_set_other _ _ (m.ne hx).symm, heap_set_other _ _ (m.ne hl).symm, heap_set_other _ _ (m.ne hn).symm]; exact m.top
  · intro i hi
    have hi' : i < S.n := hi
    show (World.setCell _ _ _).heap[S.vb i]? = _
    rw [cut_vcells, ho]
    by_cases e : i = x
    · subst e
      rw [heap_set_same (cs := S.vcells i) (T := 82) (f := (0, 0)) (by rw [heap_set_other _ _ vlx.symm, heap_set_other _ _ vxn]; exact m.ver i hi')]
      simp [St.vcells, hxn, ho, St.ptr]
    · rw [heap_set_other _ _ (fun e2 => e (ok.inj _ _ hi' hx e2))]
      by_cases e4 : i = l
      · subst e4
        rw [heap_set_same (cs := S.vcells i) (T := 82) (f := (0, 0)) (by rw [heap_set_other _ _ vln]; exact m.ver i hi')]
        simp [St.vcells, e, hln, St.ptr]
      · rw [heap_set_other _ _ (fun e2 => e4 (ok.inj _ _ hi' hl e2))]
        have e4' : ¬ l = i := fun h => e4 h.symm
        by_cases e3 : i = nx
        · subst e3
          rw [heap_set_same (m.ver i hi')]
          simp [St.vcells, e, e4', St.ptr]
        · rw [heap_set_other _ _ (fun e2 => e3 (ok.inj _ _ hi' hn e2)), m.ver i hi']
          simp [St.vcells, e, e3, e4']
end Go.Proofs.Qxb6003819a
