/-
  new, add, drop, forget: the walks.
-/
import Derived.Test.Qxb6003819aRead
import Derived.Test.Qxb6003819aMems
namespace Go.Proofs.Qxb6003819a
open Go.RowKit

theorem newHistory (w : World) : Calls Try.prog 6 #[] w fun e w' => e = .returned (.pointer (some ⟨w.heap.size, 0, none⟩)) ∧ w' = w.alloc (.cells #[.string ⟨#[]⟩, .int .u64 0, .pointer none] 73) := by
  go_enter Try.func6, Try.ntmps6
  go_wp2
  go_ret
  exact ⟨rfl, rfl⟩
theorem newVersion (c : Int) (s : ByteArray) (w : World) : Calls Try.prog 8 #[.int .u64 c, .string s] w fun e w' => e = .returned (.pointer (some ⟨w.heap.size, 0, none⟩)) ∧ w' = w.alloc (.cells #[.int .u64 c, .string s, .bool false, .pointer none, .pointer none] 82) := by
  go_enter Try.func8, Try.ntmps8
  go_wp2
  go_ret
  exact ⟨rfl, rfl⟩

set_option maxHeartbeats 1000000 in
theorem add_any (B h b c : Nat) (S : St) (w : World) (ok : S.Ok) (m : Mem h S w) (f : Fresh b S c w) (hB : B ≤ h) (hBv : ∀ i, i < S.n → B ≤ S.vb i) (hBb : B ≤ b) :
    Calls Try.prog 31 #[.pointer (some ⟨h, 0, none⟩), .pointer (some ⟨b, 0, none⟩)] w fun e w' => e = .returned (.tuple #[]) ∧ Mem h (S.push b c) w' ∧ Frm B w w' := by
  have hct := m.cellTop
  have hft := m.freeTop
  have hv : VPtr w (S.ptr S.ks.getLast?) := by rw [last_prevO]; exact vptr_of m (fun i hi => prevO_lt ok hi)
  have HV := Hid.mk hv
  have hbh := f.ne m
  have vb0 : VPtr w (some ⟨b, 0, none⟩) := .inr ⟨b, rfl, shape_of f.1⟩
  cases hl : S.ks.getLast? with
  | none =>
    have P := Hid.mk (push_mem_none ok m f hl)
    have F := Hid.mk ((Frm.refl B w).setCell (p := ⟨h, 2, none⟩) hB m.top (.inl rfl) (.pointer (some ⟨b, 0, none⟩)))
    have VB := Hid.mk vb0
    rw [hl] at hct HV
    clear ok m hv hl f vb0 hBv
    go_enter Try.func31, Try.ntmps31
    go_wp2_with fail
    refine (atomLoad h 2 _ w hct HV.out).mono ?_
    rintro e w1 ⟨rfl, rfl⟩
    have e0 : S.ptr none = none := rfl
    rw [e0]
    clear e0
    go_wp2_with fail
    refine (atomStore h 2 _ _ w1 hct hft VB.out).mono ?_
    rintro e w2 ⟨rfl, rfl⟩
    go_wp2_with fail
    go_end0
    exact ⟨rfl, P.out, F.out⟩
  | some l =>
    have hln : l < S.n := by rw [last_prevO] at hl; exact prevO_lt ok hl
    have P := Hid.mk (push_mem_some ok m f hl hln)
    have hlb : S.vb l ≠ b := f.2 l hln
    have hlh := m.ne hln
    have k3 : w.cell? ⟨b, 3, none⟩ = some (.pointer none) := by rw [Lib.cell_of_heap f.1]; rfl
    have k3f : w.frozen? ⟨b, 3, none⟩ = false := Lib.frozen_of_heap f.1 3
    -- the three worlds
    obtain ⟨w1, hw1⟩ : ∃ w1, w1 = w.setCell ⟨b, 3, none⟩ (.pointer (some ⟨S.vb l, 0, none⟩)) := ⟨_, rfl⟩
    obtain ⟨w2, hw2⟩ : ∃ w2, w2 = w1.setCell ⟨S.vb l, 4, none⟩ (.pointer (some ⟨b, 0, none⟩)) := ⟨_, rfl⟩
    have l1 : w1.heap[S.vb l]? = some (.cells (S.vcells l) 82 (0, 0)) := by rw [hw1, heap_set_other _ _ hlb]; exact m.ver l hln
    have b1 := heap_set_same f.1 3 (.pointer (some ⟨S.vb l, 0, none⟩))
    rw [← hw1] at b1
    have h1 := (show w1.heap[h]? = w.heap[h]? by rw [hw1]; exact heap_set_other _ _ hbh.symm).trans m.top
    have b2 := (show w2.heap[b]? = w1.heap[b]? by rw [hw2]; exact heap_set_other _ _ hlb.symm).trans b1
    have h2 := (show w2.heap[h]? = w1.heap[h]? by rw [hw2]; exact heap_set_other _ _ hlh.symm).trans h1
    have g4 : w1.cell? ⟨S.vb l, 4, none⟩ = some (.pointer (S.ptr (S.nw l))) := by rw [Lib.cell_of_heap l1]; rfl
    have g4f : w1.frozen? ⟨S.vb l, 4, none⟩ = false := Lib.frozen_of_heap l1 4
    have t2 : w2.cell? ⟨h, 2, none⟩ = some (.pointer (S.ptr S.ks.getLast?)) := by rw [Lib.cell_of_heap h2]; rfl
    have t2f : w2.frozen? ⟨h, 2, none⟩ = false := Lib.frozen_of_heap h2 2
    have VB := Hid.mk (show VPtr w2 (some ⟨b, 0, none⟩) from .inr ⟨b, rfl, by rw [shape_of b2]; rfl⟩)
    have F := Hid.mk ((((Frm.refl B w).setCell (p := ⟨b, 3, none⟩) hBb f.1 (.inr rfl) (.pointer (some ⟨S.vb l, 0, none⟩))).setCell (p := ⟨S.vb l, 4, none⟩) (hBv l hln) (by rw [← hw1]; exact l1) (.inr rfl) (.pointer (some ⟨b, 0, none⟩))).setCell (p := ⟨h, 2, none⟩) hB (by rw [← hw1, ← hw2]; exact h2) (.inl rfl) (.pointer (some ⟨b, 0, none⟩)))
    rw [← hw1, ← hw2] at P F
    have HW1 := Hid.mk hw1
    have HW2 := Hid.mk hw2
    rw [hl] at hct HV
    have HVL := Hid.mk (show VPtr w (some ⟨S.vb l, 0, none⟩) from .inr ⟨S.vb l, rfl, m.shape hln⟩)
    clear ok m hv hl f vb0 l1 b1 h1 b2 h2 hw1 hw2 hBv
    go_enter Try.func31, Try.ntmps31
    go_wp2_with fail
    refine (atomLoad h 2 _ w hct HV.out).mono ?_
    rintro e w3 ⟨rfl, rfl⟩
    have e0 : S.ptr (some l) = some ⟨S.vb l, 0, none⟩ := rfl
    rw [e0]
    clear e0
    go_wp2_with fail
    refine (atomStore b 3 _ _ w3 k3 k3f HVL.out).mono ?_
    rintro e w4 ⟨rfl, hw4⟩
    rw [← HW1.out] at hw4
    subst hw4
    go_wp2_with fail
    rw [← HW2.out]
    refine (atomStore h 2 _ _ w2 t2 t2f VB.out).mono ?_
    rintro e w5 ⟨rfl, rfl⟩
    go_wp2_with fail
    go_end0
    exact ⟨rfl, P.out, F.out⟩
theorem zzAdd (B h b c : Nat) (S : St) (w : World) (ok : S.Ok) (m : Mem h S w) (f : Fresh b S c w) (hB : B ≤ h) (hBv : ∀ i, i < S.n → B ≤ S.vb i) (hBb : B ≤ b) :
    Calls Try.prog 10 #[.pointer (some ⟨h, 0, none⟩), .pointer (some ⟨b, 0, none⟩)] w fun e w' => e = .returned (.tuple #[]) ∧ Mem h (S.push b c) w' ∧ Frm B w w' := by
  have H := Hid.mk (add_any B h b c S w ok m f hB hBv hBb)
  clear ok m f hB hBv hBb
  go_enter Try.func10, Try.ntmps10
  go_wp2_with fail
  refine H.out.mono ?_
  rintro e w' ⟨rfl, hP⟩
  go_wp2_with fail
  go_end0
  exact ⟨rfl, hP⟩

/-! ### drop -/
set_option maxHeartbeats 1000000 in
/-- A version that is out already: nothing is done. -/
theorem drop_out (h x : Nat) (S : St) (w : World) (m : Mem h S w) (hx : x < S.n) (hn : S.nw x = none) :
    Calls Try.prog 32 #[.pointer (some ⟨S.vb x, 0, none⟩)] w fun e w' => e = .returned (.bool false) ∧ w' = w := by
  have g4 : w.cell? ⟨S.vb x, 4, none⟩ = some (.pointer none) := by
    rw [m.cell hx]
    show some (Value.pointer (S.ptr (S.nw x))) = _
    rw [hn]; rfl
  clear m hn
  go_enter Try.func32, Try.ntmps32
  go_wp2_with fail
  go_ret
  exact ⟨rfl, rfl⟩

set_option maxHeartbeats 1000000 in
theorem drop_in (B h p x nx : Nat) (S : St) (w : World) (ok : S.Ok) (m : Mem h S w) (hp : S.ks[p]? = some x) (hnx : S.ks[p + 1]? = some nx) (hBv : ∀ i, i < S.n → B ≤ S.vb i) :
    Calls Try.prog 32 #[.pointer (some ⟨S.vb x, 0, none⟩)] w fun e w' => e = .returned (.bool true) ∧ Mem h (S.cut p x nx) w' ∧ Frm B w w' := by
  have hx := ok.lt _ _ hp
  have hn := ok.lt _ _ hnx
  have hxn' := ok.sorted p (p + 1) x nx (by omega) hp hnx
  have vxn : S.vb x ≠ S.vb nx := fun e => by have := ok.inj _ _ hx hn e; omega
  have g4 : w.cell? ⟨S.vb x, 4, none⟩ = some (.pointer (some ⟨S.vb nx, 0, none⟩)) := by
    rw [m.cell hx]
    show some (Value.pointer (S.ptr (S.nw x))) = _
    rw [ok.newer p x hp, hnx]; rfl
  have g3 : w.cell? ⟨S.vb x, 3, none⟩ = some (.pointer (S.ptr (S.od x))) := by rw [m.cell hx]; rfl
  have n3 : w.cell? ⟨S.vb nx, 3, none⟩ = some (.pointer (S.ptr (S.od nx))) := by rw [m.cell hn]; rfl
  have n3f := m.free hn 3
  cases ho : S.od x with
  | none =>
    have P := Hid.mk (cut_mem_none ok m hp hnx ho)
    obtain ⟨w1, hw1⟩ : ∃ w1, w1 = w.setCell ⟨S.vb nx, 3, none⟩ (.pointer none) := ⟨_, rfl⟩
    have x1 := (show w1.heap[S.vb x]? = w.heap[S.vb x]? by rw [hw1]; exact heap_set_other _ _ vxn).trans (m.ver x hx)
    have k4 : w1.cell? ⟨S.vb x, 4, none⟩ = some (.pointer (S.ptr (S.nw x))) := by rw [Lib.cell_of_heap x1]; rfl
    have k4f : w1.frozen? ⟨S.vb x, 4, none⟩ = false := Lib.frozen_of_heap x1 4
    have F := Hid.mk (((Frm.refl B w).setCell (p := ⟨S.vb nx, 3, none⟩) (hBv nx hn) (m.ver nx hn) (.inr rfl) (.pointer none)).setCell (p := ⟨S.vb x, 4, none⟩) (hBv x hx) (by rw [← hw1]; exact x1) (.inr rfl) (.pointer none))
    rw [← hw1] at P F
    have HW1 := Hid.mk hw1
    rw [ho] at g3
    clear ok m hp hnx hBv hw1 x1 ho
    go_enter Try.func32, Try.ntmps32
    go_wp2_with fail
    refine (atomLoad (S.vb x) 3 _ w g3 (.inl rfl)).mono ?_
    rintro e w2 ⟨rfl, rfl⟩
    have e0 : S.ptr none = none := rfl
    rw [e0]
    clear e0
    go_wp2_with fail
    refine (atomStore (S.vb nx) 3 _ _ w2 n3 n3f (.inl rfl)).mono ?_
    rintro e w3 ⟨rfl, hw3⟩
    rw [← HW1.out] at hw3
    subst hw3
    go_wp2_with fail
    go_ret
    exact ⟨rfl, P.out, F.out⟩
  | some l =>
    have hl := ok.odlt x hx l ho
    have P := Hid.mk (cut_mem_some ok m hp hnx ho)
    have hpl : 0 < p ∧ S.ks[p - 1]? = some l := by
      have := ok.older p x hp
      rw [ho] at this
      split at this
      · cases this
      · exact ⟨by omega, this.symm⟩
    have hlx' := ok.sorted (p - 1) p l x (by omega) hpl.2 hp
    have vlx : S.vb l ≠ S.vb x := fun e => by have := ok.inj _ _ hl hx e; omega
    have vln : S.vb l ≠ S.vb nx := fun e => by have := ok.inj _ _ hl hn e; omega
    obtain ⟨w1, hw1⟩ : ∃ w1, w1 = w.setCell ⟨S.vb nx, 3, none⟩ (.pointer (some ⟨S.vb l, 0, none⟩)) := ⟨_, rfl⟩
    obtain ⟨w2, hw2⟩ : ∃ w2, w2 = w1.setCell ⟨S.vb l, 4, none⟩ (.pointer (some ⟨S.vb nx, 0, none⟩)) := ⟨_, rfl⟩
    have x1 := (show w1.heap[S.vb x]? = w.heap[S.vb x]? by rw [hw1]; exact heap_set_other _ _ vxn).trans (m.ver x hx)
    have l1 := (show w1.heap[S.vb l]? = w.heap[S.vb l]? by rw [hw1]; exact heap_set_other _ _ vln).trans (m.ver l hl)
    have x2 := (show w2.heap[S.vb x]? = w1.heap[S.vb x]? by rw [hw2]; exact heap_set_other _ _ vlx.symm).trans x1
    have k4 : w1.cell? ⟨S.vb l, 4, none⟩ = some (.pointer (S.ptr (S.nw l))) := by rw [Lib.cell_of_heap l1]; rfl
    have k4f : w1.frozen? ⟨S.vb l, 4, none⟩ = false := Lib.frozen_of_heap l1 4
    have j4 : w1.cell? ⟨S.vb x, 4, none⟩ = some (.pointer (S.ptr (S.nw x))) := by rw [Lib.cell_of_heap x1]; rfl
    have j4f : w1.frozen? ⟨S.vb x, 4, none⟩ = false := Lib.frozen_of_heap x1 4
    have vxl : S.vb x ≠ S.vb l := vlx.symm
    have F := Hid.mk ((((Frm.refl B w).setCell (p := ⟨S.vb nx, 3, none⟩) (hBv nx hn) (m.ver nx hn) (.inr rfl) (.pointer (some ⟨S.vb l, 0, none⟩))).setCell (p := ⟨S.vb l, 4, none⟩) (hBv l hl) (by rw [← hw1]; exact l1) (.inr rfl) (.pointer (some ⟨S.vb nx, 0, none⟩))).setCell (p := ⟨S.vb x, 4, none⟩) (hBv x hx) (by rw [← hw1, ← hw2]; exact x2) (.inr rfl) (.pointer none))
    rw [← hw1, ← hw2] at P F
    have HW1 := Hid.mk hw1
    have HW2 := Hid.mk hw2
    have VL := Hid.mk (show VPtr w (some ⟨S.vb l, 0, none⟩) from .inr ⟨S.vb l, rfl, m.shape hl⟩)
    rw [ho] at g3
    clear ok m hp hnx hBv hw1 hw2 x1 l1 x2 ho hpl
    go_enter Try.func32, Try.ntmps32
    go_wp2_with fail
    refine (atomLoad (S.vb x) 3 _ w g3 VL.out).mono ?_
    rintro e w3 ⟨rfl, rfl⟩
    have e0 : S.ptr (some l) = some ⟨S.vb l, 0, none⟩ := rfl
    rw [e0]
    clear e0
    go_wp2_with fail
    refine (atomStore (S.vb nx) 3 _ _ w3 n3 n3f VL.out).mono ?_
    rintro e w4 ⟨rfl, hw4⟩
    rw [← HW1.out] at hw4
    subst hw4
    go_wp2_with fail
    go_ret
    rw [← HW2.out]
    exact ⟨rfl, P.out, F.out⟩

set_option maxHeartbeats 1000000 in
theorem zzDrop_out (h x : Nat) (S : St) (w : World) (m : Mem h S w) (hx : x < S.n) (hn : S.nw x = none) :
    Calls Try.prog 15 #[.pointer (some ⟨S.vb x, 0, none⟩)] w fun e w' => e = .returned (.bool false) ∧ w' = w := by
  have H := Hid.mk (drop_out h x S w m hx hn)
  clear m hn
  go_enter Try.func15, Try.ntmps15
  go_wp2_with fail
  refine H.out.mono ?_
  rintro e w' ⟨rfl, rfl⟩
  go_wp2_with fail
  go_ret
  exact ⟨rfl, rfl⟩
theorem zzDrop_in (B h p x nx : Nat) (S : St) (w : World) (ok : S.Ok) (m : Mem h S w) (hp : S.ks[p]? = some x) (hnx : S.ks[p + 1]? = some nx) (hBv : ∀ i, i < S.n → B ≤ S.vb i) :
    Calls Try.prog 15 #[.pointer (some ⟨S.vb x, 0, none⟩)] w fun e w' => e = .returned (.bool true) ∧ Mem h (S.cut p x nx) w' ∧ Frm B w w' := by
  have H := Hid.mk (drop_in B h p x nx S w ok m hp hnx hBv)
  clear m hp hnx hBv ok
  go_enter Try.func15, Try.ntmps15
  go_wp2_with fail
  refine H.out.mono ?_
  rintro e w' ⟨rfl, hP⟩
  go_wp2_with fail
  go_ret
  exact ⟨rfl, hP⟩

/-! ### forget -/
/-- Half way: the links to newer ones are gone from the k-th kept on. -/
structure Mid (h : Nat) (S : St) (k : Nat) (w : World) : Prop where
  top : w.heap[h]? = some (.cells #[.string ⟨#[]⟩, .int .u64 0, .pointer (S.ptr S.ks.getLast?)] 73 (0, 0))
  ver : ∀ i, i < S.n → w.heap[S.vb i]? = some (.cells #[.int .u64 (S.cm i : Int), .string (itoa i), .bool false, .pointer (S.ptr (S.od i)), .pointer (if i ∈ S.ks.drop k then none else S.ptr (S.nw i))] 82 (0, 0))
theorem mid_start {h : Nat} {S : St} {w : World} (m : Mem h S w) : Mid h S S.ks.length w :=
  ⟨m.top, fun i hi => by rw [m.ver i hi]; simp [St.vcells]⟩
theorem mid_ne {h k : Nat} {S : St} {w : World} (m : Mid h S k w) {i : Nat} (hi : i < S.n) : S.vb i ≠ h := by
  intro e
  have h1 := m.ver i hi
  rw [e, m.top] at h1
  simp only [Option.some.injEq, Obj.cells.injEq] at h1
  exact absurd h1.2.1 (by decide)
theorem mid_step {h j x : Nat} {S : St} {w : World} (ok : S.Ok) (m : Mid h S (j + 1) w) (hx : S.ks[j]? = some x) : Mid h S j (w.setCell ⟨S.vb x, 4, none⟩ (.pointer none)) := by
  have hxn := ok.lt _ _ hx
  have hd : S.ks.drop j = x :: S.ks.drop (j + 1) := by
    obtain ⟨hl, e⟩ := List.getElem?_eq_some_iff.1 hx
    rw [List.drop_eq_getElem_cons hl, e]
  refine ⟨by rw [heap_set_other _ _ (mid_ne m hxn).symm]; exact m.top, fun i hi => ?_⟩
  by_cases e : i = x
  · subst e
    rw [heap_set_same (m.ver i hi), hd]; simp
  · rw [heap_set_other _ _ (fun e2 => e (ok.inj _ _ hi hxn e2)), m.ver i hi, hd]
    simp [e]
theorem mid_end {h : Nat} {S : St} {w : World} (ok : S.Ok) (m : Mid h S 0 w) : Mem h S.clear (w.setCell ⟨h, 2, none⟩ (.pointer none)) := by
  refine ⟨by rw [heap_set_same m.top]; simp [St.clear, St.ptr], fun i hi => ?_⟩
  have hi' : i < S.n := hi
  show (World.setCell _ _ _).heap[S.vb i]? = _
  rw [heap_set_other _ _ (mid_ne m hi'), m.ver i hi']
  have e : (if i ∈ S.ks.drop 0 then none else S.ptr (S.nw i)) = none := by
    split
    · rfl
    · rename_i hn
      rw [ok.out i hi' (by simpa using hn)]; rfl
  rw [e]
  rfl

set_option maxHeartbeats 1000000 in
theorem forget_any (B h : Nat) (S : St) (w : World) (ok : S.Ok) (m : Mem h S w) (hB : B ≤ h) (hBv : ∀ i, i < S.n → B ≤ S.vb i) (hn : S.ks.length ≤ 1000000) :
    Calls Try.prog 33 #[.pointer (some ⟨h, 0, none⟩)] w fun e w' => e = .returned (.int .i64 (S.ks.length : Int)) ∧ Mem h S.clear w' ∧ Frm B w w' := by
  have OK := Hid.mk ok
  have hct := m.cellTop
  rw [last_prevO] at hct
  have hv := Hid.mk (show VPtr w (S.ptr (prevO S.ks S.ks.length)) from vptr_of m (fun i hi => prevO_lt ok hi))
  have MS := Hid.mk (mid_start m)
  have HBv := Hid.mk hBv
  clear ok m hBv
  go_enter Try.func33, Try.ntmps33
  go_wp2_with fail
  refine (atomLoad h 2 _ w hct hv.out).mono ?_
  rintro e w1 ⟨rfl, rfl⟩
  clear hct hv
  go_wp2_with fail
  go_loopg [3, 4] S.ks.length (fun k c v wr => k ≤ S.ks.length ∧ c = .int .i64 ((S.ks.length : Int) - k) ∧ v = .pointer (S.ptr (prevO S.ks k)) ∧ Mid h S k wr ∧ Frm B w1 wr)
  case atStart => exact ⟨Nat.le_refl _, by go_num, rfl, MS.out, Frm.refl _ _⟩
  case round =>
    obtain ⟨hk, rfl, rfl, hM, hF⟩ := hrel
    have HM := Hid.mk hM
    have HF := Hid.mk hF
    clear MS
    cases gk with
    | zero =>
      have e0 : S.ptr (prevO S.ks 0) = none := rfl
      rw [e0]
      have t2 : wr.cell? ⟨h, 2, none⟩ = some (.pointer (S.ptr S.ks.getLast?)) := by rw [Lib.cell_of_heap hM.top]; rfl
      have t2f : wr.frozen? ⟨h, 2, none⟩ = false := Lib.frozen_of_heap hM.top 2
      have F := Hid.mk (hF.setCell (p := ⟨h, 2, none⟩) hB hM.top (.inl rfl) (.pointer none))
      have P := Hid.mk (mid_end OK.out hM)
      clear e0 hM hF
      go_wp2_with fail
      refine (atomStore h 2 _ _ wr t2 t2f (.inl rfl)).mono ?_
      rintro e w2 ⟨rfl, rfl⟩
      go_wp2_with fail
      go_ret
      refine ⟨?_, P.out, F.out⟩
      show Ending.returned (.int .i64 _) = _
      congr 2
    | succ j =>
      have hj : j < S.ks.length := by omega
      rw [prevO_succ _ _ hj]
      obtain ⟨i, hi⟩ : ∃ i, i = S.ks[j] := ⟨_, rfl⟩
      rw [← hi]
      have hji : S.ks[j]? = some i := by rw [List.getElem?_eq_getElem hj, hi]
      have hin : i < S.n := OK.out.lt j _ hji
      have v1 := hM.ver i hin
      have g4 : wr.cell? ⟨S.vb i, 4, none⟩ = some (.pointer (if i ∈ S.ks.drop (j + 1) then none else S.ptr (S.nw i))) := by rw [Lib.cell_of_heap v1]; rfl
      have g4f : wr.frozen? ⟨S.vb i, 4, none⟩ = false := Lib.frozen_of_heap v1 4
      have ei : S.ptr (some i) = some ⟨S.vb i, 0, none⟩ := rfl
      rw [ei]
      obtain ⟨w2, hw2⟩ : ∃ w2, w2 = wr.setCell ⟨S.vb i, 4, none⟩ (.pointer none) := ⟨_, rfl⟩
      have M2 := mid_step OK.out hM hji
      have F2 := hF.setCell (p := ⟨S.vb i, 4, none⟩) (HBv.out i hin) v1 (.inr rfl) (.pointer none)
      rw [← hw2] at M2 F2
      have g3 : w2.cell? ⟨S.vb i, 3, none⟩ = some (.pointer (S.ptr (prevO S.ks j))) := by
        rw [Lib.cell_of_heap (M2.ver i hin)]
        show some (Value.pointer (S.ptr (S.od i))) = _
        rw [OK.out.older j _ hji]; rfl
      have VP := Hid.mk (show VPtr w2 (S.ptr (prevO S.ks j)) by
        cases ho : prevO S.ks j with
        | none => exact .inl rfl
        | some l => exact .inr ⟨S.vb l, rfl, shape_of (M2.ver l (prevO_lt OK.out ho))⟩)
      have HM2 := Hid.mk M2
      have HF2 := Hid.mk F2
      have HW2 := Hid.mk hw2
      obtain ⟨gv, hgv⟩ : ∃ gv, gv = Value.pointer (if i ∈ S.ks.drop (j + 1) then none else S.ptr (S.nw i)) := ⟨_, rfl⟩
      rw [← hgv] at g4
      clear ei hi hM hF v1 M2 F2 hw2 HM HF hgv
      go_wp2_with fail
      rw [← HW2.out]
      refine (atomLoad (S.vb i) 3 _ w2 g3 VP.out).mono ?_
      rintro e w3 ⟨rfl, rfl⟩
      go_wp2_with fail
      go_roundg j
      case measure => omega
      case rel => exact ⟨by omega, by go_num, rfl, HM2.out, HF2.out⟩
theorem zzForget (B h : Nat) (S : St) (w : World) (ok : S.Ok) (m : Mem h S w) (hB : B ≤ h) (hBv : ∀ i, i < S.n → B ≤ S.vb i) (hn : S.ks.length ≤ 1000000) :
    Calls Try.prog 16 #[.pointer (some ⟨h, 0, none⟩)] w fun e w' => e = .returned (.int .i64 (S.ks.length : Int)) ∧ Mem h S.clear w' ∧ Frm B w w' := by
  have H := Hid.mk (forget_any B h S w ok m hB hBv hn)
  clear ok m hBv hB
  go_enter Try.func16, Try.ntmps16
  go_wp2_with fail
  refine H.out.mono ?_
  rintro e w' ⟨rfl, hP⟩
  go_wp2_with fail
  go_ret
  exact ⟨rfl, hP⟩
end Go.Proofs.Qxb6003819a
