/-
  Plain words for the seat: nodes as cells, what text reads off them; a frame for a call that writes a few blocks.
-/
import Derived.WalkKit
import Derived.Lib.Builder
namespace Go.Proofs.Qxb6000406a
open Go.RowKit

/-- w' is w with new blocks, and with writes to the blocks of S alone. -/
structure Kept (S : Nat → Prop) (w w' : World) : Prop where
  os : w'.os = w.os
  tape : w'.tape = w.tape
  output : w'.output = w.output
  size : w.heap.size ≤ w'.heap.size
  block : ∀ k, k < w.heap.size → ¬ S k → w'.heap[k]? = w.heap[k]?

theorem Kept.refl (S : Nat → Prop) (w : World) : Kept S w w := ⟨rfl, rfl, rfl, Nat.le_refl _, fun _ _ _ => rfl⟩
theorem Kept.trans {S : Nat → Prop} {a b c : World} (h : Kept S a b) (k : Kept S b c) : Kept S a c :=
  ⟨k.os.trans h.os, k.tape.trans h.tape, k.output.trans h.output, Nat.le_trans h.size k.size, fun i hi hs => (k.block i (Nat.lt_of_lt_of_le hi h.size) hs).trans (h.block i hi hs)⟩
theorem Kept.mono {S T : Nat → Prop} {a b : World} (h : Kept S a b) (hst : ∀ k, k < a.heap.size → S k → T k) : Kept T a b :=
  ⟨h.os, h.tape, h.output, h.size, fun k hk hs => h.block k hk (fun e => hs (hst k hk e))⟩
theorem Kept.below {S : Nat → Prop} {B : Nat} {a b : World} (h : Kept S a b) (hB : B ≤ a.heap.size) (hs : ∀ k, S k → B ≤ k) : Below B a b :=
  ⟨h.os, h.tape, h.output, h.size, fun k hk => h.block k (by omega) (fun e => by have := hs k e; omega)⟩
theorem Kept.alloc {S : Nat → Prop} {a w : World} (h : Kept S a w) (o : Obj) : Kept S a (w.alloc o) :=
  h.trans ⟨rfl, rfl, rfl, by simp, fun k hk _ => Below.heap_alloc _ _ _ hk⟩
theorem Kept.setCell {S : Nat → Prop} {a w : World} (h : Kept S a w) {p : Addr} (hp : S p.block) (u : Value) : Kept S a (w.setCell p u) :=
  h.trans ⟨rfl, rfl, rfl, by simp [World.setCell], fun k _ hk => Below.heap_setCell _ _ _ _ (fun e => hk (e ▸ hp))⟩
theorem Kept.grown {S : Nat → Prop} {a w w' : World} {row : Option Nat} (h : Kept S a w) (hg : w.grownBy w' row) (hr : ∀ k, row = some k → S k) : Kept S a w' :=
  h.trans ⟨hg.os, hg.tape, hg.output, hg.size, fun k hk hs => hg.block k hk (fun e => hs (hr k e.symm))⟩
theorem Kept.of_below {B : Nat} {a b : World} (h : Below B a b) : Kept (fun k => B ≤ k) a b :=
  ⟨h.os, h.tape, h.output, h.size, fun k _ hs => h.block k (by omega)⟩

/-- What is owned stays owned where its block is kept. -/
theorem owns_kept {S : Nat → Prop} {w w' : World} {base : Nat} {e : TypeId} {size : Nat} {v : Value} {n : Nat} {xs : List Value} (h : w.ownsRow base e size v n xs) (hk : Kept S w w') (hs : ∀ k, v.ownBlock = some k → ¬ S k) : w'.ownsRow base e size v n xs := by
  refine ⟨h.1, ?_⟩
  rcases h.2 with hn | ⟨g, cap, cur, rfl, hb, hg, r⟩
  · exact .inl hn
  · exact .inr ⟨g, cap, cur, rfl, hb, by rw [hk.block g (Array.getElem?_eq_some_iff.1 hg).1 (hs g rfl)]; exact hg, r⟩
/-- .. and from any base that is no greater than its block. -/
theorem owns_base {w : World} {base base' : Nat} {e : TypeId} {size : Nat} {v : Value} {n : Nat} {xs : List Value} (h : w.ownsRow base e size v n xs) (hb : base' ≤ base) : w.ownsRow base' e size v n xs := by
  refine ⟨h.1, ?_⟩
  rcases h.2 with hn | ⟨g, cap, cur, rfl, hg, r⟩
  · exact .inl hn
  · exact .inr ⟨g, cap, cur, rfl, by omega, r⟩
/-- The block of an owned row bears the element's type. -/
theorem owns_ne {w : World} {B : Nat} {e T : TypeId} {size : Nat} {v : Value} {n : Nat} {xs : List Value} {b : Nat} {cs : Array Value} {fr : Nat × Nat} (hown : w.ownsRow B e size v n xs) (hb : w.heap[b]? = some (.cells cs T fr)) (hTe : T ≠ e) : v.ownBlock ≠ some b := by
  rcases hown.2 with ⟨rfl, _⟩ | ⟨g, cap, cur, rfl, _, hg, _⟩
  · simp [Value.ownBlock]
  · intro h
    simp only [Value.ownBlock, Option.some.injEq] at h
    subst h
    rw [hg] at hb
    simp only [Option.some.injEq, Obj.cells.injEq] at hb
    exact hTe hb.2.1.symm
theorem owns_slice {w : World} {B : Nat} {e : TypeId} {size : Nat} {v : Value} {n : Nat} {xs : List Value} (hown : w.ownsRow B e size v n xs) : ∃ ao cap, v = .slice ao n cap := by
  rcases hown.2 with ⟨rfl, rfl⟩ | ⟨g, cap, cur, rfl, _⟩
  · exact ⟨_, _, rfl⟩
  · exact ⟨_, _, rfl⟩

/-! ### elements and nodes -/
/-- The element in block b: its content is v. -/
def El (w : World) (b : Nat) (v : Value) : Prop := ∃ c0 c1 c2 c3 c4 c6, w.heap[b]? = some (.cells #[c0, c1, c2, c3, c4, v, c6] 51 (0, 0))
theorem El.lt {w : World} {b : Nat} {v : Value} (h : El w b v) : b < w.heap.size := by
  obtain ⟨c0, c1, c2, c3, c4, c6, h⟩ := h
  exact (Array.getElem?_eq_some_iff.1 h).1
theorem El.kept {S : Nat → Prop} {w w' : World} {b : Nat} {v : Value} (h : El w b v) (hk : Kept S w w') (hs : ¬ S b) : El w' b v := by
  have hl := h.lt
  obtain ⟨c0, c1, c2, c3, c4, c6, h⟩ := h
  exact ⟨c0, c1, c2, c3, c4, c6, by rw [hk.block b hl hs]; exact h⟩
theorem El.put {w : World} {b : Nat} {v : Value} (h : El w b v) (u : Value) : El (w.setCell ⟨b, 5, none⟩ u) b u := by
  obtain ⟨c0, c1, c2, c3, c4, c6, h⟩ := h
  exact ⟨c0, c1, c2, c3, c4, c6, by simp [World.setCell, Array.getElem?_modify, h]⟩
theorem El.putParent {w : World} {b : Nat} {v : Value} (h : El w b v) (u : Value) : El (w.setCell ⟨b, 6, none⟩ u) b v := by
  obtain ⟨c0, c1, c2, c3, c4, c6, h⟩ := h
  exact ⟨c0, c1, c2, c3, c4, u, by simp [World.setCell, Array.getElem?_modify, h]⟩
theorem El.owns_ne {w : World} {b B : Nat} {u v : Value} {n : Nat} {xs : List Value} (h : El w b u) (hown : w.ownsRow B 53 3 v n xs) : v.ownBlock ≠ some b := by
  obtain ⟨c0, c1, c2, c3, c4, c6, h⟩ := h
  exact Qxb6000406a.owns_ne hown h (by decide)

/-- A node: its element or nil, its text, its target. -/
abbrev Node := Option Addr × ByteArray × ByteArray
def ncells (n : Node) : List Value := [.pointer n.1, .string n.2.1, .string n.2.2]
def flatc (ns : List Node) : List Value := ns.flatMap ncells
def keepN (n : Node) : Bool := n.1.isNone && n.2.2.toList.isEmpty
def ntext (ns : List Node) : List UInt8 := ns.flatMap (fun n => if keepN n then n.2.1.data.toList else [])
theorem flatc_length (ns : List Node) : (flatc ns).length = ns.length * 3 := by
  induction ns with
  | nil => rfl
  | cons n ns ih => simp only [flatc, List.flatMap_cons, List.length_append, List.length_cons] at ih ⊢; rw [ih]; simp [ncells]; omega
theorem flatc_snoc (ns : List Node) (n : Node) : flatc (ns ++ [n]) = flatc ns ++ ncells n := by simp [flatc]
theorem ntext_snoc (ns : List Node) (n : Node) : ntext (ns ++ [n]) = ntext ns ++ (if keepN n then n.2.1.data.toList else []) := by simp [ntext]
theorem flatc_get (ns : List Node) (k j : Nat) (hk : k < ns.length) (hj : j < 3) : (flatc ns)[k * 3 + j]? = (ncells ns[k])[j]? := by
  induction ns generalizing k with
  | nil => simp at hk
  | cons n ns ih =>
    have e : flatc (n :: ns) = ncells n ++ flatc ns := by simp [flatc]
    rw [e]
    match k with
    | 0 => rw [List.getElem?_append_left (by simp [ncells]; omega)]; simp
    | k + 1 =>
      rw [List.getElem?_append_right (by simp [ncells]; omega)]
      have : (k + 1) * 3 + j - (ncells n).length = k * 3 + j := by simp [ncells]; omega
      rw [this, ih k (by simpa using hk)]
      simp
end Go.Proofs.Qxb6000406a
