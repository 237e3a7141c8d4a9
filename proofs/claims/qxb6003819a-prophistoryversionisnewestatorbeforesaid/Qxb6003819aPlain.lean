/-
  The history as a plain state: versions by their numbers, the kept ones in order, the links; how it lies in memory; what a step of the law does to it. No program in sight.
-/
import Derived.WalkKit
import Derived.Lib.Builder
namespace Go.Proofs.Qxb6003819a
open Go.RowKit

theorem Hid.mk {p : Prop} (h : p) : Hid p := h

/-! ### decimal digits -/
/-- The digits of n ahead of acc, in at most f rounds. -/
def dig : Nat → Nat → List UInt8 → List UInt8
  | 0, _, acc => acc
  | f + 1, n, acc => if n = 0 then acc else dig f (n / 10) (UInt8.ofNat (48 + n % 10) :: acc)
def itoa (n : Nat) : ByteArray := if n = 0 then ⟨#[48]⟩ else ⟨(dig 20 n []).toArray⟩

/-! ### the state -/
structure St where
  n : Nat
  vb : Nat → Nat
  cm : Nat → Nat
  od : Nat → Option Nat
  nw : Nat → Option Nat
  ks : List Nat

def St.ptr (S : St) (o : Option Nat) : Option Addr := o.map (fun i => ⟨S.vb i, 0, none⟩)
def St.vcells (S : St) (i : Nat) : Array Value := #[.int .u64 (S.cm i : Int), .string (itoa i), .bool false, .pointer (S.ptr (S.od i)), .pointer (S.ptr (S.nw i))]

structure St.Ok (S : St) : Prop where
  sorted : ∀ i j x y : Nat, i < j → S.ks[i]? = some x → S.ks[j]? = some y → x < y
  lt : ∀ j x : Nat, S.ks[j]? = some x → x < S.n
  last : ∀ j x : Nat, S.ks[j]? = some x → j + 1 = S.ks.length → x + 1 = S.n
  older : ∀ j x : Nat, S.ks[j]? = some x → S.od x = if j = 0 then none else S.ks[j - 1]?
  newer : ∀ j x : Nat, S.ks[j]? = some x → S.nw x = S.ks[j + 1]?
  out : ∀ i, i < S.n → i ∉ S.ks → S.nw i = none
  asc : ∀ i j, i < j → j < S.n → S.cm i < S.cm j
  inj : ∀ i j, i < S.n → j < S.n → S.vb i = S.vb j → i = j
  wide : ∀ i, i < S.n → S.cm i < 18446744073709551616
  odlt : ∀ i, i < S.n → ∀ j, S.od i = some j → j < S.n

/-- The newest kept at or before s among the first j of the kept. -/
def ansTo (cm : Nat → Nat) (ks : List Nat) (s : Int) : Nat → Option Nat
  | 0 => none
  | j + 1 => if (cm (ks.getD j 0) : Int) ≤ s then some (ks.getD j 0) else ansTo cm ks s j
def St.ans (S : St) (s : Int) : Option Nat := ansTo S.cm S.ks s S.ks.length

/-- How it lies in memory: the history in block h, version i in block vb i. -/
structure Mem (h : Nat) (S : St) (w : World) : Prop where
  top : w.heap[h]? = some (.cells #[.string ⟨#[]⟩, .int .u64 0, .pointer (S.ptr S.ks.getLast?)] 73 (0, 0))
  ver : ∀ i, i < S.n → w.heap[S.vb i]? = some (.cells (S.vcells i) 82 (0, 0))

/-! ### a frame: below B nothing turns; above it nothing but histories and versions -/
def Held (B k : Nat) (o : Obj) : Prop := k < B ∨ ((∀ c f, o ≠ .cells c 73 f) ∧ ∀ c f, o ≠ .cells c 82 f)
structure Frm (B : Nat) (w w' : World) : Prop where
  os : w'.os = w.os
  tape : w'.tape = w.tape
  output : w'.output = w.output
  size : w.heap.size ≤ w'.heap.size
  block : ∀ k o, w.heap[k]? = some o → Held B k o → w'.heap[k]? = some o
theorem Frm.refl (B : Nat) (w : World) : Frm B w w := ⟨rfl, rfl, rfl, Nat.le_refl _, fun _ _ h _ => h⟩
theorem Frm.trans {B : Nat} {a b c : World} (h : Frm B a b) (k : Frm B b c) : Frm B a c :=
  ⟨k.os.trans h.os, k.tape.trans h.tape, k.output.trans h.output, Nat.le_trans h.size k.size, fun i o hi hh => k.block i o (h.block i o hi hh) hh⟩
theorem Frm.of_below {B : Nat} {a b : World} (h : Below a.heap.size a b) : Frm B a b :=
  ⟨h.os, h.tape, h.output, h.size, fun k o hk _ => by rw [h.block k (Array.getElem?_eq_some_iff.1 hk).1]; exact hk⟩
theorem Frm.setCell {B : Nat} {a w : World} (h : Frm B a w) {p : Addr} {c : Array Value} {T : TypeId} {f : Nat × Nat} (hB : B ≤ p.block) (hw : w.heap[p.block]? = some (.cells c T f)) (hT : T = 73 ∨ T = 82) (u : Value) : Frm B a (w.setCell p u) := by
  refine h.trans ⟨rfl, rfl, rfl, by simp [World.setCell], fun k o hk hh => ?_⟩
  rw [Below.heap_setCell _ _ _ _ ?_]
  · exact hk
  · rintro rfl
    rw [hw] at hk
    obtain rfl := Option.some.inj hk
    rcases hh with hh | ⟨h1, h2⟩
    · omega
    · rcases hT with rfl | rfl
      · exact h1 _ _ rfl
      · exact h2 _ _ rfl
theorem Frm.below {B : Nat} {a b : World} (h : Frm B a b) (hB : B ≤ a.heap.size) : Below B a b :=
  ⟨h.os, h.tape, h.output, h.size, fun k hk => by
    have hl : k < a.heap.size := by omega
    rw [h.block k _ (Array.getElem?_eq_getElem hl) (.inl hk)]
    exact (Array.getElem?_eq_getElem hl).symm⟩
theorem Frm.cell {B : Nat} {a b : World} (h : Frm B a b) {p : Addr} {v : Value} (hp : p.block < B) (hv : a.cell? p = some v) : b.cell? p = some v := by
  have hl := World.block_lt_of_cell? a p hv
  rw [← hv]
  exact World.cell?_of_block ((h.block p.block _ (Array.getElem?_eq_getElem hl) (.inl hp)).trans (Array.getElem?_eq_getElem hl).symm)
/-- A row that the call owns is kept. -/
theorem Frm.owns {B : Nat} {w w' : World} (h : Frm B w w') {base : Nat} {e : TypeId} {size : Nat} {v : Value} {n : Nat} {xs : List Value} (ho : w.ownsRow base e size v n xs) (h1 : e ≠ 73) (h2 : e ≠ 82) : w'.ownsRow base e size v n xs := by
  refine ⟨ho.1, ?_⟩
  rcases ho.2 with hn | ⟨g, cap, cur, rfl, hb, hg, r⟩
  · exact .inl hn
  · refine .inr ⟨g, cap, cur, rfl, hb, h.block g _ hg (.inr ⟨?_, ?_⟩), r⟩
    · intro c f e'; simp only [Obj.cells.injEq] at e'; exact h1 e'.2.1
    · intro c f e'; simp only [Obj.cells.injEq] at e'; exact h2 e'.2.1
theorem Mem.below {h : Nat} {S : St} {w w' : World} (m : Mem h S w) (hb : Below w.heap.size w w') : Mem h S w' :=
  ⟨by rw [hb.block h (Array.getElem?_eq_some_iff.1 m.top).1]; exact m.top, fun i hi => by rw [hb.block (S.vb i) (Array.getElem?_eq_some_iff.1 (m.ver i hi)).1]; exact m.ver i hi⟩
theorem Mem.ne {h : Nat} {S : St} {w : World} (m : Mem h S w) {i : Nat} (hi : i < S.n) : S.vb i ≠ h := by
  intro e
  have h1 := m.ver i hi
  rw [e, m.top] at h1
  simp only [Option.some.injEq, Obj.cells.injEq] at h1
  exact absurd h1.2.1 (by decide)
theorem Mem.shape {h : Nat} {S : St} {w : World} (m : Mem h S w) {i : Nat} (hi : i < S.n) : w.shape? (S.vb i) = some (82, 5) := by
  simp [World.shape?, m.ver i hi, St.vcells]
theorem Mem.cell {h : Nat} {S : St} {w : World} (m : Mem h S w) {i : Nat} (hi : i < S.n) (j : Nat) : w.cell? ⟨S.vb i, j, none⟩ = (S.vcells i)[j]? := Lib.cell_of_heap (m.ver i hi) j
theorem Mem.free {h : Nat} {S : St} {w : World} (m : Mem h S w) {i : Nat} (hi : i < S.n) (j : Nat) : w.frozen? ⟨S.vb i, j, none⟩ = false := Lib.frozen_of_heap (m.ver i hi) j
theorem Mem.cellTop {h : Nat} {S : St} {w : World} (m : Mem h S w) : w.cell? ⟨h, 2, none⟩ = some (.pointer (S.ptr S.ks.getLast?)) := by rw [Lib.cell_of_heap m.top]; rfl
theorem Mem.freeTop {h : Nat} {S : St} {w : World} (m : Mem h S w) : w.frozen? ⟨h, 2, none⟩ = false := Lib.frozen_of_heap m.top 2
end Go.Proofs.Qxb6003819a
