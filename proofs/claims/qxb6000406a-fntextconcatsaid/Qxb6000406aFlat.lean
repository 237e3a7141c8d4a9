/-
  buildFlat: what the element that it hands back holds.
-/
import Derived.Test.Qxb6000406aElem
import Derived.Deep.RegionHeld3
namespace Go.Proofs.Qxb6000406a
open Go.RowKit

/-- One item of the content: its text, its target, whether it is an element. -/
abbrev Item := ByteArray × ByteArray × Bool
def ikeep (x : Item) : Bool := !x.2.2 && x.2.1.toList.isEmpty
def ltext (L : List Item) : List UInt8 := L.flatMap (fun x => if ikeep x then x.1.data.toList else [])
theorem ltext_append (A B : List Item) : ltext (A ++ B) = ltext A ++ ltext B := by simp [ltext]
theorem ltext_take (L : List Item) (k : Nat) (h : k < L.length) : ltext (L.take (k + 1)) = ltext (L.take k) ++ (if ikeep L[k] then L[k].1.data.toList else []) := by
  rw [List.take_succ_eq_append_getElem h, ltext_append]
  simp [ltext]

/-- What buildFlat leaves of the items L: an element in block b whose content are nodes that say the same text. -/
def Built (B b : Nat) (L : List Item) (w : World) : Prop :=
  ∃ (v : Value) (ns : List Node), El w b v ∧ w.ownsRow B 53 3 v ns.length (flatc ns) ∧ ns.length = L.length ∧ ntext ns = ltext L

theorem built_add {B b : Nat} {L : List Item} {x : Item} {w' : World} {v' : Value} {ns : List Node} (nd : Node) (hn : ns.length = L.length) (ht : ntext ns = ltext L) (hE : El w' b v') (hO : w'.ownsRow B 53 3 v' (ns.length + 1) (flatc ns ++ ncells nd))
    (hk : (if keepN nd then nd.2.1.data.toList else []) = (if ikeep x then x.1.data.toList else [])) : Built B b (L ++ [x]) w' := by
  refine ⟨v', ns ++ [nd], hE, ?_, by simp [hn], ?_⟩
  · rw [flatc_snoc]; simpa using hO
  · rw [ntext_snoc, ltext_append, ht, hk]; simp [ltext]
theorem take_next (L : List Item) (k : Nat) (h : k < L.length) : L.take (k + 1) = L.take k ++ [L[k]] := List.take_succ_eq_append_getElem h

/-- One item more: character data. -/
theorem step_text (B k : Nat) (L : List Item) (t g : ByteArray) (w wr : World) (hk : k < L.length) (hlen : L.length ≤ 2097152) (hx : (t, g, false) = L[k]) (hg : g.toList.isEmpty = true) (hB : Built (B + 1) B (L.take k) wr) (hbel : Below B w wr) :
    Calls Try.prog 22 #[.pointer (some ⟨B, 0, none⟩), .string t] wr fun e w' => e = .returned (.tuple #[]) ∧ Built (B + 1) B (L.take (k + 1)) w' ∧ Below B w w' := by
  obtain ⟨v, ns, hE, hO, hn, ht⟩ := hB
  have hl := hE.lt
  refine (addText (B + 1) B ns.length t v (flatc ns) wr hE hO (by omega) (by rw [hn, List.length_take]; omega)).mono ?_
  rintro e w' ⟨rfl, v', hE', hO', hK⟩
  refine ⟨rfl, ?_, hbel.trans (hK.below (Nat.le_of_lt hl) (fun j hj => ?_))⟩
  · rw [take_next L k hk, ← hx]
    exact built_add (none, t, ⟨#[]⟩) hn ht hE' hO' (by simp [keepN, ikeep, hg])
  · rcases hj with rfl | hj
    · exact Nat.le_refl _
    · have := (hO.lt j hj).1; omega
/-- .. a processing instruction. -/
theorem step_pi (B k : Nat) (L : List Item) (t g : ByteArray) (w wr : World) (hk : k < L.length) (hlen : L.length ≤ 2097152) (hx : (t, g, false) = L[k]) (hg : g.toList.isEmpty = false) (hB : Built (B + 1) B (L.take k) wr) (hbel : Below B w wr) :
    Calls Try.prog 23 #[.pointer (some ⟨B, 0, none⟩), .string g, .string t] wr fun e w' => e = .returned (.tuple #[]) ∧ Built (B + 1) B (L.take (k + 1)) w' ∧ Below B w w' := by
  obtain ⟨v, ns, hE, hO, hn, ht⟩ := hB
  have hl := hE.lt
  refine (addPI (B + 1) B ns.length g t v (flatc ns) wr hE hO (by omega) (by rw [hn, List.length_take]; omega)).mono ?_
  rintro e w' ⟨rfl, v', hE', hO', hK⟩
  refine ⟨rfl, ?_, hbel.trans (hK.below (Nat.le_of_lt hl) (fun j hj => ?_))⟩
  · rw [take_next L k hk, ← hx]
    exact built_add (none, t, g) hn ht hE' hO' (by simp [keepN, ikeep, hg])
  · rcases hj with rfl | hj
    · exact Nat.le_refl _
    · have := (hO.lt j hj).1; omega
/-- The element and a child beside it. -/
def BuiltC (B c : Nat) (L : List Item) (w : World) : Prop :=
  ∃ (v u : Value) (ns : List Node), El w B v ∧ El w c u ∧ B < c ∧ w.ownsRow (B + 1) 53 3 v ns.length (flatc ns) ∧ ns.length = L.length ∧ ntext ns = ltext L
theorem step_child1 (B : Nat) (L : List Item) (t lo sp : ByteArray) (w wr : World) (hB : Built (B + 1) B L wr) (hbel : Below B w wr) :
    Calls Try.prog 22 #[.pointer (some ⟨wr.heap.size, 0, none⟩), .string t] (wr.alloc (.cells #[.string ⟨#[]⟩, .string lo, .string sp, .slice none 0 0, .slice none 0 0, .slice none 0 0, .pointer none] 51)) fun e w' => e = .returned (.tuple #[]) ∧ BuiltC B wr.heap.size L w' ∧ Below B w w' := by
  obtain ⟨v, ns, hE, hO, hn, ht⟩ := hB
  have hl := hE.lt
  refine (addText (wr.heap.size + 1) wr.heap.size 0 t (.slice none 0 0) [] _ (El_new wr lo sp) (World.ownsRow_nil _ _ _ _) (by simp) (by omega)).mono ?_
  rintro e w' ⟨rfl, v', hE', hO', hK⟩
  have hKw : Kept (fun j => j = wr.heap.size) wr w' := ((Kept.refl _ wr).alloc _).trans (hK.mono (fun j _ h => h.elim id (fun h => by simp [Value.ownBlock] at h)))
  refine ⟨rfl, ⟨v, v', ns, hE.kept hKw (by omega), hE', hl, owns_kept hO hKw (fun j hj e => by have := (hO.lt j hj).2; omega), hn, ht⟩, hbel.trans (hKw.below (Nat.le_of_lt hl) (fun j hj => by omega))⟩
theorem step_child2 (B c k : Nat) (L : List Item) (t g : ByteArray) (w wr : World) (hk : k < L.length) (hlen : L.length ≤ 2097152) (hx : (t, g, true) = L[k]) (hB : BuiltC B c (L.take k) wr) (hbel : Below B w wr) :
    Calls Try.prog 24 #[.pointer (some ⟨B, 0, none⟩), .pointer (some ⟨c, 0, none⟩)] wr fun e w' => e = .returned (.tuple #[]) ∧ Built (B + 1) B (L.take (k + 1)) w' ∧ Below B w w' := by
  obtain ⟨v, u, ns, hE, hC, hlt, hO, hn, ht⟩ := hB
  have hl := hE.lt
  refine (addChild (B + 1) B c ns.length v u (flatc ns) wr hE hC (by omega) hO (by omega) (by rw [hn, List.length_take]; omega)).mono ?_
  rintro e w' ⟨rfl, v', hE', hO', hK⟩
  refine ⟨rfl, ?_, hbel.trans (hK.below (Nat.le_of_lt hl) (fun j hj => ?_))⟩
  · rw [take_next L k hk, ← hx]
    exact built_add (some ⟨c, 0, none⟩, ⟨#[]⟩, ⟨#[]⟩) hn ht hE' hO' (by simp [keepN, ikeep])
  · rcases hj with rfl | rfl | hj
    · exact Nat.le_refl _
    · omega
    · have := (hO.lt j hj).1; omega

set_option maxHeartbeats 1000000 in
/-- The element is new: nothing in it. -/
theorem flat_none (a0 a1 a2 : Option Addr) (c0 c1 c2 : Nat) (w : World) :
    Calls Try.prog 10 #[.slice a0 0 c0, .slice a1 0 c1, .slice a2 0 c2] w fun e w' => e = .returned (.pointer (some ⟨w.heap.size, 0, none⟩)) ∧ Built (w.heap.size + 1) w.heap.size [] w' ∧ Below w.heap.size w w' := by
  go_enter Try.func10, Try.ntmps10
  go_wp2_with fail
  refine (newElem _ _ _).mono ?_
  rintro e w' ⟨rfl, rfl⟩
  go_wp2_with fail
  refine wp_loop_rounds 1 ?_
  rw [rounds_succ]
  go_wp2_with fail
  go_ret
  exact ⟨rfl, ⟨_, [], El_new _ _ _, World.ownsRow_nil _ _ _ _, rfl, rfl⟩, (Below.refl _ _).alloc (Nat.le_refl _) _⟩

set_option maxHeartbeats 2000000 in
theorem flat_some (b0 o0 c0 b1 o1 c1 b2 o2 c2 : Nat) (L : List Item) (w : World) (hL : L ≠ []) (hlen : L.length ≤ 2097152)
    (h0 : ∀ i (h : i < L.length), w.cell? ⟨b0, o0 + i, none⟩ = some (.string L[i].1))
    (h1 : ∀ i (h : i < L.length), w.cell? ⟨b1, o1 + i, none⟩ = some (.string L[i].2.1))
    (h2 : ∀ i (h : i < L.length), w.cell? ⟨b2, o2 + i, none⟩ = some (.bool L[i].2.2)) :
    Calls Try.prog 10 #[.slice (some ⟨b0, o0, none⟩) L.length c0, .slice (some ⟨b1, o1, none⟩) L.length c1, .slice (some ⟨b2, o2, none⟩) L.length c2] w fun e w' => e = .returned (.pointer (some ⟨w.heap.size, 0, none⟩)) ∧ Built (w.heap.size + 1) w.heap.size L w' ∧ Below w.heap.size w w' := by
  have hpos : 0 < L.length := List.length_pos_iff.2 hL
  have q0 := World.block_lt_of_cell? w _ (h0 0 hpos)
  have q1 := World.block_lt_of_cell? w _ (h1 0 hpos)
  have q2 := World.block_lt_of_cell? w _ (h2 0 hpos)
  simp only at q0 q1 q2
  have H0 := Hid.mk h0
  have H1 := Hid.mk h1
  have H2 := Hid.mk h2
  clear h0 h1 h2 hL hpos
  go_enter Try.func10, Try.ntmps10
  go_wp2_with fail
  refine (newElem _ _ _).mono ?_
  rintro e w' ⟨rfl, rfl⟩
  go_wp2_with fail
  go_loopw [8] (fun i wr => ∃ (k : Nat), k ≤ L.length ∧ i = .int .i64 k ∧ Built (w.heap.size + 1) w.heap.size (L.take k) wr ∧ Below w.heap.size w wr) (fun i _ => L.length - (intOf i).toNat)
  case atStart => exact ⟨0, Nat.zero_le _, rfl, ⟨_, [], El_new _ _ _, by exact World.ownsRow_nil _ _ _ _, rfl, rfl⟩, (Below.refl _ _).alloc (Nat.le_refl _) _⟩
  case round =>
    obtain ⟨k, hk, rfl, hB, hbel⟩ := hrel
    have HB := Hid.mk hB
    have HL := Hid.mk hbel
    by_cases hlt : k < L.length
    · have g0 := (hbel.cell (p := ⟨b0, o0 + k, none⟩) q0).trans (H0.out k hlt)
      have g1 := (hbel.cell (p := ⟨b1, o1 + k, none⟩) q1).trans (H1.out k hlt)
      have g2 := (hbel.cell (p := ⟨b2, o2 + k, none⟩) q2).trans (H2.out k hlt)
      have r0 : b0 < wr.heap.size := Nat.lt_of_lt_of_le q0 hbel.size
      have p0 := H0.out k hlt
      have p1 := H1.out k hlt
      clear hB hbel H0 H1 H2
      obtain ⟨x, hx⟩ : ∃ x, x = L[k] := ⟨_, rfl⟩
      rw [← hx] at g0 g1 g2 p0 p1
      obtain ⟨t, g, e⟩ := x
      have HX := Hid.mk hx
      clear hx
      simp only at g0 g1 g2 p0 p1
      have P0 := Hid.mk p0
      have P1 := Hid.mk p1
      clear p0 p1
      cases e
      · by_cases hg : g.toList.isEmpty = true
        · go_wp2_with fail
          refine (step_text w.heap.size k L t g w _ hlt hlen HX.out hg HB.out HL.out).mono ?_
          rintro e w1 ⟨rfl, hB1, hb1⟩
          go_wp2_with fail
          go_roundw
          case rel => exact ⟨k + 1, by omega, by go_num, hB1, hb1⟩
          case measure => simp [intOf]; omega
        · have hg' : g.toList.isEmpty = false := by simpa using hg
          clear hg
          have u0 : (0 : Int) ≤ (k : Int) := by omega
          have u1 : (k : Int) < (L.length : Int) := by omega
          go_wp2_with fail
          go_region_held3 (fun w' => w'.cell? ⟨b0, o0 + k, none⟩ = some (.string t) ∧ w'.cell? ⟨b1, o1 + k, none⟩ = some (.string g)) (first | go_keep | exact ⟨(hb1.cell (p := ⟨b0, o0 + k, none⟩) q0).trans P0.out, (hb1.cell (p := ⟨b1, o1 + k, none⟩) q1).trans P1.out⟩)
            ((go_at_call 23; refine (step_pi w.heap.size k L t g w _ hlt hlen HX.out hg' (by exact HB.out) (by exact HL.out.drew)).mono ?_; rintro e w1 ⟨rfl, hB1, hb1⟩))
          go_wp2_with fail
          go_roundw
          case rel => exact ⟨k + 1, by omega, by go_num, hB1, hb1⟩
          case measure => simp [intOf]; omega
      · go_wp2_with fail
        refine (newElem _ _ _).mono ?_
        rintro e w' ⟨rfl, rfl⟩
        go_wp2_with fail
        refine (step_child1 w.heap.size (L.take k) t _ _ w wr HB.out HL.out).mono ?_
        rintro e w1 ⟨rfl, hB1, hb1⟩
        have HB1 := Hid.mk hB1
        have HL1 := Hid.mk hb1
        clear hB1 hb1
        go_wp2_with fail
        refine (step_child2 w.heap.size wr.heap.size k L t g w _ hlt hlen HX.out HB1.out HL1.out).mono ?_
        rintro e w2 ⟨rfl, hB2, hb2⟩
        go_wp2_with fail
        go_roundw
        case rel => exact ⟨k + 1, by omega, by go_num, hB2, hb2⟩
        case measure => simp [intOf]; omega
    · clear hB hbel
      go_wp2_with fail
      go_ret
      obtain rfl : k = L.length := by omega
      have := HB.out
      rw [List.take_of_length_le (Nat.le_refl _)] at this
      exact ⟨rfl, this, HL.out⟩
end Go.Proofs.Qxb6000406a
