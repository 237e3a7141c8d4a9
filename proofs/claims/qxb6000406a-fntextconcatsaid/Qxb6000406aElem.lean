/-
  ZZNew, ZZAddText, ZZAddPI, ZZAddChild: what each does to memory.
-/
import Derived.Test.Qxb6000406aRows
import Derived.Test.Qxb6000406aPlain
import Derived.WalkKit
import Derived.WalkSpells
import Derived.WalkLawsBesides
namespace Go.Proofs.Qxb6000406a
open Go.RowKit
theorem Try.info53 : (Try.prog.info? 53).map (fun i => (i.zero, i.size, i.bytes)) = some (some (.agg #[.pointer none, .string ⟨#[]⟩, .string ⟨#[]⟩]), 3, 40) := by kernel_rfl

/-- What an append of one node to the element in block b leaves. -/
def Added (base b n : Nat) (v : Value) (xs news : List Value) (w w' : World) : Prop :=
  ∃ v', El w' b v' ∧ w'.ownsRow base 53 3 v' (n + 1) (xs ++ news) ∧ Kept (fun k => k = b ∨ v.ownBlock = some k) w w'

theorem cells3_new (w : World) (x y z : Value) (T : TypeId) (j : Nat) (u : Value) (h : [x, y, z][j]? = some u) : (w.alloc (.cells #[x, y, z] T)).cell? ((⟨w.heap.size, 0, none⟩ : Addr).add j) = some u := by
  have e : (⟨w.heap.size, 0, none⟩ : Addr).add j = ⟨w.heap.size, j, none⟩ := by
    unfold Addr.add
    split
    · simp_all
    · simp
  rw [e, World.cell?_alloc_at _ _ _ _ rfl]
  rw [← h]
  simp
theorem Hid.mk {p : Prop} (h : p) : Hid p := h
theorem added_mk {base b n : Nat} {v v' : Value} {xs news : List Value} {w w1 : World} {o : Obj} (hb1 : El w1 b v) (hown' : w1.ownsRow base 53 3 v' (n + 1) (xs ++ news)) (hgrow : (w.alloc o).grownBy w1 v.ownBlock) :
    Added base b n v xs news w (w1.setCell ⟨b, 5, none⟩ v') := by
  have hne := hb1.owns_ne hown'
  refine ⟨v', hb1.put v', owns_kept (S := fun k => k = b) hown' ((Kept.refl (fun k => k = b) w1).setCell (p := ⟨b, 5, none⟩) rfl _) (fun k hk e => hne (by rw [hk, e])), ?_⟩
  exact (((Kept.refl _ w).alloc o).grown hgrow (fun k hk => .inr hk)).setCell (p := ⟨b, 5, none⟩) (.inl rfl) _

set_option maxHeartbeats 1000000 in
theorem addText (base b n : Nat) (s : ByteArray) (v : Value) (xs : List Value) (w : World) (hEl : El w b v) (hown : w.ownsRow base 53 3 v n xs) (hbase : base ≤ w.heap.size) (hn : n ≤ 10000000) :
    Calls Try.prog 22 #[.pointer (some ⟨b, 0, none⟩), .string s] w fun e w' => e = .returned (.tuple #[]) ∧ Added base b n v xs [.pointer none, .string s, .string ⟨#[]⟩] w w' := by
  obtain ⟨i0, hi, hz0, hz1, hz2⟩ := info_parts Try.info53
  have hlt := hEl.lt
  have hne := hEl.owns_ne hown
  have g5 : w.cell? ⟨b, 5, none⟩ = some v := by
    obtain ⟨c0, c1, c2, c3, c4, c6, hb⟩ := hEl
    rw [Lib.cell_of_heap hb]; rfl
  have HE : Hid (El w b v) := hEl
  clear hEl
  go_enter Try.func22, Try.ntmps22
  go_wp2_with (at_builtin; refine wpList_append_own _ rfl _ _ 49 rfl base 53 i0 _ 3 40 Try.underlying49 hi hz0 hz1 hz2 rfl (by decide) _ _ _ rfl (hown.alloc _) ⟨w.heap.size, 0, none⟩ 1 1 [.pointer none, .string s, .string ⟨#[]⟩] rfl rfl ?c1 ?c2 ?c3 ?c4 ?c5 ?_)
  case c1 => exact cells3_new _ _ _ _ _
  case c2 => simp [Value.oneCell']
  case c3 => unfold maxLen; omega
  case c4 => omega
  case c5 => simp; omega
  intro v' w1 hown' hgrow _
  have hE1 : El w1 b v := HE.out.kept (S := fun k => v.ownBlock = some k) (((Kept.refl _ w).alloc _).grown hgrow (fun k hk => hk)) hne
  have HE1 : Hid (El w1 b v) := hE1
  obtain ⟨c0, c1, c2, c3, c4, c6, hb1⟩ := hE1
  have d5 : w1.cell? ⟨b, 5, none⟩ = some v := by rw [Lib.cell_of_heap hb1]; rfl
  have f5 : w1.frozen? ⟨b, 5, none⟩ = false := Lib.frozen_of_heap hb1 5
  obtain ⟨ao, cap, rfl⟩ := owns_slice hown'
  have A := added_mk HE1.out hown' hgrow
  clear hown' hgrow hown hb1 hz0 hz1 hz2 hi
  go_wp2
  go_end0
  exact ⟨rfl, A⟩

set_option maxHeartbeats 1000000 in
theorem addPI (base b n : Nat) (g s : ByteArray) (v : Value) (xs : List Value) (w : World) (hEl : El w b v) (hown : w.ownsRow base 53 3 v n xs) (hbase : base ≤ w.heap.size) (hn : n ≤ 10000000) :
    Calls Try.prog 23 #[.pointer (some ⟨b, 0, none⟩), .string g, .string s] w fun e w' => e = .returned (.tuple #[]) ∧ Added base b n v xs [.pointer none, .string s, .string g] w w' := by
  obtain ⟨i0, hi, hz0, hz1, hz2⟩ := info_parts Try.info53
  have hlt := hEl.lt
  have hne := hEl.owns_ne hown
  have g5 : w.cell? ⟨b, 5, none⟩ = some v := by
    obtain ⟨c0, c1, c2, c3, c4, c6, hb⟩ := hEl
    rw [Lib.cell_of_heap hb]; rfl
  have HE : Hid (El w b v) := hEl
  clear hEl
  go_enter Try.func23, Try.ntmps23
  go_wp2_with (at_builtin; refine wpList_append_own _ rfl _ _ 49 rfl base 53 i0 _ 3 40 Try.underlying49 hi hz0 hz1 hz2 rfl (by decide) _ _ _ rfl (hown.alloc _) ⟨w.heap.size, 0, none⟩ 1 1 [.pointer none, .string s, .string g] rfl rfl ?c1 ?c2 ?c3 ?c4 ?c5 ?_)
  case c1 => exact cells3_new _ _ _ _ _
  case c2 => simp [Value.oneCell']
  case c3 => unfold maxLen; omega
  case c4 => omega
  case c5 => simp; omega
  intro v' w1 hown' hgrow _
  have hE1 : El w1 b v := HE.out.kept (S := fun k => v.ownBlock = some k) (((Kept.refl _ w).alloc _).grown hgrow (fun k hk => hk)) hne
  have HE1 : Hid (El w1 b v) := hE1
  obtain ⟨c0, c1, c2, c3, c4, c6, hb1⟩ := hE1
  have d5 : w1.cell? ⟨b, 5, none⟩ = some v := by rw [Lib.cell_of_heap hb1]; rfl
  have f5 : w1.frozen? ⟨b, 5, none⟩ = false := Lib.frozen_of_heap hb1 5
  obtain ⟨ao, cap, rfl⟩ := owns_slice hown'
  have A := added_mk HE1.out hown' hgrow
  clear hown' hgrow hown hb1 hz0 hz1 hz2 hi
  go_wp2
  go_end0
  exact ⟨rfl, A⟩

theorem newElem (sp lo : ByteArray) (w : World) :
    Calls Try.prog 21 #[.string sp, .string lo] w fun e w' => e = .returned (.pointer (some ⟨w.heap.size, 0, none⟩)) ∧ w' = w.alloc (.cells #[.string ⟨#[]⟩, .string lo, .string sp, .slice none 0 0, .slice none 0 0, .slice none 0 0, .pointer none] 51) := by
  go_enter Try.func21, Try.ntmps21
  go_wp2
  go_ret
  exact ⟨rfl, rfl⟩
theorem El_new (w : World) (lo sp : ByteArray) : El (w.alloc (.cells #[.string ⟨#[]⟩, .string lo, .string sp, .slice none 0 0, .slice none 0 0, .slice none 0 0, .pointer none] 51)) w.heap.size (.slice none 0 0) :=
  ⟨_, _, _, _, _, _, heap_alloc_new w _⟩

set_option maxHeartbeats 1000000 in
theorem addChild (base b c n : Nat) (v u : Value) (xs : List Value) (w : World) (hEl : El w b v) (hC : El w c u) (hbc : b ≠ c) (hown : w.ownsRow base 53 3 v n xs) (hbase : base ≤ w.heap.size) (hn : n ≤ 10000000) :
    Calls Try.prog 24 #[.pointer (some ⟨b, 0, none⟩), .pointer (some ⟨c, 0, none⟩)] w fun e w' => e = .returned (.tuple #[]) ∧ ∃ v', El w' b v' ∧ w'.ownsRow base 53 3 v' (n + 1) (xs ++ [.pointer (some ⟨c, 0, none⟩), .string ⟨#[]⟩, .string ⟨#[]⟩]) ∧ Kept (fun k => k = b ∨ k = c ∨ v.ownBlock = some k) w w' := by
  obtain ⟨i0, hi, hz0, hz1, hz2⟩ := info_parts Try.info53
  have hlt := hEl.lt
  have hltc := hC.lt
  have hne := hEl.owns_ne hown
  have hnc := hC.owns_ne hown
  have hk0 : Kept (fun k => k = c) w (w.setCell ⟨c, 6, none⟩ (.pointer (some ⟨b, 0, none⟩))) := (Kept.refl (fun k => k = c) w).setCell (p := ⟨c, 6, none⟩) rfl _
  have hEW := hEl.kept hk0 hbc
  have hownW := owns_kept hown hk0 (fun k hk e => hnc (by rw [hk, e]))
  have g6 : ∃ x, w.cell? ⟨c, 6, none⟩ = some x := by
    obtain ⟨c0, c1, c2, c3, c4, c6, hb⟩ := hC
    exact ⟨c6, by rw [Lib.cell_of_heap hb]; rfl⟩
  obtain ⟨x6, g6⟩ := g6
  have f6 : w.frozen? ⟨c, 6, none⟩ = false := by
    obtain ⟨c0, c1, c2, c3, c4, c6, hb⟩ := hC
    exact Lib.frozen_of_heap hb 6
  have g5 : w.cell? ⟨b, 5, none⟩ = some v := by
    obtain ⟨c0, c1, c2, c3, c4, c6, hb⟩ := hEl
    rw [Lib.cell_of_heap hb]; rfl
  have hcb : c ≠ b := fun e => hbc e.symm
  have hsz : (w.setCell ⟨c, 6, none⟩ (.pointer (some ⟨b, 0, none⟩))).heap.size = w.heap.size := by simp [World.setCell]
  have HS := Hid.mk hsz
  have HK := Hid.mk hk0
  have HE := Hid.mk hEW
  have HO := Hid.mk hownW
  clear hEl hC hk0 hEW hown hsz hownW
  go_enter Try.func24, Try.ntmps24
  go_wp2_with (at_builtin; refine wpList_append_own _ rfl _ _ 49 rfl base 53 i0 _ 3 40 Try.underlying49 hi hz0 hz1 hz2 rfl (by decide) _ _ _ rfl (HO.out.alloc _) ⟨w.heap.size, 0, none⟩ 1 1 [.pointer (some ⟨c, 0, none⟩), .string ⟨#[]⟩, .string ⟨#[]⟩] rfl rfl ?c1 ?c2 ?c3 ?c4 ?c5 ?_)
  case c1 =>
    intro j u h
    have := cells3_new (w.setCell ⟨c, 6, none⟩ (.pointer (some ⟨b, 0, none⟩))) _ _ _ 53 j u h
    rw [HS.out] at this
    exact this
  case c2 => simp [Value.oneCell']
  case c3 => unfold maxLen; omega
  case c4 => omega
  case c5 => have := HS.out; simp; omega
  intro v' w1 hown' hgrow _
  have hE1 : El w1 b v := HE.out.kept (S := fun k => v.ownBlock = some k) (((Kept.refl _ _).alloc _).grown hgrow (fun k hk => hk)) hne
  have A := added_mk hE1 hown' hgrow
  have HE1 := Hid.mk hE1
  obtain ⟨c0, c1, c2, c3, c4, c6, hb1⟩ := hE1
  have d5 : w1.cell? ⟨b, 5, none⟩ = some v := by rw [Lib.cell_of_heap hb1]; rfl
  have f5 : w1.frozen? ⟨b, 5, none⟩ = false := Lib.frozen_of_heap hb1 5
  obtain ⟨ao, cap, rfl⟩ := owns_slice hown'
  clear hown' hgrow hb1 hz0 hz1 hz2 hi
  go_wp2
  go_end0
  refine ⟨rfl, ?_⟩
  obtain ⟨v2, e1, e2, e3⟩ := A
  exact ⟨v2, e1, e2, (HK.out.mono (fun k _ h => .inr (.inl h))).trans (e3.mono (fun k _ h => h.elim .inl (fun h => .inr (.inr h))))⟩
end Go.Proofs.Qxb6000406a
