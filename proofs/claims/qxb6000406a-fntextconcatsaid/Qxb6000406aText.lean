/-
  text: the concatenation of the character data.
-/
import Derived.Test.Qxb6000406aPlain
import Derived.Test.Qxb6000406aBuilder
import Derived.Test.Qxb6000406aFlat
namespace Go.Proofs.Qxb6000406a
open Go.RowKit


theorem write_bytes (B b : Nat) (l : List UInt8) (s : ByteArray) (w : World) (h : Lib.IsBuilderF 56 5 B b (Lib.byteCells l) w) (hlen : l.length + s.size ≤ 140737488355328) (hBw : B ≤ w.heap.size) :
    Calls Try.prog 29 #[.pointer (some ⟨b, 0, none⟩), .string s] w fun e w' => e = .returned (.tuple #[.int .i64 s.size, .nilIface]) ∧ Lib.IsBuilderF 56 5 B b (Lib.byteCells (l ++ s.data.toList)) w' ∧ Below B w w' ∧ Lib.OthersKept 5 (some b) w w' := by
  refine (writeString_k B b _ s w h (by rw [Lib.byteCells_length]; exact hlen) hBw).mono ?_
  rintro e w' ⟨rfl, h1, h2, h3⟩
  rw [Lib.strCells_eq, ← Lib.byteCells_append] at h1
  exact ⟨rfl, .inr h1, h2, h3⟩

theorem ntext_take (ns : List Node) (k : Nat) (h : k < ns.length) : ntext (ns.take (k + 1)) = ntext (ns.take k) ++ (if keepN ns[k] then ns[k].2.1.data.toList else []) := by
  rw [List.take_succ_eq_append_getElem h, ntext_snoc]
theorem ntext_take_le (ns : List Node) (k : Nat) : (ntext (ns.take k)).length ≤ (ntext ns).length := by
  have e : ntext ns = ntext (ns.take k) ++ ntext (ns.drop k) := by
    have h : ntext (ns.take k ++ ns.drop k) = ntext (ns.take k) ++ ntext (ns.drop k) := by unfold ntext; exact List.flatMap_append
    rw [List.take_append_drop] at h
    exact h
  rw [e, List.length_append]; omega

/-- What the loop of text keeps: m pieces so far; the first is f; from the second on the builder holds all. -/
def TInv (B : Nat) (ns : List Node) (k m : Nat) (f : ByteArray) (w : World) : Prop :=
  (m = 0 → ntext (ns.take k) = []) ∧ (m < 2 → Lib.IsBuilderF 56 5 B B (Lib.byteCells []) w ∧ f.data.toList = ntext (ns.take k)) ∧ (2 ≤ m → Lib.IsBuilderF 56 5 B B (Lib.byteCells (ntext (ns.take k))) w)
theorem TInv.skip {B : Nat} {ns : List Node} {k m : Nat} {f : ByteArray} {w : World} (h : TInv B ns k m f w) (hk : k < ns.length) (hn : keepN ns[k] = false) (o : Obj) : TInv B ns (k + 1) m f (w.alloc o) := by
  have e : ntext (ns.take (k + 1)) = ntext (ns.take k) := by rw [ntext_take ns k hk, hn]; simp
  unfold TInv
  rw [e]
  exact ⟨h.1, fun hm => ⟨(h.2.1 hm).1.alloc o, (h.2.1 hm).2⟩, fun hm => (h.2.2 hm).alloc o⟩
theorem TInv.first {B : Nat} {ns : List Node} {k : Nat} {f t g : ByteArray} {w : World} (h : TInv B ns k 0 f w) (hk : k < ns.length) (hx : (none, t, g) = ns[k]) (hg : g.toList.isEmpty = true) (o : Obj) : TInv B ns (k + 1) 1 t (w.alloc o) := by
  have e : ntext (ns.take (k + 1)) = t.data.toList := by rw [ntext_take ns k hk, ← hx, h.1 rfl]; simp [keepN, hg]
  unfold TInv
  rw [e]
  exact ⟨fun hm => by omega, fun _ => ⟨(h.2.1 (by omega)).1.alloc o, rfl⟩, fun hm => by omega⟩
theorem TInv.next {B : Nat} {ns : List Node} {k m : Nat} {f t g : ByteArray} {w : World} (hk : k < ns.length) (hx : (none, t, g) = ns[k]) (hg : g.toList.isEmpty = true) (hm : 2 ≤ m) (h : Lib.IsBuilderF 56 5 B B (Lib.byteCells (ntext (ns.take k) ++ t.data.toList)) w) : TInv B ns (k + 1) m f w := by
  have e : ntext (ns.take (k + 1)) = ntext (ns.take k) ++ t.data.toList := by rw [ntext_take ns k hk, ← hx]; simp [keepN, hg]
  unfold TInv
  rw [e]
  exact ⟨fun hm => by omega, fun hm => by omega, fun _ => h⟩
theorem t_len {ns : List Node} {k : Nat} {t g : ByteArray} (hk : k < ns.length) (hx : (none, t, g) = ns[k]) (hg : g.toList.isEmpty = true) (htx : (ntext ns).length ≤ 1099511627776) : (ntext (ns.take k)).length + t.size ≤ 1099511627776 := by
  have := ntext_take_le ns (k + 1)
  rw [ntext_take ns k hk, ← hx] at this
  simp [keepN, hg] at this
  have e : t.size = t.data.size := rfl
  omega

set_option maxHeartbeats 2000000 in
theorem text_some (b g cap : Nat) (ns : List Node) (w : World) (hlen : ns.length ≤ 2097152) (htx : (ntext ns).length ≤ 1099511627776)
    (hb5 : w.cell? ⟨b, 5, none⟩ = some (.slice (some ⟨g, 0, none⟩) ns.length cap)) (hblt : b < w.heap.size) (hglt : g < w.heap.size)
    (hc : ∀ k j (h : k < ns.length), j < 3 → w.cell? ⟨g, k * 3 + j, none⟩ = (ncells ns[k])[j]?) :
    Calls Try.prog 26 #[.pointer (some ⟨b, 0, none⟩)] w fun e w' => e = .returned (.string ⟨(ntext ns).toArray⟩) ∧ Below w.heap.size w w' := by
  have HC := Hid.mk hc
  clear hc
  go_enter Try.func26, Try.ntmps26
  go_wp2_with fail
  go_loopw [3, 4, 13] (fun first parts idx wr => ∃ (k m : Nat) (f : ByteArray), k ≤ ns.length ∧ m ≤ k ∧ idx = .int .i64 k ∧ parts = .int .i64 m ∧ first = .string f ∧ Below w.heap.size w wr ∧ w.heap.size < wr.heap.size ∧ TInv w.heap.size ns k m f wr) (fun _ _ idx _ => ns.length - (intOf idx).toNat)
  case atStart =>
    refine ⟨0, 0, ⟨#[]⟩, Nat.zero_le _, Nat.zero_le _, rfl, rfl, rfl, (Below.refl _ _).alloc (Nat.le_refl _) _, by simp, fun _ => rfl, fun _ => ⟨Lib.IsBuilderF.of (Lib.fresh_isBuilder 56 5 w), rfl⟩, fun h => by omega⟩
  case round =>
    obtain ⟨k, m, f, hk, hm, rfl, rfl, rfl, hbel, hsz, hT⟩ := hrel
    have HT := Hid.mk hT
    have HL := Hid.mk hbel
    by_cases hlt : k < ns.length
    · obtain ⟨x, hx⟩ : ∃ x, x = ns[k] := ⟨_, rfl⟩
      have p0 := (hbel.cell (p := ⟨g, k * 3, none⟩) hglt).trans (HC.out k 0 hlt (by omega))
      have p1 := (hbel.cell (p := ⟨g, k * 3 + 1, none⟩) hglt).trans (HC.out k 1 hlt (by omega))
      have p2 := (hbel.cell (p := ⟨g, k * 3 + 2, none⟩) hglt).trans (HC.out k 2 hlt (by omega))
      rw [← hx] at p0 p1 p2
      obtain ⟨o, t, tg⟩ := x
      have HX := Hid.mk hx
      simp only [ncells, List.getElem?_cons_zero, List.getElem?_cons_succ] at p0 p1 p2
      clear hbel hT hx
      cases o with
      | some a =>
        go_wp2_with fail
        go_roundw
        case rel => exact ⟨k + 1, m, f, by omega, by omega, by go_num, rfl, rfl, HL.out.alloc (Nat.le_of_lt hsz) _, by simp; omega, HT.out.skip hlt (by rw [← HX.out]; simp [keepN]) _⟩
        case measure => simp [intOf]; omega
      | none =>
        by_cases hg : tg.toList.isEmpty = true
        · by_cases hm0 : m = 0
          · subst hm0
            go_wp2_with fail
            go_roundw
            case rel => exact ⟨k + 1, 1, t, by omega, by omega, by go_num, rfl, rfl, HL.out.alloc (Nat.le_of_lt hsz) _, by simp; omega, HT.out.first hlt HX.out hg _⟩
            case measure => simp [intOf]; omega
          · by_cases hm1 : m = 1
            · subst hm1
              go_wp2_with fail
              have hb1 : Lib.IsBuilderF 56 5 w.heap.size w.heap.size (Lib.byteCells []) (wr.alloc (.cells #[.pointer none, .string t, .string tg] 53)) := (HT.out.2.1 (by omega)).1.alloc _
              have hf1 := (HT.out.2.1 (by omega)).2
              have hl1 := t_len hlt HX.out hg htx
              have HF := Hid.mk hf1
              have HLn := Hid.mk hl1
              have hsf : f.size = (ntext (ns.take k)).length := by rw [← hf1]; exact (Array.length_toList).symm
              refine (write_bytes w.heap.size w.heap.size [] f _ hb1 (by have e0 : ([] : List UInt8).length = 0 := rfl; omega) (by simp; omega)).mono ?_
              rintro e w1 ⟨rfl, hI, hbl, hok⟩
              have hcell : w1.cell? ⟨wr.heap.size, 1, none⟩ = some (.string t) := by
                rw [Lib.cell_of_heap (hok wr.heap.size _ (heap_alloc_new wr _) (by simp; omega) (by simp))]
                rfl
              have HI := Hid.mk hI
              have HBl := Hid.mk hbl
              clear hI hbl hok hb1 hf1 hl1 hsf
              go_wp2_with fail
              refine (write_bytes w.heap.size w.heap.size (ntext (ns.take k)) t _ (by have := HI.out; rw [List.nil_append, HF.out] at this; exact this) (by have := HLn.out; omega) (by have := HBl.out.size; simp at this; omega)).mono ?_
              rintro e w2 ⟨rfl, hI2, hbl2, _⟩
              have HI2 := Hid.mk hI2
              have HBl2 := Hid.mk ((HL.out.alloc (Nat.le_of_lt hsz) (.cells #[.pointer none, .string t, .string tg] 53)).trans (HBl.out.trans hbl2))
              have HS2 : Hid (w.heap.size < w2.heap.size) := by have h1 := HBl.out.size; have h2 := hbl2.size; simp at h1; exact (by omega : w.heap.size < w2.heap.size)
              clear hI2 hbl2
              go_wp2_with fail
              go_roundw
              case rel => exact ⟨k + 1, 2, f, by omega, by omega, by go_num, rfl, rfl, HBl2.out, HS2.out, TInv.next hlt HX.out hg (by omega) HI2.out⟩
              case measure => simp [intOf]; omega
            · have e1 : (((m : Int) + 1) == 1) = false := by simp; omega
              have e2 : (((m : Int) + 1) == 2) = false := by simp; omega
              go_wp2_with fail
              have hb1 : Lib.IsBuilderF 56 5 w.heap.size w.heap.size (Lib.byteCells (ntext (ns.take k))) (wr.alloc (.cells #[.pointer none, .string t, .string tg] 53)) := (HT.out.2.2 (by omega)).alloc _
              have HLn := Hid.mk (t_len hlt HX.out hg htx)
              refine (write_bytes w.heap.size w.heap.size (ntext (ns.take k)) t _ hb1 (by have := HLn.out; omega) (by simp; omega)).mono ?_
              rintro e w2 ⟨rfl, hI2, hbl2, _⟩
              have HI2 := Hid.mk hI2
              have HBl2 := Hid.mk ((HL.out.alloc (Nat.le_of_lt hsz) (.cells #[.pointer none, .string t, .string tg] 53)).trans hbl2)
              have HS2 : Hid (w.heap.size < w2.heap.size) := by have h2 := hbl2.size; simp at h2; exact (by omega : w.heap.size < w2.heap.size)
              clear hI2 hbl2 hb1
              go_wp2_with fail
              go_roundw
              case rel => exact ⟨k + 1, m + 1, f, by omega, by omega, by go_num, by go_num, rfl, HBl2.out, HS2.out, TInv.next hlt HX.out hg (by omega) HI2.out⟩
              case measure => simp [intOf]; omega
        · have hg' : tg.toList.isEmpty = false := by simpa using hg
          clear hg
          go_wp2_with fail
          go_roundw
          case rel => exact ⟨k + 1, m, f, by omega, by omega, by go_num, rfl, rfl, HL.out.alloc (Nat.le_of_lt hsz) _, by simp; omega, HT.out.skip hlt (by rw [← HX.out]; simp [keepN, hg']) _⟩
          case measure => simp [intOf]; omega
    · obtain rfl : k = ns.length := by omega
      have hT' := HT.out
      unfold TInv at hT'
      rw [List.take_of_length_le (Nat.le_refl _)] at hT'
      have HT' := Hid.mk hT'
      clear hT hbel hT' HT
      by_cases hm2 : m < 2
      · go_wp2_with fail
        go_ret
        refine ⟨?_, HL.out⟩
        rw [← (HT'.out.2.1 hm2).2]
        show Ending.returned (.string f) = _
        rw [Array.toArray_toList]
      · go_wp2_with fail
        refine (builder_String w.heap.size w.heap.size (ntext ns) _ (HT'.out.2.2 (by omega)) (Nat.le_of_lt hsz)).mono ?_
        rintro e w1 ⟨rfl, _, hb1, _⟩
        go_wp2_with fail
        go_ret
        exact ⟨rfl, HL.out.trans hb1⟩

set_option maxHeartbeats 1000000 in
theorem text_none (b cap : Nat) (ao : Option Addr) (w : World) (hb5 : w.cell? ⟨b, 5, none⟩ = some (.slice ao 0 cap)) (hblt : b < w.heap.size) :
    Calls Try.prog 26 #[.pointer (some ⟨b, 0, none⟩)] w fun e w' => e = .returned (.string ⟨#[]⟩) ∧ Below w.heap.size w w' := by
  go_enter Try.func26, Try.ntmps26
  go_wp2_with fail
  refine wp_loop_rounds 1 ?_
  rw [rounds_succ]
  go_wp2_with fail
  go_ret
  exact ⟨rfl, (Below.refl _ _).alloc (Nat.le_refl _) _⟩

theorem El.cell5 {w : World} {b : Nat} {v : Value} (h : El w b v) : w.cell? ⟨b, 5, none⟩ = some v := by
  obtain ⟨c0, c1, c2, c3, c4, c6, hb⟩ := h
  rw [Lib.cell_of_heap hb]; rfl
theorem flat_cells {w : World} {B g cap : Nat} {ns : List Node} (h : w.ownsRow B 53 3 (.slice (some ⟨g, 0, none⟩) ns.length cap) ns.length (flatc ns)) (k j : Nat) (hk : k < ns.length) (hj : j < 3) : w.cell? ⟨g, k * 3 + j, none⟩ = (ncells ns[k])[j]? := by
  have e := flatc_get ns k j hk hj
  obtain ⟨u, hu⟩ : ∃ u, (ncells ns[k])[j]? = some u := by
    match j, hj with
    | 0, _ => exact ⟨_, rfl⟩
    | 1, _ => exact ⟨_, rfl⟩
    | 2, _ => exact ⟨_, rfl⟩
  rw [hu] at e ⊢
  have := h.cells (g := g) rfl _ _ e
  have ea : (⟨g, 0, none⟩ : Addr).add (k * 3 + j) = ⟨g, k * 3 + j, none⟩ := by unfold Addr.add; split <;> simp_all
  rw [ea] at this
  exact this

/-- text at what buildFlat built. -/
theorem text_built (B b : Nat) (L : List Item) (w : World) (h : Built B b L w) (hlen : L.length ≤ 2097152) (htx : (ltext L).length ≤ 1099511627776) :
    Calls Try.prog 26 #[.pointer (some ⟨b, 0, none⟩)] w fun e w' => e = .returned (.string ⟨(ltext L).toArray⟩) ∧ Below w.heap.size w w' := by
  obtain ⟨v, ns, hE, hO, hn, ht⟩ := h
  have h5 := hE.cell5
  rw [← ht]
  rw [← ht] at htx
  rw [← hn] at hlen
  rcases hO.2 with ⟨rfl, h0⟩ | ⟨g, cap, cur, rfl, hBg, hg, r⟩
  · have : ns = [] := List.length_eq_zero_iff.1 h0
    subst this
    exact text_none b 0 none w h5 hE.lt
  · exact text_some b g cap ns w hlen htx h5 hE.lt (Array.getElem?_eq_some_iff.1 hg).1 (flat_cells hO)
theorem zztext_built (B b : Nat) (L : List Item) (w : World) (h : Built B b L w) (hlen : L.length ≤ 2097152) (htx : (ltext L).length ≤ 1099511627776) :
    Calls Try.prog 11 #[.pointer (some ⟨b, 0, none⟩)] w fun e w' => e = .returned (.string ⟨(ltext L).toArray⟩) ∧ Below w.heap.size w w' := by
  have H := text_built B b L w h hlen htx
  clear h
  go_enter Try.func11, Try.ntmps11
  go_wp2_with fail
  refine H.mono ?_
  rintro e w' ⟨rfl, hb⟩
  go_wp2_with fail
  go_ret
  exact ⟨rfl, hb⟩
end Go.Proofs.Qxb6000406a
