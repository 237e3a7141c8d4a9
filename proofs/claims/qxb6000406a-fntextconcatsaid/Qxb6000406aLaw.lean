/-
  FnTextConcat: the walk.
-/
import Derived.Test.Qxb6000406aText
import Derived.Test.Qxb6000406aJoin
namespace Go.Proofs.Qxb6000406a
open Go.RowKit

def bools' (es : List Bool) : List Value := es.map Value.bool
/-- The items of three lists side by side. -/
def items (ts gs : List ByteArray) (es : List Bool) : List Item := ts.zip (gs.zip es)
theorem items_len (ts gs : List ByteArray) (es : List Bool) (h1 : gs.length = ts.length) (h2 : es.length = ts.length) : (items ts gs es).length = ts.length := by
  simp [items, h1, h2]
theorem items_0 (ts gs : List ByteArray) (es : List Bool) (h1 : gs.length = ts.length) (h2 : es.length = ts.length) : (items ts gs es).map (fun x => x.1) = ts := by
  unfold items
  have := List.map_fst_zip (l₁ := ts) (l₂ := gs.zip es) (by simp [h1, h2])
  exact this
theorem items_1 (ts gs : List ByteArray) (es : List Bool) (h1 : gs.length = ts.length) (h2 : es.length = ts.length) : (items ts gs es).map (fun x => x.2.1) = gs := by
  have e : (items ts gs es).map (fun x => x.2.1) = ((ts.zip (gs.zip es)).map Prod.snd).map Prod.fst := by simp [items]
  rw [e, List.map_snd_zip (by simp [h1, h2]), List.map_fst_zip (by simp [h1, h2])]
theorem items_2 (ts gs : List ByteArray) (es : List Bool) (h1 : gs.length = ts.length) (h2 : es.length = ts.length) : (items ts gs es).map (fun x => x.2.2) = es := by
  have e : (items ts gs es).map (fun x => x.2.2) = ((ts.zip (gs.zip es)).map Prod.snd).map Prod.snd := by simp [items]
  rw [e, List.map_snd_zip (by simp [h1, h2]), List.map_snd_zip (by simp [h1, h2])]
theorem ltext_le (L : List Item) : (ltext L).length ≤ wt (L.map (fun x => x.1)) := by
  induction L with
  | nil => simp [ltext]
  | cons x L ih =>
    have e : ltext (x :: L) = (if ikeep x then x.1.data.toList else []) ++ ltext L := by simp [ltext]
    rw [e, List.length_append, List.map_cons]
    have e2 : wt (x.1 :: L.map (fun x => x.1)) = (16 + x.1.size) + wt (L.map (fun x => x.1)) := by simp [wt]
    rw [e2]
    have : (if ikeep x then x.1.data.toList else []).length ≤ x.1.size := by
      split
      · exact Nat.le_of_eq (Array.length_toList)
      · simp
    omega

/-- buildFlat, whatever the length. -/
theorem flat_any (a0 a1 a2 : Option Addr) (c0 c1 c2 : Nat) (L : List Item) (w : World) (hlen : L.length ≤ 2097152)
    (r0 : Row w a0 (strs' (L.map (fun x => x.1)))) (r1 : Row w a1 (strs' (L.map (fun x => x.2.1)))) (r2 : Row w a2 (bools' (L.map (fun x => x.2.2)))) :
    Calls Try.prog 10 #[.slice a0 L.length c0, .slice a1 L.length c1, .slice a2 L.length c2] w fun e w' => e = .returned (.pointer (some ⟨w.heap.size, 0, none⟩)) ∧ Built (w.heap.size + 1) w.heap.size L w' ∧ Below w.heap.size w w' := by
  by_cases h0 : L = []
  · subst h0
    exact flat_none a0 a1 a2 c0 c1 c2 w
  · have hp : 0 < L.length := List.length_pos_iff.2 h0
    obtain ⟨b0, o0, rfl, _, h0c⟩ := r0.at (k := 0) (by simpa [strs'] using hp)
    obtain ⟨b1, o1, rfl, _, h1c⟩ := r1.at (k := 0) (by simpa [strs'] using hp)
    obtain ⟨b2, o2, rfl, _, h2c⟩ := r2.at (k := 0) (by simpa [bools'] using hp)
    exact flat_some b0 o0 c0 b1 o1 c1 b2 o2 c2 L w h0 hlen
      (fun i h => by have := h0c i (by simpa [strs'] using h); simpa [strs'] using this)
      (fun i h => by have := h1c i (by simpa [strs'] using h); simpa [strs'] using this)
      (fun i h => by have := h2c i (by simpa [bools'] using h); simpa [bools'] using this)
theorem flat_any' (a0 a1 a2 : Option Addr) (n c0 c1 c2 : Nat) (L : List Item) (w : World) (hn : L.length = n) (hlen : n ≤ 2097152)
    (r0 : Row w a0 (strs' (L.map (fun x => x.1)))) (r1 : Row w a1 (strs' (L.map (fun x => x.2.1)))) (r2 : Row w a2 (bools' (L.map (fun x => x.2.2)))) :
    Calls Try.prog 10 #[.slice a0 n c0, .slice a1 n c1, .slice a2 n c2] w fun e w' => e = .returned (.pointer (some ⟨w.heap.size, 0, none⟩)) ∧ Built (w.heap.size + 1) w.heap.size L w' ∧ Below w.heap.size w w' := by
  subst hn
  exact flat_any a0 a1 a2 c0 c1 c2 L w hlen r0 r1 r2
theorem strs'_append (a b : List ByteArray) : strs' (a ++ b) = strs' a ++ strs' b := by simp [strs']
theorem bools'_append (a b : List Bool) : bools' (a ++ b) = bools' a ++ bools' b := by simp [bools']
theorem strs'_str {ts : List ByteArray} : ∀ u ∈ strs' ts, ∃ s, u = .string s := by
  intro u hu
  simp only [strs', List.mem_map] at hu
  obtain ⟨s, _, rfl⟩ := hu
  exact ⟨s, rfl⟩
theorem bools'_bool {es : List Bool} : ∀ u ∈ bools' es, ∃ s, u = .bool s := by
  intro u hu
  simp only [bools', List.mem_map] at hu
  obtain ⟨s, _, rfl⟩ := hu
  exact ⟨s, rfl⟩
theorem app_toList (a b : List UInt8) : (({ data := a.toArray } : ByteArray) ++ { data := b.toArray }).toList = a ++ b := by
  have e : (({ data := a.toArray } : ByteArray) ++ { data := b.toArray }) = { data := (a ++ b).toArray } := by
    apply ByteArray.ext
    simp
  rw [e, ByteArray.toList_eq]

set_option maxHeartbeats 4000000 in
theorem law_walk (a0 a1 a2 a3 a4 a5 : Option Addr) (n0 n1 n2 n3 n4 n5 c0 c1 c2 c3 c4 c5 : Nat) (t0 t1 t3 t4 : List ByteArray) (e2 e5 : List Bool) (w : World)
    (hn0 : t0.length = n0) (hn1 : t1.length = n1) (hn2 : e2.length = n2) (hn3 : t3.length = n3) (hn4 : t4.length = n4) (hn5 : e5.length = n5)
    (m0 : n0 ≤ maxLen) (m1 : n1 ≤ maxLen) (m3 : n3 ≤ maxLen) (m4 : n4 ≤ maxLen)
    (r0 : Row w a0 (strs' t0)) (r1 : Row w a1 (strs' t1)) (r2 : Row w a2 (bools' e2)) (r3 : Row w a3 (strs' t3)) (r4 : Row w a4 (strs' t4)) (r5 : Row w a5 (bools' e5)) :
    Calls Try.prog 4 #[.slice a0 n0 c0, .slice a1 n1 c1, .slice a2 n2 c2, .slice a3 n3 c3, .slice a4 n4 c4, .slice a5 n5 c5] w fun e w' => e = .returned (.bool true) ∧ Below w.heap.size w w' := by
  have R0 := Hid.mk r0
  have R1 := Hid.mk r1
  have R2 := Hid.mk r2
  have R3 := Hid.mk r3
  have R4 := Hid.mk r4
  have R5 := Hid.mk r5
  have N0 := Hid.mk hn0
  have N1 := Hid.mk hn1
  have N2 := Hid.mk hn2
  have N3 := Hid.mk hn3
  have N4 := Hid.mk hn4
  have N5 := Hid.mk hn5
  have M0 := Hid.mk m0
  have M1 := Hid.mk m1
  have M3 := Hid.mk m3
  have M4 := Hid.mk m4
  clear r0 r1 r2 r3 r4 r5 hn0 hn1 hn2 hn3 hn4 hn5 m0 m1 m3 m4
  go_enter Try.func4, Try.ntmps4
  go_wp2_with fail
  refine (zzBytes_any a0 a1 a2 a3 a4 a5 n0 n1 n2 n3 n4 n5 c0 c1 c2 c3 c4 c5 t0 t1 t3 t4 _ N0.out N1.out N3.out N4.out R0.out R1.out R3.out R4.out).mono ?_
  rintro e w1 ⟨r, rfl, rfl, hS⟩
  cases r
  · go_wp2_with fail
    go_ret
    exact ⟨rfl, Below.refl _ _⟩
  obtain ⟨hS0, hS1, hS3, hS4⟩ := hS rfl
  have S0 := Hid.mk hS0
  have S1 := Hid.mk hS1
  have S3 := Hid.mk hS3
  have S4 := Hid.mk hS4
  have l0 := hS0.1
  have l1 := hS1.1
  have l3 := hS3.1
  have l4 := hS4.1
  clear hS hS0 hS1 hS3 hS4
  go_wp2_with fail
  refine (strBytes_any a0 n0 c0 t0 _ N0.out M0.out R0.out S0.out.2).mono ?_
  rintro e w1 ⟨p, rfl, rfl, pa, pb, pc⟩
  have P := Hid.mk pc
  clear pc
  by_cases pd : 1048576 < p
  · go_wp2_with fail
    go_ret
    exact ⟨rfl, Below.refl _ _⟩
  go_wp2_with fail
  refine (strBytes_any a1 n1 c1 t1 _ N1.out M1.out R1.out S1.out.2).mono ?_
  rintro e w1 ⟨q, rfl, rfl, qa, qb, qc⟩
  have Q := Hid.mk qc
  clear qc
  by_cases qd : 1048576 < q
  · go_wp2_with fail
    go_ret
    exact ⟨rfl, Below.refl _ _⟩
  by_cases d2 : 1048576 < n2
  · go_wp2_with fail
    go_ret
    exact ⟨rfl, Below.refl _ _⟩
  go_wp2_with fail
  refine (strBytes_any a3 n3 c3 t3 _ N3.out M3.out R3.out S3.out.2).mono ?_
  rintro e w1 ⟨r, rfl, rfl, ra, rb, rc⟩
  have R := Hid.mk rc
  clear rc
  by_cases rd : 1048576 < r
  · go_wp2_with fail
    go_ret
    exact ⟨rfl, Below.refl _ _⟩
  go_wp2_with fail
  refine (strBytes_any a4 n4 c4 t4 _ N4.out M4.out R4.out S4.out.2).mono ?_
  rintro e w1 ⟨s, rfl, rfl, sa, sb, sc⟩
  have S := Hid.mk sc
  clear sc
  by_cases sd : 1048576 < s
  · go_wp2_with fail
    go_ret
    exact ⟨rfl, Below.refl _ _⟩
  by_cases d5 : 1048576 < n5
  · go_wp2_with fail
    go_ret
    exact ⟨rfl, Below.refl _ _⟩
  go_wp2_with fail
  refine (strBytes_any a0 n0 c0 t0 _ N0.out M0.out R0.out S0.out.2).mono ?_
  rintro e w1 ⟨pp, rfl, rfl, ppa, ppb, ppc⟩
  have PP := Hid.mk ppc
  clear ppc
  go_wp2_with fail
  refine (strBytes_any a1 n1 c1 t1 _ N1.out M1.out R1.out S1.out.2).mono ?_
  rintro e w1 ⟨qq, rfl, rfl, qqa, qqb, qqc⟩
  have QQ := Hid.mk qqc
  clear qqc
  go_wp2_with fail
  refine (strBytes_any a3 n3 c3 t3 _ N3.out M3.out R3.out S3.out.2).mono ?_
  rintro e w1 ⟨rr, rfl, rfl, rra, rrb, rrc⟩
  have RR := Hid.mk rrc
  clear rrc
  go_wp2_with fail
  refine (strBytes_any a4 n4 c4 t4 _ N4.out M4.out R4.out S4.out.2).mono ?_
  rintro e w1 ⟨ss, rfl, rfl, ssa, ssb, ssc⟩
  have SS := Hid.mk ssc
  clear ssc
  by_cases d9 : 1048576 < pp + qq + n2 + rr + ss + n5
  · go_wp2_with fail
    go_ret
    exact ⟨rfl, Below.refl _ _⟩
  by_cases f1 : n1 = n0
  case neg =>
    have g1 : ((n1 : Int) == (n0 : Int)) = false := by simp; omega
    go_wp2_with fail
    go_ret
    exact ⟨rfl, Below.refl _ _⟩
  subst f1
  by_cases f2 : n2 = n1
  case neg =>
    have g1 : ((n2 : Int) == (n1 : Int)) = false := by simp; omega
    go_wp2_with fail
    go_ret
    exact ⟨rfl, Below.refl _ _⟩
  subst f2
  by_cases f3 : n4 = n3
  case neg =>
    have g1 : ((n4 : Int) == (n3 : Int)) = false := by simp; omega
    go_wp2_with fail
    go_ret
    exact ⟨rfl, Below.refl _ _⟩
  subst f3
  by_cases f4 : n5 = n4
  case neg =>
    have g1 : ((n5 : Int) == (n4 : Int)) = false := by simp; omega
    go_wp2_with fail
    go_ret
    exact ⟨rfl, Below.refl _ _⟩
  subst f4
  have wA := P.out (by omega)
  have wB := R.out (by omega)
  have WA := Hid.mk wA
  have WB := Hid.mk wB
  have lA : 16 * n2 ≤ 1048576 := by have h := wt_len t0; rw [N0.out] at h; omega
  have lB : 16 * n5 ≤ 1048576 := by have h := wt_len t3; rw [N3.out] at h; omega
  go_wp2_with fail
  clear wA wB P Q R S PP QQ RR SS ppa ppb qqa qqb rra rrb ssa ssb d9 pa pb qa qb ra rb sa sb pd qd rd sd l1 l3 l4 l0 d2 d5
  have eA1 : t1.length = t0.length := by rw [N1.out, N0.out]
  have eA2 : e2.length = t0.length := by rw [N2.out, N0.out]
  have eB1 : t4.length = t3.length := by rw [N4.out, N3.out]
  have eB2 : e5.length = t3.length := by rw [N5.out, N3.out]
  obtain ⟨A, hA⟩ : ∃ A, A = items t0 t1 e2 := ⟨_, rfl⟩
  obtain ⟨B, hB⟩ : ∃ B, B = items t3 t4 e5 := ⟨_, rfl⟩
  have A0 : A.map (fun x => x.1) = t0 := by rw [hA]; exact items_0 _ _ _ eA1 eA2
  have A1 : A.map (fun x => x.2.1) = t1 := by rw [hA]; exact items_1 _ _ _ eA1 eA2
  have A2 : A.map (fun x => x.2.2) = e2 := by rw [hA]; exact items_2 _ _ _ eA1 eA2
  have B0 : B.map (fun x => x.1) = t3 := by rw [hB]; exact items_0 _ _ _ eB1 eB2
  have B1 : B.map (fun x => x.2.1) = t4 := by rw [hB]; exact items_1 _ _ _ eB1 eB2
  have B2 : B.map (fun x => x.2.2) = e5 := by rw [hB]; exact items_2 _ _ _ eB1 eB2
  have AL : A.length = n2 := by rw [hA, items_len _ _ _ eA1 eA2]; exact N0.out
  have BL : B.length = n5 := by rw [hB, items_len _ _ _ eB1 eB2]; exact N3.out
  have XA : (ltext A).length ≤ 1048576 := by have h := ltext_le A; rw [A0] at h; have := WA.out; omega
  have XB : (ltext B).length ≤ 1048576 := by have h := ltext_le B; rw [B0] at h; have := WB.out; omega
  have HA0 := Hid.mk A0
  have HA1 := Hid.mk A1
  have HA2 := Hid.mk A2
  have HB0 := Hid.mk B0
  have HB1 := Hid.mk B1
  have HB2 := Hid.mk B2
  have HAL := Hid.mk AL
  have HBL := Hid.mk BL
  clear hA hB A0 A1 A2 B0 B1 B2 AL BL eA1 eA2 eB1 eB2 WA WB
  refine (flat_any' a0 a1 a2 n2 c0 c1 c2 A _ HAL.out (by omega) (by rw [HA0.out]; exact R0.out) (by rw [HA1.out]; exact R1.out) (by rw [HA2.out]; exact R2.out)).mono ?_
  rintro e w2 ⟨rfl, hB1, hb1⟩
  have HW1 := Hid.mk hB1
  have HL1 := Hid.mk hb1
  clear hB1 hb1
  go_wp2_with fail
  refine (zztext_built _ _ A _ HW1.out (by rw [HAL.out]; omega) (by omega)).mono ?_
  rintro e w3 ⟨rfl, hb2⟩
  have HL2 := Hid.mk (HL1.out.trans (hb2.mono HL1.out.size))
  clear hb2 HW1 HL1
  go_wp2_with fail
  refine (flat_any' a3 a4 a5 n5 c3 c4 c5 B _ HBL.out (by omega) (by rw [HB0.out]; exact R3.out.kept HL2.out) (by rw [HB1.out]; exact R4.out.kept HL2.out) (by rw [HB2.out]; exact R5.out.kept HL2.out)).mono ?_
  rintro e w4 ⟨rfl, hB1, hb1⟩
  have HW1 := Hid.mk hB1
  have HL3 := Hid.mk (HL2.out.trans (hb1.mono HL2.out.size))
  clear hB1 hb1 HL2
  go_wp2_with fail
  refine (zztext_built _ _ B _ HW1.out (by rw [HBL.out]; omega) (by omega)).mono ?_
  rintro e w5 ⟨rfl, hb2⟩
  have HL4 := Hid.mk (HL3.out.trans (hb2.mono HL3.out.size))
  clear hb2 HW1 HL3
  go_wp2_with fail
  refine (joinStrings a0 a3 n2 n5 c0 c3 (strs' t0) (strs' t3) _ (by rw [strs'_len]; exact N0.out) (by rw [strs'_len]; exact N3.out) (by omega) (by omega) (R0.out.kept HL4.out) (R3.out.kept HL4.out) strs'_str strs'_str).mono ?_
  rintro e w6 ⟨b0, d0, rfl, hr0, hb3⟩
  have Q0 := Hid.mk hr0
  have HL5 := Hid.mk (HL4.out.trans (hb3.mono HL4.out.size))
  clear hr0 hb3 HL4
  go_wp2_with fail
  refine (joinStrings a1 a4 n2 n5 c1 c4 (strs' t1) (strs' t4) _ (by rw [strs'_len]; exact N1.out) (by rw [strs'_len]; exact N4.out) (by omega) (by omega) (R1.out.kept HL5.out) (R4.out.kept HL5.out) strs'_str strs'_str).mono ?_
  rintro e w7 ⟨b1, d1, rfl, hr1, hb3⟩
  have Q1 := Hid.mk hr1
  have Q0' := Hid.mk (Q0.out.kept hb3)
  have HL6 := Hid.mk (HL5.out.trans (hb3.mono HL5.out.size))
  clear hr1 hb3 HL5 Q0
  go_wp2_with fail
  refine (joinBools a2 a5 n2 n5 c2 c5 (bools' e2) (bools' e5) _ (by simp [bools']; exact N2.out) (by simp [bools']; exact N5.out) (by omega) (by omega) (R2.out.kept HL6.out) (R5.out.kept HL6.out) bools'_bool bools'_bool).mono ?_
  rintro e w8 ⟨b2, d2, rfl, hr2, hb3⟩
  have Q2 := Hid.mk hr2
  have Q0 := Hid.mk (Q0'.out.kept hb3)
  have Q1' := Hid.mk (Q1.out.kept hb3)
  have HL7 := Hid.mk (HL6.out.trans (hb3.mono HL6.out.size))
  clear hr2 hb3 HL6 Q0' Q1
  go_wp2_with fail
  refine (flat_any' b0 b1 b2 (n2 + n5) d0 d1 d2 (A ++ B) _ (by rw [List.length_append, HAL.out, HBL.out]) (by omega) (by rw [List.map_append, HA0.out, HB0.out, strs'_append]; exact Q0.out) (by rw [List.map_append, HA1.out, HB1.out, strs'_append]; exact Q1'.out) (by rw [List.map_append, HA2.out, HB2.out, bools'_append]; exact Q2.out)).mono ?_
  rintro e w9 ⟨rfl, hB1, hb1⟩
  have HW1 := Hid.mk hB1
  have HL8 := Hid.mk (HL7.out.trans (hb1.mono HL7.out.size))
  clear hB1 hb1 HL7
  go_wp2_with fail
  refine (zztext_built _ _ (A ++ B) _ HW1.out (by rw [List.length_append, HAL.out, HBL.out]; omega) (by rw [ltext_append, List.length_append]; omega)).mono ?_
  rintro e w10 ⟨rfl, hb2⟩
  have HL9 := Hid.mk (HL8.out.trans (hb2.mono HL8.out.size))
  clear hb2 HW1 HL8
  rw [ltext_append]
  have hEq : (ltext A ++ ltext B == (({ data := (ltext A).toArray } : ByteArray) ++ { data := (ltext B).toArray }).toList) = true := by rw [app_toList]; exact beq_self_eq_true _
  go_wp2_with fail
  go_ret
  exact ⟨rfl, HL9.out⟩
end Go.Proofs.Qxb6000406a
