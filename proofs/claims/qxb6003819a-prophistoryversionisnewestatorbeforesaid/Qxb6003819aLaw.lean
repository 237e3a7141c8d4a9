/-
  PropHistoryVersionIsNewestAtOrBefore: the walk.
-/
import Derived.Test.Qxb6003819aInv
import Derived.Deep.RegionHeld3
namespace Go.Proofs.Qxb6003819a
open Go.RowKit

theorem Try.info25 : (Try.prog.info? 25).map (fun i => (i.zero, i.size, i.bytes)) = some (some (.int .u64 0), 1, 8) := by kernel_rfl
theorem cells2_new (w : World) (x y : Value) (T : TypeId) (j : Nat) (u : Value) (h : [x, y][j]? = some u) : (w.alloc (.cells #[x, y] T)).cell? ((⟨w.heap.size, 0, none⟩ : Addr).add j) = some u := by
  have e : (⟨w.heap.size, 0, none⟩ : Addr).add j = ⟨w.heap.size, j, none⟩ := by
    unfold Addr.add
    split
    · simp_all
    · simp
  rw [e, World.cell?_alloc_at _ _ _ _ rfl, ← h]
  simp
theorem run_neq_ptr_other {P : Program} (w : World) {tp te : TypeId} {j : TypeInfo} {a b : Addr} {ca cb : Array Value} {ta tb : TypeId} (hp : P.underlying tp = some (.pointer te)) (hte : P.info? te = some j) (hsz : j.size ≠ 0)
    (hne : a ≠ b) (ha : w.heap[a.block]? = some (.cells ca ta (0, 0))) (hb : w.heap[b.block]? = some (.cells cb tb (0, 0))) :
    (binOp .neq tp (.pointer (some a)) (.pointer (some b))).run P w = .ok (.bool true) w := by
  have h : ∀ d : Nat, (Op.equalIn (d + 1) tp (.pointer (some a)) (.pointer (some b))).run P w = .ok false w := fun d => by
    simp [Op.equalIn, run_underlying hp, sizeOf, typeInfo, hte, hsz, run_sameAddr_other w hne ha hb]
  simp only [binOp]
  simp [Op.equal, Op.maxDepth, h 9999]
theorem heapDrewN (w : World) (m : Nat) : (w.drewN m).heap = w.heap := rfl
theorem belowDrewN {B : Nat} {a w : World} (h : Below B a w) (m : Nat) : Below B a (w.drewN m) := ⟨h.os, h.tape, h.output, h.size, h.block⟩
theorem Try.info82 : ∃ j, Try.prog.info? 82 = some j ∧ j.size ≠ 0 := by
  have h : (Try.prog.info? 82).map (fun j => j.size) = some 5 := by kernel_rfl
  cases e : Try.prog.info? 82 with
  | none => rw [e] at h; cases h
  | some j =>
    rw [e] at h
    have : j.size = 5 := Option.some.inj h
    exact ⟨j, rfl, by omega⟩
/-- The row of points so far. -/
def Pts (B : Nat) (v : Value) (k : Nat) (w : World) : Prop := ∃ ps : List Int, w.ownsRow B 25 1 v ps.length (u64s ps) ∧ ps.length ≤ 2 + 3 * k
theorem u64s_len (ps : List Int) : (u64s ps).length = ps.length := by simp [u64s]
theorem u64s_snoc (ps : List Int) (y : Int) : u64s (ps ++ [y]) = u64s ps ++ [.int .u64 y] := by simp [u64s]
def St.zero : St := { n := 0, vb := fun _ => 0, cm := fun _ => 0, od := fun _ => none, nw := fun _ => none, ks := [] }
theorem zero_ok : St.zero.Ok := ⟨fun _ _ _ _ _ h => by simp [St.zero] at h, fun _ _ h => by simp [St.zero] at h, fun _ _ h => by simp [St.zero] at h, fun _ _ h => by simp [St.zero] at h, fun _ _ h => by simp [St.zero] at h, fun i h => by simp [St.zero] at h, fun i j _ h => by simp [St.zero] at h, fun i j h => by simp [St.zero] at h, fun i h => by simp [St.zero] at h, fun i h => by simp [St.zero] at h⟩

theorem check_any' (h : Nat) (S : St) (va ka pa : Option Addr) (nV nK vc kc pn pc : Nat) (ps : List Int) (w : World) (hV : S.n = nV) (hK : S.ks.length = nK) (ok : S.Ok) (m : Mem h S w) (hn : nV ≤ 4096) (hkl : nK ≤ 4096) (hpn : ps.length = pn) (hpm : pn ≤ 1000000)
    (rv : Row w va S.vptrs) (rk : Row w ka (ints S.ks)) (rp : Row w pa (u64s ps)) :
    Calls Try.prog 7 #[.pointer (some ⟨h, 0, none⟩), .slice va nV vc, .slice ka nK kc, .slice pa pn pc] w fun e w' => e = .returned (.bool true) ∧ Below w.heap.size w w' := by
  subst hV hK
  exact check_any h S va ka pa vc kc pn pc ps w ok m hn hkl hpn hpm rv rk rp
theorem row_slice {w : World} {B : Nat} {e : TypeId} {n n' cap : Nat} {a : Option Addr} {vs : List Value} (h : w.ownsRow B e 1 (.slice a n cap) n' vs) : Row w a vs := by
  obtain ⟨a', cap', e1, _, hr⟩ := row_of_owns h
  simp only [Value.slice.injEq] at e1
  rw [e1.1]; exact hr
/-- The check at a state that the loop keeps. -/
theorem check_inv {B h k : Nat} {ops : List Op} {ps : List Int} {va ka pa : Option Addr} {nV nK vc kc pn pc : Nat} {S : St} {w : World} (i : Inv B h ops k ps (.slice va nV vc) (.slice ka nK kc) (.slice pa pn pc) S w) (hV : S.n = nV) (hK : S.ks.length = nK) (hn : nV ≤ 4096) (hpn : ps.length = pn) (hpm : pn ≤ 1000000) :
    Calls Try.prog 7 #[.pointer (some ⟨h, 0, none⟩), .slice va nV vc, .slice ka nK kc, .slice pa pn pc] w fun e w' => e = .returned (.bool true) ∧ Below w.heap.size w w' :=
  check_any' h S va ka pa nV nK vc kc pn pc ps w hV hK i.ok i.mem hn (by have := ks_le i.ok; omega) hpn hpm (row_slice i.rows.v) (row_slice i.rows.k) (row_slice i.rows.p)
theorem owns_count {w : World} {B : Nat} {e : TypeId} {n m cap : Nat} {a : Option Addr} {vs : List Value} (h : w.ownsRow B e 1 (.slice a n cap) m vs) : n = m := by
  obtain ⟨a', cap', e1, _, hr⟩ := row_of_owns h
  simp only [Value.slice.injEq] at e1
  exact e1.2.1

set_option maxRecDepth 100000 in
set_option maxHeartbeats 8000000 in
theorem law_walk (a : Option Addr) (n c : Nat) (ops : List Op) (w : World) (hn : ops.length = n) (hm : n ≤ maxLen) (hr : ORow w a ops) (hc : ∀ op, op ∈ ops → 0 ≤ op.cm ∧ op.cm ≤ 18446744073709551615) :
    Calls Try.prog 3 #[.slice a n c] w fun e w' => e = .returned (.bool true) ∧ Below w.heap.size w w' := by
  unfold maxLen at hm
  by_cases hbig : 4096 < n
  · clear hc hr hn
    go_enter Try.func3, Try.ntmps3
    go_wp2_with fail
    go_ret
    exact ⟨rfl, Below.refl _ _⟩
  obtain ⟨iU, uU1, uU2, uU3, uU4⟩ := info_parts Try.info25
  obtain ⟨iV, uV1, uV2, uV3, uV4⟩ := info_parts Try.info33
  obtain ⟨iK, uK1, uK2, uK3, uK4⟩ := info_parts Try.info3
  have IU := Hid.mk (And.intro uU1 (And.intro uU2 (And.intro uU3 uU4)))
  have IV := Hid.mk (And.intro uV1 (And.intro uV2 (And.intro uV3 uV4)))
  have IK := Hid.mk (And.intro uK1 (And.intro uK2 (And.intro uK3 uK4)))
  have HR := Hid.mk hr
  have HN := Hid.mk hn
  have HC := Hid.mk hc
  clear hr hn hc uV1 uV2 uV3 uV4 uK1 uK2 uK3 uK4 hm
  go_enter Try.func3, Try.ntmps3
  go_wp2_with fail
  refine (outside_any a n c ops w HN.out (by omega) HR.out).mono ?_
  rintro e w1 ⟨r, rfl, hb1, hI⟩
  cases r
  case true =>
    clear uU1 uU2 uU3 uU4 hI
    go_wp2_with fail
    go_ret
    exact ⟨rfl, hb1⟩
  have HI := Hid.mk (hI rfl)
  have HL1 := Hid.mk hb1
  have hsz1 := hb1.size
  clear hI hb1
  go_wp2_with (at_make; refine wpList_make_own _ rfl _ _ 24 rfl w.heap.size 25 iU _ 1 Try.underlying24 uU1 uU2 uU3 .i64 .i64 _ (2 + 3 * n) rfl rfl (by omega) (by rw [uU4]; omega) (by unfold maxLen; omega) hsz1 ?_)
  intro w2 hown2 hgrow2
  have hb2 := HL1.out.grown hgrow2 hsz1 (fun k hk => by cases hk)
  have hsz2 := hb2.size
  have HL2 := Hid.mk hb2
  clear hgrow2 hb2 HL1
  go_wp2_with (at_builtin; refine wpList_append_own _ rfl _ _ 24 rfl w.heap.size 25 iU _ 1 8 Try.underlying24 uU1 uU2 uU3 uU4 rfl (by decide) _ _ _ rfl (hown2.alloc _) ⟨w2.heap.size, 0, none⟩ 2 2 [.int .u64 0, .int .u64 18446744073709551615] rfl rfl ?c1 ?c2 ?c3 ?c4 ?c5 ?_)
  case c1 => exact cells2_new _ _ _ _
  case c2 => simp [Value.oneCell']
  case c3 => unfold maxLen; omega
  case c4 => omega
  case c5 => simp; omega
  intro v3 w3 hown3 hgrow3 _
  have hb3 := (HL2.out.alloc hsz2 (.cells #[.int .u64 0, .int .u64 18446744073709551615] 25)).grown hgrow3 (by simp; omega) (fun j hj => (hown2.lt j hj).1)
  have HP3 := Hid.mk (show Pts w.heap.size v3 0 w3 from ⟨[0, 18446744073709551615], hown3, by simp⟩)
  have HL3 := Hid.mk hb3
  clear hgrow3 hb3 hown3 hown2 HL2 hsz2 hsz1 uU1 uU2 uU3 uU4
  go_wp2_with fail
  go_loopw [3, 4] (fun v i wr => ∃ k : Nat, k ≤ n ∧ i = .int .i64 k ∧ Pts w.heap.size v k wr ∧ Below w.heap.size w wr) (fun _ i _ => n - (intOf i).toNat)
  case atStart => exact ⟨0, Nat.zero_le _, rfl, HP3.out, HL3.out⟩
  case round =>
    obtain ⟨k, hk, rfl, ⟨ps, hown, hpl⟩, hbel⟩ := hrel
    clear HP3 HL3
    have HL := Hid.mk hbel
    have hszr := hbel.size
    by_cases hlt : k < n
    · obtain ⟨op, hop⟩ : ∃ op, ops[k]? = some op := ⟨_, List.getElem?_eq_getElem (by rw [HN.out]; exact hlt)⟩
      obtain ⟨b, off, hae, hbl, g0, g1, g2⟩ := (HR.out).get hop
      subst hae
      have k0 := (hbel.cell (p := ⟨b, off + k * 3, none⟩) hbl).trans g0
      have k1 := (hbel.cell (p := ⟨b, off + k * 3 + 1, none⟩) hbl).trans g1
      obtain ⟨c0, c1⟩ := HC.out op (List.mem_of_getElem? hop)
      obtain ⟨kd, cm, ix⟩ := op
      simp only at k0 k1 c0 c1
      clear g0 g1 g2 hop hbel
      by_cases h0 : kd = 0
      · have b0 : (kd == 0) = true := by simp [h0]
        clear h0
        obtain ⟨uU1, uU2, uU3, uU4⟩ := IU.out
        go_wp2_with (at_builtin; refine wpList_append_own _ rfl _ _ 24 rfl w.heap.size 25 iU _ 1 8 Try.underlying24 uU1 uU2 uU3 uU4 rfl (by decide) _ _ _ rfl (hown.alloc _) ⟨wr.heap.size, 0, none⟩ 1 1 [.int .u64 cm] rfl rfl (cell_one_new _ _ _) (by intro u hu; simp at hu; subst hu; rfl) (by unfold maxLen; omega) (by omega) (by simp; omega) ?_)
        intro v3 w3 hown3 hgrow3 _
        have hb3 := (HL.out.alloc hszr (.cells #[.int .u64 cm] 25)).grown hgrow3 (by simp; omega) (fun j hj => (hown.lt j hj).1)
        have sz3 := hb3.size
        have HL3 := Hid.mk hb3
        clear hgrow3 hb3
        by_cases z0 : cm = 0
        · subst z0
          go_wp2_with (at_builtin; refine wpList_append_own _ rfl _ _ 24 rfl w.heap.size 25 iU _ 1 8 Try.underlying24 uU1 uU2 uU3 uU4 rfl (by decide) _ _ _ rfl (hown3.alloc _) ⟨w3.heap.size, 0, none⟩ 1 1 [.int .u64 1] rfl rfl (cell_one_new _ _ _) (by intro u hu; simp at hu; subst hu; rfl) (by unfold maxLen; omega) (by omega) (by simp; omega) ?_)
          intro v4 w4 hown4 hgrow4 _
          have hb4 := (HL3.out.alloc sz3 (.cells #[.int .u64 1] 25)).grown hgrow4 (by simp; omega) (fun j hj => (hown3.lt j hj).1)
          have sz4 := hb4.size
          have HL4 := Hid.mk hb4
          clear hgrow4 hb4
          clear uU1 uU2 uU3 uU4
          go_wp2_with fail
          go_roundw
          case rel => exact ⟨k + 1, by omega, by go_num, ⟨ps ++ [0] ++ [1], by simpa [u64s] using hown4, by simp; omega⟩, HL4.out⟩
          case measure => simp [intOf]; omega
        · have z1 : 0 < cm := by omega
          clear z0
          go_wp2_with (at_builtin; refine wpList_append_own _ rfl _ _ 24 rfl w.heap.size 25 iU _ 1 8 Try.underlying24 uU1 uU2 uU3 uU4 rfl (by decide) _ _ _ rfl (hown3.alloc _) ⟨w3.heap.size, 0, none⟩ 1 1 [.int .u64 (cm - 1)] rfl rfl (cell_one_new _ _ _) (by intro u hu; simp at hu; subst hu; rfl) (by unfold maxLen; omega) (by omega) (by simp; omega) ?_)
          intro v4 w4 hown4 hgrow4 _
          have hb4 := (HL3.out.alloc sz3 (.cells #[.int .u64 (cm - 1)] 25)).grown hgrow4 (by simp; omega) (fun j hj => (hown3.lt j hj).1)
          have sz4 := hb4.size
          have HL4 := Hid.mk hb4
          clear hgrow4 hb4
          by_cases z2 : cm < 18446744073709551615
          · go_wp2_with (at_builtin; refine wpList_append_own _ rfl _ _ 24 rfl w.heap.size 25 iU _ 1 8 Try.underlying24 uU1 uU2 uU3 uU4 rfl (by decide) _ _ _ rfl (hown4.alloc _) ⟨w4.heap.size, 0, none⟩ 1 1 [.int .u64 (cm + 1)] rfl rfl (cell_one_new _ _ _) (by intro u hu; simp at hu; subst hu; rfl) (by unfold maxLen; omega) (by omega) (by simp; omega) ?_)
            intro v5 w5 hown5 hgrow5 _
            have hb5 := (HL4.out.alloc sz4 (.cells #[.int .u64 (cm + 1)] 25)).grown hgrow5 (by simp; omega) (fun j hj => (hown4.lt j hj).1)
            have sz5 := hb5.size
            have HL5 := Hid.mk hb5
            clear hgrow5 hb5
            clear uU1 uU2 uU3 uU4
            go_wp2_with fail
            go_roundw
            case rel => exact ⟨k + 1, by omega, by go_num, ⟨ps ++ [cm] ++ [cm - 1] ++ [cm + 1], by simpa [u64s] using hown5, by simp; omega⟩, HL5.out⟩
            case measure => simp [intOf]; omega
          · clear uU1 uU2 uU3 uU4
            go_wp2_with fail
            go_roundw
            case rel => exact ⟨k + 1, by omega, by go_num, ⟨ps ++ [cm] ++ [cm - 1], by simpa [u64s] using hown4, by simp; omega⟩, HL4.out⟩
            case measure => simp [intOf]; omega
      · have b0 : (kd == 0) = false := by simp [h0]
        clear h0
        go_wp2_with fail
        go_roundw
        case rel => exact ⟨k + 1, by omega, by go_num, ⟨ps, hown, by omega⟩, HL.out⟩
        case measure => simp [intOf]; omega
    · obtain rfl : n = k := by omega
      obtain ⟨pa, pc, rfl⟩ := owns_slice hown
      have HO := Hid.mk hown
      clear hbel
      go_wp2_with fail
      refine (newHistory _).mono ?_
      rintro e w4 ⟨rfl, rfl⟩
      have hH := heap_alloc_new wr (.cells #[.string ⟨#[]⟩, .int .u64 0, .pointer none] 73)
      have HLa := Hid.mk (HL.out.alloc hszr (.cells #[.string ⟨#[]⟩, .int .u64 0, .pointer none] 73))
      have Hpa := hown.alloc (.cells #[.string ⟨#[]⟩, .int .u64 0, .pointer none] 73)
      obtain ⟨hB, hhB⟩ : ∃ hB, hB = wr.heap.size := ⟨_, rfl⟩
      obtain ⟨w5, hw5⟩ : ∃ w5, w5 = wr.alloc (.cells #[.string ⟨#[]⟩, .int .u64 0, .pointer none] 73) := ⟨_, rfl⟩
      have hsz5 : w.heap.size ≤ w5.heap.size := by rw [hw5]; exact HLa.out.size
      rw [← hw5] at HLa hH Hpa
      rw [← hw5]
      rw [← hhB]
      rw [← hhB] at hH hszr
      have HP5 := Hid.mk Hpa
      have HH5 := Hid.mk hH
      clear hw5 hH Hpa hown HO HL hhB
      obtain ⟨uV1, uV2, uV3, uV4⟩ := IV.out
      go_wp2_with (at_make; refine wpList_make_own _ rfl _ _ 30 rfl w.heap.size 33 iV _ 1 Try.underlying30 uV1 uV2 uV3 .i64 .i64 _ n rfl rfl (by omega) (by rw [uV4]; omega) (by unfold maxLen; omega) hsz5 ?_)
      intro w6 hown6 hgrow6
      have hb6 := (Below.refl w5.heap.size w5).grown hgrow6 (Nat.le_refl _) (fun k hk => by cases hk)
      have hsz6 := hb6.size
      have hV5 : (w5.heap.size : Nat) < w6.heap.size := (hown6.lt w5.heap.size rfl).2
      have HL6 := Hid.mk (HLa.out.trans (hb6.mono hsz5))
      have HP6 := Hid.mk (owns_below HP5.out hb6)
      have HH6 := Hid.mk ((hb6.block hB (Array.getElem?_eq_some_iff.1 HH5.out).1).trans HH5.out)
      have HO6 := Hid.mk hown6
      clear hgrow6 hb6 hown6 HLa HP5 HH5 uV1 uV2 uV3 uV4
      obtain ⟨vA, hvA⟩ : ∃ vA, vA = w5.heap.size := ⟨_, rfl⟩
      rw [← hvA] at HO6
      rw [← hvA]
      clear hvA
      obtain ⟨uK1, uK2, uK3, uK4⟩ := IK.out
      go_wp2_with (at_make; refine wpList_make_own _ rfl _ _ 31 rfl w.heap.size 3 iK _ 1 Try.underlying31 uK1 uK2 uK3 .i64 .i64 _ n rfl rfl (by omega) (by rw [uK4]; omega) (by unfold maxLen; omega) (by omega) ?_)
      intro w7 hown7 hgrow7
      have hb7 := (Below.refl w6.heap.size w6).grown hgrow7 (Nat.le_refl _) (fun k hk => by cases hk)
      have HL7 := Hid.mk (HL6.out.trans (hb7.mono (by omega)))
      have HI7 := Hid.mk (show Inv w.heap.size hB ops 0 ps (.slice (some ⟨vA, 0, none⟩) 0 n) (.slice (some ⟨w6.heap.size, 0, none⟩) 0 n) (.slice pa ps.length pc) St.zero w7 from
        ⟨zero_ok, ⟨by have := (hb7.block hB (Array.getElem?_eq_some_iff.1 HH6.out).1).trans HH6.out; exact this, fun i hi => by simp [St.zero] at hi⟩,
          ⟨owns_below HO6.out hb7, hown7, by rw [u64s_len]; exact owns_below HP6.out hb7⟩, by simp [St.zero, added], fun h => by simp [St.zero] at h, hszr, fun i hi => by simp [St.zero] at hi⟩)
      obtain ⟨kA, hkA⟩ : ∃ kA, kA = w6.heap.size := ⟨_, rfl⟩
      rw [← hkA] at HI7
      rw [← hkA]
      clear hgrow7 hb7 hown7 HL6 HP6 HH6 HO6 uK1 uK2 uK3 uK4 hkA hV5 hsz6 hsz5
      go_wp2_with fail
      refine (check_inv HI7.out rfl rfl (by omega) rfl (by omega)).mono ?_
      rintro e w8 ⟨rfl, hb8⟩
      have HI8 := Hid.mk (HI7.out.below hb8)
      have HL8 := Hid.mk (HL7.out.trans (hb8.mono HL7.out.size))
      clear HI7 HL7 hb8
      go_wp2_with fail
      go_loopw [7, 8, 9] (fun vv kv i wr => ∃ (k : Nat) (S : St), k ≤ n ∧ i = .int .i64 k ∧ Inv w.heap.size hB ops k ps vv kv (.slice pa ps.length pc) S wr ∧ Below w.heap.size w wr) (fun _ _ i _ => n - (intOf i).toNat)
      case atStart => exact ⟨0, St.zero, Nat.zero_le _, rfl, HI8.out, HL8.out⟩
      case round =>
        obtain ⟨k, S, hk, rfl, hInv, hbel⟩ := hrel
        clear HI8 HL8
        have HV := Hid.mk hInv
        have HL := Hid.mk hbel
        have hszr2 := hbel.size
        have rv0 := hInv.rows.v
        have rk0 := hInv.rows.k
        rw [vptrs_len] at rv0
        rw [ints_len] at rk0
        obtain ⟨va, vc, rfl⟩ := owns_slice rv0
        obtain ⟨ka, kc, rfl⟩ := owns_slice rk0
        clear rv0 rk0
        have hVn : S.n ≤ k := by rw [hInv.num]; have h1 := added_le (ops.take k); have h2 := List.length_take_le k ops; omega
        by_cases hlt2 : k < n
        · obtain ⟨op, hop⟩ : ∃ op, ops[k]? = some op := ⟨_, List.getElem?_eq_getElem (by rw [HN.out]; exact hlt2)⟩
          obtain ⟨b, off, hae, hbl, g0, g1, g2⟩ := (HR.out.kept hbel).get hop
          subst hae
          obtain ⟨c0, c1⟩ := HC.out op (List.mem_of_getElem? hop)
          have hgd := HI.out k op hlt2 hop
          have hksn := ks_le hInv.ok
          obtain ⟨kd, cm, ix⟩ := op
          simp only at g0 g1 g2 c0 c1
          have HOP := Hid.mk hop
          have HGD := Hid.mk hgd
          clear hop hgd hInv hbel
          by_cases h0 : kd = 0
          · have b0 : (kd == 0) = true := by simp [h0]
            have H0 := Hid.mk h0
            clear h0
            obtain ⟨cN, rfl⟩ := Int.eq_ofNat_of_zero_le c0
            go_wp2_with fail
            go_region_held3 (fun w' => w'.cell? ⟨wr.heap.size, 1, none⟩ = some (.int .u64 (cN : Int))) (first | go_keep | exact (hb1.cell (p := ⟨wr.heap.size, 1, none⟩) (by simp)).trans (by simp))
              (first | (go_at_call 9; refine (itoa_any _ S.n (by omega)).mono ?_; rintro e w1 ⟨rfl, hb1⟩) | (go_at_call 8; refine (newVersion _ _ _).mono ?_; rintro e w2 ⟨rfl, rfl⟩))
            have hbA : Below wr.heap.size wr w1 := (((Below.refl wr.heap.size wr).alloc (Nat.le_refl _) (.cells #[.int .i64 kd, .int .u64 (cN : Int), .int .i64 ix] 27)).drew).trans (hb1.mono (B' := wr.heap.size) (by simp))
            have hszA := hbA.size
            have hbB := hbA.alloc hszA (.cells #[.int .u64 (cN : Int), .string (itoa S.n), .bool false, .pointer none, .pointer none] 82)
            have hNew := heap_alloc_new w1 (.cells #[.int .u64 (cN : Int), .string (itoa S.n), .bool false, .pointer none, .pointer none] 82)
            obtain ⟨W2, hW2⟩ : ∃ W2, W2 = w1.alloc (.cells #[.int .u64 (cN : Int), .string (itoa S.n), .bool false, .pointer none, .pointer none] 82) := ⟨_, rfl⟩
            obtain ⟨nb, hnb⟩ : ∃ nb, nb = w1.heap.size := ⟨_, rfl⟩
            rw [← hW2] at hbB hNew
            rw [← hnb] at hNew hszA
            have IV2 := HV.out.below hbB
            have hFr : Fresh nb S cN W2 := ⟨hNew, fun i hi e => by have := (Array.getElem?_eq_some_iff.1 (HV.out.mem.ver i hi)).1; omega⟩
            have hCall := Hid.mk (zzAdd w.heap.size hB nb cN S W2 IV2.ok IV2.mem hFr IV2.hB IV2.vB (by omega))
            have hne := Hid.mk hFr.2
            have hnbB : w.heap.size ≤ nb := by omega
            have RW2 := Hid.mk IV2.rows
            have LB2 := Hid.mk (HL.out.trans (hbB.mono hszr2))
            have szW2 := LB2.out.size
            rw [← hW2]
            rw [← hnb]
            clear hbA hbB hNew IV2 hFr hW2 hnb hb1 hszA
            go_wp2_with fail
            refine hCall.out.mono ?_
            rintro e w3 ⟨rfl, hM3, hF3⟩
            have hb3 := hF3.below szW2
            have rw3 := RW2.out.frm hF3
            have hown := rw3.v
            rw [vptrs_len] at hown
            have HK3 := Hid.mk rw3.k
            have HP3 := Hid.mk rw3.p
            have HM3 := Hid.mk hM3
            have HL3 := Hid.mk (LB2.out.trans hb3)
            have sz3 := HL3.out.size
            clear hM3 hF3 hb3 rw3 RW2 LB2 szW2 hCall
            obtain ⟨uV1, uV2, uV3, uV4⟩ := IV.out
            go_wp2_with (at_builtin; refine wpList_append_own _ rfl _ _ 30 rfl w.heap.size 33 iV _ 1 8 Try.underlying30 uV1 uV2 uV3 uV4 rfl (by decide) _ _ _ rfl (hown.alloc _) ⟨w3.heap.size, 0, none⟩ 1 1 [.pointer (some ⟨nb, 0, none⟩)] rfl rfl (cell_one_new _ _ _) (by intro u hu; simp at hu; subst hu; rfl) (by unfold maxLen; omega) (by omega) (by simp; omega) ?_)
            intro v4 w4 hown4 hgrow4 _
            have al3 : Below w3.heap.size w3 (w3.alloc (.cells #[.pointer (some ⟨nb, 0, none⟩)] 33)) := (Below.refl _ _).alloc (Nat.le_refl _) _
            have HK4 := Hid.mk (owns_grown (hown.alloc (.cells #[.pointer (some ⟨nb, 0, none⟩)] 33)) hgrow4 (owns_below HK3.out al3) (by decide))
            have HP4 := Hid.mk (owns_grown (hown.alloc (.cells #[.pointer (some ⟨nb, 0, none⟩)] 33)) hgrow4 (owns_below HP3.out al3) (by decide))
            have HM4 := Hid.mk (mem_grown (hown.alloc (.cells #[.pointer (some ⟨nb, 0, none⟩)] 33)) hgrow4 (HM3.out.below al3) (by decide) (by decide))
            have HL4 := Hid.mk ((HL3.out.alloc sz3 (.cells #[.pointer (some ⟨nb, 0, none⟩)] 33)).grown hgrow4 (by simp; omega) (fun j hj => (hown.lt j hj).1))
            have sz4 := HL4.out.size
            obtain ⟨va4, vc4, rfl⟩ := owns_slice hown4
            have HO4 := Hid.mk hown4
            clear hgrow4 al3 hown hown4 HK3 HP3 HM3 HL3 uV1 uV2 uV3 uV4 sz3
            have hownK := HK4.out
            rw [ints_len] at hownK
            obtain ⟨uK1, uK2, uK3, uK4⟩ := IK.out
            go_wp2_with (at_builtin; refine wpList_append_own _ rfl _ _ 31 rfl w.heap.size 3 iK _ 1 8 Try.underlying31 uK1 uK2 uK3 uK4 rfl (by decide) _ _ _ rfl (hownK.alloc _) ⟨w4.heap.size, 0, none⟩ 1 1 [.int .i64 (S.n : Int)] rfl rfl (cell_one_new _ _ _) (by intro u hu; simp at hu; subst hu; rfl) (by unfold maxLen; omega) (by omega) (by simp; omega) ?_)
            intro v5 w5 hown5 hgrow5 _
            have al4 : Below w4.heap.size w4 (w4.alloc (.cells #[.int .i64 (S.n : Int)] 3)) := (Below.refl _ _).alloc (Nat.le_refl _) _
            have HV5 := owns_grown (hownK.alloc (.cells #[.int .i64 (S.n : Int)] 3)) hgrow5 (owns_below HO4.out al4) (by decide)
            have HP5 := owns_grown (hownK.alloc (.cells #[.int .i64 (S.n : Int)] 3)) hgrow5 (owns_below HP4.out al4) (by decide)
            have HM5 := mem_grown (hownK.alloc (.cells #[.int .i64 (S.n : Int)] 3)) hgrow5 (HM4.out.below al4) (by decide) (by decide)
            have HL5 := Hid.mk ((HL4.out.alloc sz4 (.cells #[.int .i64 (S.n : Int)] 3)).grown hgrow5 (by simp; omega) (fun j hj => (hownK.lt j hj).1))
            obtain ⟨ka5, kc5, rfl⟩ := owns_slice hown5
            have IN5 := Hid.mk (inv_push HV.out.ok HV.out.num HV.out.com HV.out.hB HV.out.vB HOP.out H0.out rfl (by omega) HGD.out hnbB hne.out HM5 HV5 hown5 HP5)
            clear hgrow5 al4 hownK hown5 HV5 HP5 HM5 HK4 HP4 HM4 HL4 HO4 uK1 uK2 uK3 uK4 sz4
            go_wp2_with fail
            refine (check_inv IN5.out rfl (by show (S.ks ++ [S.n]).length = _; simp) (by omega) rfl (by omega)).mono ?_
            rintro e w6 ⟨rfl, hb6⟩
            have IN6 := Hid.mk (IN5.out.below hb6)
            have HL6 := Hid.mk (HL5.out.trans (hb6.mono HL5.out.size))
            clear IN5 HL5 hb6
            go_wp2_with fail
            go_roundw
            case rel => exact ⟨k + 1, _, by omega, by go_num, IN6.out, HL6.out⟩
            case measure => simp [intOf]; omega
          · have b0 : (kd == 0) = false := by simp [h0]
            by_cases h1 : kd = 1
            · have b1 : (kd == 1) = true := by simp [h1]
              have H0 := Hid.mk h0
              have H1 := Hid.mk h1
              clear h0 h1
              have hix : 0 ≤ ix ∧ ix < (S.n : Int) - 1 := by
                have hg := HGD.out
                have h1 := H1.out
                rcases hg with ⟨h, _⟩ | ⟨_, h2, h3⟩ | h
                · exact absurd h H0.out
                · rw [HV.out.num]; exact ⟨h2, h3⟩
                · have : kd = 2 := h
                  omega
              obtain ⟨x, rfl⟩ := Int.eq_ofNat_of_zero_le hix.1
              have hxn1 : x + 1 < S.n := by have := hix.2; omega
              have hxn : x < S.n := by omega
              clear hix
              have hbA := (Below.refl wr.heap.size wr).alloc (Nat.le_refl _) (.cells #[.int .i64 kd, .int .u64 cm, .int .i64 (x : Int)] 27)
              have hcp := heap_alloc_new wr (.cells #[.int .i64 kd, .int .u64 cm, .int .i64 (x : Int)] 27)
              have I0 := HV.out.below hbA
              obtain ⟨W0, hW0⟩ : ∃ W0, W0 = wr.alloc (.cells #[.int .i64 kd, .int .u64 cm, .int .i64 (x : Int)] 27) := ⟨_, rfl⟩
              rw [← hW0] at hbA I0 hcp
              have LB0 := Hid.mk (HL.out.trans (hbA.mono hszr2))
              have hAns := Hid.mk (answers_any hB S pa ps.length pc ps W0 I0.ok I0.mem rfl (by omega) (row_slice I0.rows.p))
              -- the world behind the first answers
              have hb1 := (Below.refl W0.heap.size W0).alloc (Nat.le_refl _) (.cells (S.answers ps).toArray 33)
              have hbf := heap_alloc_new W0 (.cells (S.answers ps).toArray 33)
              obtain ⟨W1, hW1⟩ : ∃ W1, W1 = W0.alloc (.cells (S.answers ps).toArray 33) := ⟨_, rfl⟩
              obtain ⟨bA, hbAe⟩ : ∃ bA, bA = W0.heap.size := ⟨_, rfl⟩
              rw [← hW1] at hb1 hbf
              rw [← hbAe] at hbf
              have I1 := I0.below hb1
              have LB1 := Hid.mk (LB0.out.trans (hb1.mono LB0.out.size))
              have sz1 := LB1.out.size
              have cp1 := (hb1.block wr.heap.size (Array.getElem?_eq_some_iff.1 hcp).1).trans hcp
              have x1 : W1.cell? ⟨wr.heap.size, 2, none⟩ = some (.int .i64 (x : Int)) := by rw [Lib.cell_of_heap cp1]; rfl
              have hIdx := Hid.mk (indexOf_any ka S.ks.length kc x S.ks W1 rfl (by omega) (row_slice I1.rows.k))
              have HI1 := Hid.mk I1
              have HBF := Hid.mk hbf
              have HCP := Hid.mk cp1
              have HW0 := Hid.mk hW0
              have HW1 := Hid.mk hW1
              have HBA := Hid.mk hbAe
              clear hbA hcp I0 hW0 hb1 hbf hW1 I1 cp1 hbAe LB0
              go_wp2_with fail
              rw [← HW0.out]
              refine hAns.out.mono ?_
              rintro e wq ⟨rfl, hwq⟩
              rw [← HW1.out] at hwq
              subst hwq
              rw [← HBA.out]
              clear hAns HW0 HW1 HBA
              go_wp2_with fail
              refine hIdx.out.mono ?_
              rintro e wq2 ⟨r, rfl, hwq2, hF⟩
              subst hwq2
              clear hIdx
              rcases hF with ⟨p, rfl, hp⟩ | ⟨rfl, hnin⟩
              · have hpl := get_lt hp
                have hp1 : p + 1 < S.ks.length := by
                  by_cases e : p + 1 = S.ks.length
                  · have := HI1.out.ok.last p x hp e
                    omega
                  · omega
                obtain ⟨nx, hnx⟩ : ∃ nx, S.ks[p + 1]? = some nx := ⟨_, List.getElem?_eq_getElem hp1⟩
                have hnxn := HI1.out.ok.lt _ _ hnx
                obtain ⟨kb, ko, hka, kc0⟩ := (row_slice HI1.out.rows.k).get (ints_get _ _ _ hp)
                obtain ⟨kb', ko', hka', kc1⟩ := (row_slice HI1.out.rows.k).get (ints_get _ _ _ hnx)
                obtain ⟨vb, vo, hva, vc0⟩ := (row_slice HI1.out.rows.v).get (vptrs_get S x hxn)
                obtain ⟨vb', vo', hva', vc1⟩ := (row_slice HI1.out.rows.v).get (vptrs_get S nx hnxn)
                rw [hka] at hka'
                rw [hva] at hva'
                simp only [Option.some.injEq, Addr.mk.injEq, and_true] at hka' hva'
                obtain ⟨rfl, rfl⟩ := hka'
                obtain ⟨rfl, rfl⟩ := hva'
                subst hka hva
                have cx : wq2.cell? ⟨S.vb x, 0, none⟩ = some (.int .u64 (S.cm x : Int)) := by rw [HI1.out.mem.cell hxn]; rfl
                have cn : wq2.cell? ⟨S.vb nx, 0, none⟩ = some (.int .u64 (S.cm nx : Int)) := by rw [HI1.out.mem.cell hnxn]; rfl
                have hi1 : (p : Int) + 1 < (S.ks.length : Int) := by omega
                have hi2 : ((p : Int) + 1).toNat = p + 1 := by omega
                have hi3 : (p : Int) < (S.ks.length : Int) := by omega
                have hi4 : (x : Int) < (S.n : Int) := by omega
                have hi5 : (nx : Int) < (S.n : Int) := by omega
                have hRem := Hid.mk (removeAt_any (some ⟨kb, ko, none⟩) S.ks.length kc p S.ks wq2 rfl (by omega) (row_slice HI1.out.rows.k))
                have HP := Hid.mk hp
                have HNX := Hid.mk hnx
                clear hp hnx
                go_wp2_with fail
                refine (zzCommit (S.vb x) _ wq2 cx).mono ?_
                rintro e wz ⟨rfl, hwz⟩
                subst hwz
                go_wp2_with fail
                refine (zzCommit (S.vb nx) _ wz cn).mono ?_
                rintro e wz2 ⟨rfl, hwz⟩
                subst hwz
                clear cx cn kc0 kc1 vc1
                go_wp2_with fail
                refine hRem.out.mono ?_
                rintro e W2 ⟨v, rfl, hownK, hb2⟩
                have x2 := (hb2.cell (p := ⟨wr.heap.size, 2, none⟩) (World.block_lt_of_cell? _ _ x1)).trans x1
                have v2 := (hb2.cell (p := ⟨vb, vo + x, none⟩) (World.block_lt_of_cell? _ _ vc0)).trans vc0
                have I2 := HI1.out.below hb2
                have bf2 := (hb2.block bA (Array.getElem?_eq_some_iff.1 HBF.out).1).trans HBF.out
                have LB2 := Hid.mk (LB1.out.trans (hb2.mono sz1))
                have sz2 := LB2.out.size
                have hDrop := Hid.mk (zzDrop_in w.heap.size hB p x nx S W2 I2.ok I2.mem HP.out HNX.out I2.vB)
                obtain ⟨ka2, kc2, rfl⟩ := owns_slice hownK
                have HK2 := Hid.mk (owns_base hownK sz1)
                have RW2 := Hid.mk I2.rows
                have BF2 := Hid.mk bf2
                clear hb2 I2 bf2 hRem hownK x1 vc0 HI1 HBF HCP LB1 sz1
                go_wp2_with fail
                refine hDrop.out.mono ?_
                rintro e W3 ⟨rfl, hM3, hF3⟩
                have hb3 := hF3.below sz2
                have rw3 := RW2.out.frm hF3
                have LB3 := Hid.mk (LB2.out.trans hb3)
                have sz3 := LB3.out.size
                have BF3 := Hid.mk (hF3.block bA _ BF2.out (.inr ⟨fun c f e => by simp at e, fun c f e => by simp at e⟩))
                have rk3 := hF3.owns HK2.out (by decide) (by decide)
                have IN3 := Hid.mk (inv_cut HV.out.ok HV.out.num HV.out.com HV.out.hB HV.out.vB HOP.out H0.out HP.out HNX.out hM3 rw3.v rk3 rw3.p)
                have hAns := Hid.mk (answers_any hB (S.cut p x nx) pa ps.length pc ps W3 IN3.out.ok IN3.out.mem rfl (by omega) (row_slice IN3.out.rows.p))
                clear hb3 rw3 rk3 hM3 hF3 RW2 HK2 BF2 LB2 sz2 hDrop x2 v2
                go_wp2_with fail
                refine hAns.out.mono ?_
                rintro e W4 ⟨rfl, hW4⟩
                clear hAns
                have hb4 : Below W3.heap.size W3 W4 := by rw [hW4]; exact (Below.refl W3.heap.size W3).alloc (Nat.le_refl _) _
                have AF4 := Hid.mk (show W4.heap[W3.heap.size]? = some (.cells ((S.cut p x nx).answers ps).toArray 33 (0, 0)) by rw [hW4]; exact heap_alloc_new W3 _)
                have BF4 := Hid.mk ((hb4.block bA (Array.getElem?_eq_some_iff.1 BF3.out).1).trans BF3.out)
                have IN4 := Hid.mk (IN3.out.below hb4)
                have LB4 := Hid.mk (LB3.out.trans (hb4.mono sz3))
                have sz4 := LB4.out.size
                obtain ⟨aA, haA⟩ : ∃ aA, aA = W3.heap.size := ⟨_, rfl⟩
                rw [← haA] at AF4
                rw [← haA]
                clear hW4 hb4 IN3 LB3 BF3 sz3 haA
                go_wp2_with fail
                go_loopw [18] (fun i wi => ∃ k2 : Nat, k2 ≤ ps.length ∧ i = .int .i64 k2 ∧ Below W4.heap.size W4 wi) (fun i _ => ps.length - (intOf i).toNat)
                case atStart => exact ⟨0, Nat.zero_le _, rfl, Below.refl _ _⟩
                case round =>
                  obtain ⟨k2, hk2, rfl, hbi⟩ := hrel
                  have LBi := Hid.mk (LB4.out.trans (hbi.mono sz4))
                  have INi := Hid.mk (IN4.out.below hbi)
                  by_cases hlt3 : k2 < ps.length
                  · obtain ⟨s, hs⟩ : ∃ s, ps[k2]? = some s := ⟨_, List.getElem?_eq_getElem hlt3⟩
                    obtain ⟨pb, po, hpa, pc0⟩ := (row_slice INi.out.rows.p).get (u64s_get ps k2 s hs)
                    have bfi := (hbi.block bA (Array.getElem?_eq_some_iff.1 BF4.out).1).trans BF4.out
                    have afi := (hbi.block aA (Array.getElem?_eq_some_iff.1 AF4.out).1).trans AF4.out
                    have bc : wr.cell? ⟨bA, k2, none⟩ = some (.pointer (S.ptr (S.ans s))) := by rw [Lib.cell_of_heap bfi]; simp [St.answers, hs]
                    have ac : wr.cell? ⟨aA, k2, none⟩ = some (.pointer (S.ptr ((S.cut p x nx).ans s))) := by rw [Lib.cell_of_heap afi]; simp [St.answers, hs, St.ptr, St.cut]
                    have hCA := cut_ans HV.out.ok HP.out HNX.out s
                    subst hpa
                    have HB := Hid.mk hbi
                    clear bfi afi hs hbi
                    obtain ⟨j82, hj82, hj82s⟩ := Try.info82
                    have hi6 : (k2 : Int) < (ps.length : Int) := by omega
                    by_cases hEq : S.ans s = (S.cut p x nx).ans s
                    · rw [← hEq] at ac
                      clear hCA hEq
                      cases hans : S.ans s with
                      | none =>
                        rw [hans] at ac bc
                        have e0 : S.ptr none = none := rfl
                        rw [e0] at ac bc
                        clear e0 hans
                        go_wp2_with fail
                        go_quiet (fail)
                        go_wp2_with fail
                        go_roundw
                        case rel => exact ⟨k2 + 1, by omega, by go_num, belowDrewN HB.out _⟩
                        case measure => simp [intOf]; omega
                      | some i =>
                        rw [hans] at ac bc
                        have e0 : S.ptr (some i) = some ⟨S.vb i, 0, none⟩ := rfl
                        rw [e0] at ac bc
                        clear e0 hans
                        have hneq := fun w => Lib.run_neq_ptr_same (P := Try.prog) w (⟨S.vb i, 0, none⟩ : Addr) Try.underlying33 hj82
                        go_wp2_with fail
                        go_quiet (fail)
                        go_wp2_with fail
                        go_roundw
                        case rel => exact ⟨k2 + 1, by omega, by go_num, belowDrewN HB.out _⟩
                        case measure => simp [intOf]; omega
                    · obtain ⟨hb0, hlo, hhi⟩ := hCA.resolve_left hEq
                      rw [hb0] at bc hEq
                      have e0 : S.ptr (some x) = some ⟨S.vb x, 0, none⟩ := rfl
                      rw [e0] at bc
                      have d0 : decide ((p : Int) < 0) = false := decide_eq_false (by omega)
                      have d1 : decide (s < (S.cm x : Int)) = false := decide_eq_false (by omega)
                      have d2 : decide ((S.cm nx : Int) ≤ s) = false := decide_eq_false (by omega)
                      clear e0 hCA hb0
                      cases hans : (S.cut p x nx).ans s with
                      | none =>
                        rw [hans] at ac
                        have e0 : S.ptr none = none := rfl
                        rw [e0] at ac
                        clear e0 hans hEq
                        go_wp2_with fail
                        go_quiet (fail)
                        go_wp2_with fail
                        go_roundw
                        case rel => exact ⟨k2 + 1, by omega, by go_num, belowDrewN HB.out _⟩
                        case measure => simp [intOf]; omega
                      | some y =>
                        rw [hans] at ac hEq
                        have hyn : y < S.n := ans_lt INi.out.ok hans
                        have hxy : x ≠ y := fun e => hEq (by rw [e])
                        have hvne : (⟨S.vb x, 0, none⟩ : Addr) ≠ ⟨S.vb y, 0, none⟩ := fun e => hxy (HV.out.ok.inj x y hxn hyn (congrArg Addr.block e))
                        have e0 : S.ptr (some y) = some ⟨S.vb y, 0, none⟩ := rfl
                        rw [e0] at ac
                        have hneq : ∀ m : Nat, (binOp .neq 33 (.pointer (some ⟨S.vb x, 0, none⟩)) (.pointer (some ⟨S.vb y, 0, none⟩))).run Try.prog (wr.drewN m) = .ok (.bool true) (wr.drewN m) := fun m =>
                          run_neq_ptr_other (P := Try.prog) _ Try.underlying33 hj82 hj82s hvne (ca := (S.cut p x nx).vcells x) (ta := 82) (cb := (S.cut p x nx).vcells y) (tb := 82) (by rw [heapDrewN]; exact INi.out.mem.ver x hxn) (by rw [heapDrewN]; exact INi.out.mem.ver y hyn)
                        clear e0 hans hEq hxy hvne
                        go_wp2_with fail
                        go_quiet (fail)
                        go_wp2_with fail
                        go_roundw
                        case rel => exact ⟨k2 + 1, by omega, by go_num, belowDrewN HB.out _⟩
                        case measure => simp [intOf]; omega
                  · obtain rfl : k2 = ps.length := by omega
                    clear hbi
                    go_wp2_with fail
                    refine (check_inv INi.out rfl rfl (by omega) rfl (by omega)).mono ?_
                    rintro e w6 ⟨rfl, hb6⟩
                    have IN6 := Hid.mk (INi.out.below hb6)
                    have HL6 := Hid.mk (LBi.out.trans (hb6.mono LBi.out.size))
                    clear INi LBi hb6
                    go_wp2_with fail
                    go_roundw
                    case rel => exact ⟨k + 1, _, by omega, by go_num, IN6.out, HL6.out⟩
                    case measure => simp [intOf]; omega
              · have hnw := HI1.out.ok.out x hxn hnin
                obtain ⟨vb, vo, hva, vc0⟩ := (row_slice HI1.out.rows.v).get (vptrs_get S x hxn)
                subst hva
                have hi4 : (x : Int) < (S.n : Int) := by omega
                have hDrop := Hid.mk (zzDrop_out hB x S wq2 HI1.out.mem hxn hnw)
                clear hnw hnin
                have hAns := Hid.mk (answers_any hB S pa ps.length pc ps wq2 HI1.out.ok HI1.out.mem rfl (by omega) (row_slice HI1.out.rows.p))
                go_wp2_with fail
                refine hDrop.out.mono ?_
                rintro e W3 ⟨rfl, hW3⟩
                subst hW3
                clear hDrop
                go_wp2_with fail
                refine hAns.out.mono ?_
                rintro e W4 ⟨rfl, hW4⟩
                clear hAns
                have hb4 : Below W3.heap.size W3 W4 := by rw [hW4]; exact (Below.refl W3.heap.size W3).alloc (Nat.le_refl _) _
                have AF4 := Hid.mk (show W4.heap[W3.heap.size]? = some (.cells (S.answers ps).toArray 33 (0, 0)) by rw [hW4]; exact heap_alloc_new W3 _)
                have BF4 := Hid.mk ((hb4.block bA (Array.getElem?_eq_some_iff.1 HBF.out).1).trans HBF.out)
                have IN4 := Hid.mk (inv_same (HI1.out.below hb4) HOP.out H0.out)
                have LB4 := Hid.mk (LB1.out.trans (hb4.mono sz1))
                have sz4 := LB4.out.size
                obtain ⟨aA, haA⟩ : ∃ aA, aA = W3.heap.size := ⟨_, rfl⟩
                rw [← haA] at AF4
                rw [← haA]
                clear hW4 hb4 HI1 LB1 HBF sz1 haA x1 vc0
                go_wp2_with fail
                go_loopw [18] (fun i wi => ∃ k2 : Nat, k2 ≤ ps.length ∧ i = .int .i64 k2 ∧ Below W4.heap.size W4 wi) (fun i _ => ps.length - (intOf i).toNat)
                case atStart => exact ⟨0, Nat.zero_le _, rfl, Below.refl _ _⟩
                case round =>
                  obtain ⟨k2, hk2, rfl, hbi⟩ := hrel
                  have LBi := Hid.mk (LB4.out.trans (hbi.mono sz4))
                  have INi := Hid.mk (IN4.out.below hbi)
                  by_cases hlt3 : k2 < ps.length
                  · obtain ⟨s, hs⟩ : ∃ s, ps[k2]? = some s := ⟨_, List.getElem?_eq_getElem hlt3⟩
                    obtain ⟨pb, po, hpa, pc0⟩ := (row_slice INi.out.rows.p).get (u64s_get ps k2 s hs)
                    have bfi := (hbi.block bA (Array.getElem?_eq_some_iff.1 BF4.out).1).trans BF4.out
                    have afi := (hbi.block aA (Array.getElem?_eq_some_iff.1 AF4.out).1).trans AF4.out
                    have bc : wr.cell? ⟨bA, k2, none⟩ = some (.pointer (S.ptr (S.ans s))) := by rw [Lib.cell_of_heap bfi]; simp [St.answers, hs]
                    have ac : wr.cell? ⟨aA, k2, none⟩ = some (.pointer (S.ptr (S.ans s))) := by rw [Lib.cell_of_heap afi]; simp [St.answers, hs]
                    subst hpa
                    have HB := Hid.mk hbi
                    clear bfi afi hs hbi
                    obtain ⟨j82, hj82, hj82s⟩ := Try.info82
                    have hi6 : (k2 : Int) < (ps.length : Int) := by omega
                    cases hans : S.ans s with
                    | none =>
                      rw [hans] at ac bc
                      have e0 : S.ptr none = none := rfl
                      rw [e0] at ac bc
                      clear e0 hans
                      go_wp2_with fail
                      go_quiet (fail)
                      go_wp2_with fail
                      go_roundw
                      case rel => exact ⟨k2 + 1, by omega, by go_num, belowDrewN HB.out _⟩
                      case measure => simp [intOf]; omega
                    | some i =>
                      rw [hans] at ac bc
                      have e0 : S.ptr (some i) = some ⟨S.vb i, 0, none⟩ := rfl
                      rw [e0] at ac bc
                      clear e0 hans
                      have hneq := fun w => Lib.run_neq_ptr_same (P := Try.prog) w (⟨S.vb i, 0, none⟩ : Addr) Try.underlying33 hj82
                      go_wp2_with fail
                      go_quiet (fail)
                      go_wp2_with fail
                      go_roundw
                      case rel => exact ⟨k2 + 1, by omega, by go_num, belowDrewN HB.out _⟩
                      case measure => simp [intOf]; omega
                  · obtain rfl : k2 = ps.length := by omega
                    clear hbi
                    go_wp2_with fail
                    refine (check_inv INi.out rfl rfl (by omega) rfl (by omega)).mono ?_
                    rintro e w6 ⟨rfl, hb6⟩
                    have IN6 := Hid.mk (INi.out.below hb6)
                    have HL6 := Hid.mk (LBi.out.trans (hb6.mono LBi.out.size))
                    clear INi LBi hb6
                    go_wp2_with fail
                    go_roundw
                    case rel => exact ⟨k + 1, _, by omega, by go_num, IN6.out, HL6.out⟩
                    case measure => simp [intOf]; omega
            · have b1 : (kd == 1) = false := by simp [h1]
              have H0 := Hid.mk h0
              clear h0 h1
              have hbA := (Below.refl wr.heap.size wr).alloc (Nat.le_refl _) (.cells #[.int .i64 kd, .int .u64 cm, .int .i64 ix] 27)
              have IA := HV.out.below hbA
              obtain ⟨W0, hW0⟩ : ∃ W0, W0 = wr.alloc (.cells #[.int .i64 kd, .int .u64 cm, .int .i64 ix] 27) := ⟨_, rfl⟩
              rw [← hW0] at hbA IA
              have LB0 := Hid.mk (HL.out.trans (hbA.mono hszr2))
              have sz0 := LB0.out.size
              have hCall := Hid.mk (zzForget w.heap.size hB S W0 IA.ok IA.mem IA.hB IA.vB (by omega))
              have RW0 := Hid.mk IA.rows
              have HW0 := Hid.mk hW0
              clear hbA IA hW0
              go_wp2_with fail
              rw [← HW0.out]
              refine hCall.out.mono ?_
              rintro e w3 ⟨rfl, hM3, hF3⟩
              have hb3 := hF3.below sz0
              have rw3 := RW0.out.frm hF3
              have hk3 := rw3.k
              rw [ints_len] at hk3
              have HK3 := Hid.mk (owns_zero hk3)
              have HV3 := Hid.mk rw3.v
              have HP3 := Hid.mk rw3.p
              have HM3 := Hid.mk hM3
              have HL3 := Hid.mk (LB0.out.trans hb3)
              clear hM3 hF3 hb3 rw3 hk3 RW0 LB0 hCall HW0
              have IN3 := Hid.mk (inv_clear HV.out.ok HV.out.num HV.out.com HV.out.hB HV.out.vB HOP.out H0.out HM3.out HV3.out HK3.out HP3.out)
              clear HM3 HV3 HK3 HP3
              go_wp2_with fail
              refine (check_inv IN3.out rfl rfl (by omega) rfl (by omega)).mono ?_
              rintro e w6 ⟨rfl, hb6⟩
              have IN6 := Hid.mk (IN3.out.below hb6)
              have HL6 := Hid.mk (HL3.out.trans (hb6.mono HL3.out.size))
              clear IN3 HL3 hb6
              go_wp2_with fail
              go_roundw
              case rel => exact ⟨k + 1, _, by omega, by go_num, IN6.out, HL6.out⟩
              case measure => simp [intOf]; omega
        · clear hInv hbel
          go_wp2_with fail
          go_ret
          exact ⟨rfl, HL.out⟩
end Go.Proofs.Qxb6003819a
