/-
  zzHistCheck: the history answers as the list of the kept ones says.
-/
import Derived.Test.Qxb6003819aLists
import Derived.Test.Qxb6003819aItoa
import Derived.Test.Qxb6003819aSteps
namespace Go.Proofs.Qxb6003819a
open Go.RowKit

def St.vptrs (S : St) : List Value := (List.range S.n).map (fun i => Value.pointer (some ⟨S.vb i, 0, none⟩))
theorem vptrs_get (S : St) (i : Nat) (h : i < S.n) : S.vptrs[i]? = some (.pointer (some ⟨S.vb i, 0, none⟩)) := by simp [St.vptrs, h]
theorem ansTo_lt {S : St} (ok : S.Ok) {s : Int} {i : Nat} : ∀ {j : Nat}, j ≤ S.ks.length → ansTo S.cm S.ks s j = some i → i < S.n
  | 0, _, h => by cases h
  | j + 1, hj, h => by
    unfold ansTo at h
    split at h
    · obtain rfl := Option.some.inj h
      exact ok.lt j _ (by simp [List.getD_eq_getElem?_getD, show j < S.ks.length by omega])
    · exact ansTo_lt ok (by omega) h
theorem ans_lt {S : St} (ok : S.Ok) {s : Int} {i : Nat} (h : S.ans s = some i) : i < S.n := ansTo_lt ok (Nat.le_refl _) h

set_option maxRecDepth 100000 in
set_option maxHeartbeats 4000000 in
theorem check_any (h : Nat) (S : St) (va ka pa : Option Addr) (vc kc pn pc : Nat) (ps : List Int) (w : World) (ok : S.Ok) (m : Mem h S w) (hn : S.n ≤ 4096) (hkl : S.ks.length ≤ 4096) (hpn : ps.length = pn) (hpm : pn ≤ 1000000)
    (rv : Row w va S.vptrs) (rk : Row w ka (ints S.ks)) (rp : Row w pa (u64s ps)) :
    Calls Try.prog 7 #[.pointer (some ⟨h, 0, none⟩), .slice va S.n vc, .slice ka S.ks.length kc, .slice pa pn pc] w fun e w' => e = .returned (.bool true) ∧ Below w.heap.size w w' := by
  have OK := Hid.mk ok
  have M0 := Hid.mk m
  have RV0 := Hid.mk rv
  have RK0 := Hid.mk rk
  have RP0 := Hid.mk rp
  have NP := Hid.mk hpn
  obtain ⟨j82, hj82⟩ : ∃ j, Try.prog.info? 82 = some j := by
    have : (Try.prog.info? 82).isSome = true := by kernel_rfl
    exact Option.isSome_iff_exists.1 this
  clear ok m rv rk rp hpn
  go_enter Try.func7, Try.ntmps7
  go_wp2_with fail
  go_loopw [9] (fun i wr => ∃ k : Nat, k ≤ pn ∧ i = .int .i64 k ∧ Below w.heap.size w wr) (fun i _ => pn - (intOf i).toNat)
  case atStart => exact ⟨0, Nat.zero_le _, rfl, Below.refl _ _⟩
  case round =>
    obtain ⟨k, hk, rfl, hbel⟩ := hrel
    have HL := Hid.mk hbel
    have MB := Hid.mk (M0.out.below hbel)
    have RV := Hid.mk (RV0.out.kept hbel)
    have RK := Hid.mk (RK0.out.kept hbel)
    have hszr := hbel.size
    by_cases hlt : k < pn
    · obtain ⟨s, hs⟩ : ∃ s, ps[k]? = some s := ⟨_, List.getElem?_eq_getElem (by rw [NP.out]; exact hlt)⟩
      obtain ⟨pb, po, hpa, hpc⟩ := (RP0.out.kept hbel).get (u64s_get ps k s hs)
      clear hs hbel
      have HPA := Hid.mk hpa
      subst hpa
      go_wp2_with fail
      go_loop [11, 12] (fun wt j => ∃ k2 : Nat, k2 ≤ S.ks.length ∧ wt = .int .i64 (-1) ∧ j = .int .i64 ((k2 : Int) - 1) ∧ Hid (S.ans s = ansTo S.cm S.ks s k2)) (fun _ j => (intOf j + 1).toNat)
      case atStart => exact ⟨S.ks.length, Nat.le_refl _, rfl, rfl, rfl⟩
      case round =>
        obtain ⟨k2, hk2, rfl, rfl, HA⟩ := hrel
        cases k2 with
        | zero =>
          have hA : S.ans s = none := HA.out
          have HV := Hid.mk (zzVersion h S s wr OK.out MB.out)
          have HAt := Hid.mk (zzAt_of h s ⟨#[]⟩ false wr (at_none h S s wr OK.out MB.out hA))
          rw [hA] at HV
          clear hA HA
          go_wp2_with fail
          refine HV.out.mono ?_
          rintro e w1 ⟨rfl, rfl⟩
          have e0 : S.ptr none = none := rfl
          rw [e0]
          clear e0 HV
          go_wp2_with fail
          refine HAt.out.mono ?_
          rintro e w2 ⟨rfl, hb2⟩
          have hb3 := HL.out.trans (hb2.mono hszr)
          have HL2 := Hid.mk hb3
          have MB2 := Hid.mk (M0.out.below hb3)
          have RV2 := Hid.mk (RV0.out.kept hb3)
          have RK2 := Hid.mk (RK0.out.kept hb3)
          clear HAt hb2 hb3 MB RV RK HL hszr
          by_cases hk0 : 0 < S.ks.length
          · obtain ⟨z, hz⟩ : ∃ z, S.ks[S.ks.length - 1]? = some z := ⟨_, List.getElem?_eq_getElem (by omega)⟩
            have hzl : S.ks.getLast? = some z := by rw [last_get]; exact hz
            have hzn := OK.out.lt _ _ hz
            obtain ⟨kb, ko, hka, hkc⟩ := RK2.out.get (ints_get _ _ _ hz)
            obtain ⟨vb, vo, hva, hvc⟩ := RV2.out.get (vptrs_get S z hzn)
            have hzc : w2.cell? ⟨S.vb z, 0, none⟩ = some (.int .u64 (S.cm z : Int)) := by rw [MB2.out.cell hzn]; rfl
            have hi0 : (0 : Int) ≤ (S.ks.length : Int) - 1 := by omega
            have hi1 : (S.ks.length : Int) - 1 < (S.ks.length : Int) := by omega
            have hi2 : ((S.ks.length : Int) - 1).toNat = S.ks.length - 1 := by omega
            have hi3 : (0 : Int) < (S.ks.length : Int) := by omega
            have hzi : (z : Int) < (S.n : Int) := by omega
            subst hka hva
            by_cases hsz : s < (S.cm z : Int)
            · have hsd : decide (s < (S.cm z : Int)) = true := by simpa using hsz
              have HW := Hid.mk (zzWrittenSince h S s w2 OK.out MB2.out)
              rw [hzl] at HW
              simp only [hsd] at HW
              clear hz hzl
              go_wp2_with fail
              refine (zzCommit (S.vb z) _ w2 hzc).mono ?_
              rintro e wz ⟨rfl, rfl⟩
              go_wp2_with fail
              refine HW.out.mono ?_
              rintro e wz ⟨rfl, rfl⟩
              go_wp2_with fail
              go_roundw
              case rel => exact ⟨k + 1, by omega, by go_num, HL2.out⟩
              case measure => simp [intOf]; omega
            · have hsd : decide (s < (S.cm z : Int)) = false := by simpa using hsz
              have HW := Hid.mk (zzWrittenSince h S s w2 OK.out MB2.out)
              rw [hzl] at HW
              simp only [hsd] at HW
              clear hz hzl
              go_wp2_with fail
              refine (zzCommit (S.vb z) _ w2 hzc).mono ?_
              rintro e wz ⟨rfl, rfl⟩
              go_wp2_with fail
              refine HW.out.mono ?_
              rintro e wz ⟨rfl, rfl⟩
              go_wp2_with fail
              go_roundw
              case rel => exact ⟨k + 1, by omega, by go_num, HL2.out⟩
              case measure => simp [intOf]; omega
          · have hl0 : S.ks.getLast? = none := by rw [last_get, List.getElem?_eq_none (by omega)]
            have HW := Hid.mk (zzWrittenSince h S s w2 OK.out MB2.out)
            rw [hl0] at HW
            clear hl0
            go_wp2_with fail
            refine HW.out.mono ?_
            rintro e wz ⟨rfl, rfl⟩
            go_wp2_with fail
            go_roundw
            case rel => exact ⟨k + 1, by omega, by go_num, HL2.out⟩
            case measure => simp [intOf]; omega
        | succ j =>
          obtain ⟨x, hx⟩ : ∃ x, S.ks[j]? = some x := ⟨_, List.getElem?_eq_getElem (by omega)⟩
          have hxn := OK.out.lt _ _ hx
          obtain ⟨kb, ko, hka, hkc⟩ := RK.out.get (ints_get _ _ _ hx)
          obtain ⟨vb, vo, hva, hvc⟩ := RV.out.get (vptrs_get S x hxn)
          have hxc : wr.cell? ⟨S.vb x, 0, none⟩ = some (.int .u64 (S.cm x : Int)) := by rw [MB.out.cell hxn]; rfl
          have hA : S.ans s = if (S.cm x : Int) ≤ s then some x else ansTo S.cm S.ks s j := by
            rw [HA.out]; simp [ansTo, List.getD_eq_getElem?_getD, hx]
          have HA2 := Hid.mk hA
          have hxi : (x : Int) < (S.n : Int) := by omega
          have hji : (j : Int) < (S.ks.length : Int) := by omega
          subst hka hva
          clear hA HA hx
          by_cases hle : (S.cm x : Int) ≤ s
          · go_wp2_with fail
            refine (zzCommit (S.vb x) _ wr hxc).mono ?_
            rintro e w1 ⟨rfl, rfl⟩
            have hA : S.ans s = some x := by have := HA2.out; rw [if_pos hle] at this; exact this
            have HV := Hid.mk (zzVersion h S s w1 OK.out MB.out)
            have HAt := Hid.mk (zzAt_of h s (itoa x) true w1 (at_some h S s x w1 OK.out MB.out hA hxn))
            rw [hA] at HV
            clear hA HA2
            go_wp2_with fail
            refine HV.out.mono ?_
            rintro e w4 ⟨rfl, rfl⟩
            have e0 : S.ptr (some x) = some ⟨S.vb x, 0, none⟩ := rfl
            rw [e0]
            clear e0 HV
            go_wp2_with fail
            refine HAt.out.mono ?_
            rintro e w5 ⟨rfl, hb5⟩
            have hb6 := HL.out.trans (hb5.mono hszr)
            have hsz5 := hb6.size
            have HL5 := Hid.mk hb6
            obtain ⟨vb5, vo5, hva5, hvc5⟩ := (RV0.out.kept hb6).get (vptrs_get S x hxn)
            simp only [Option.some.injEq, Addr.mk.injEq, and_true] at hva5
            obtain ⟨rfl, rfl⟩ := hva5
            have hneq := fun W => Lib.run_neq_ptr_same (P := Try.prog) W ⟨S.vb x, 0, none⟩ Try.underlying33 hj82
            clear HAt hb5 hb6 hkc hvc MB RV RK HL
            go_wp2_with fail
            refine (itoa_any w5 x (by omega)).mono ?_
            rintro e w2 ⟨rfl, hb2⟩
            have hb3 := HL5.out.trans (hb2.mono hsz5)
            have HL2 := Hid.mk hb3
            have MB2 := Hid.mk (M0.out.below hb3)
            have RV2 := Hid.mk (RV0.out.kept hb3)
            have RK2 := Hid.mk (RK0.out.kept hb3)
            clear hb2 hb3 hvc5 hneq HL5
            by_cases hk0 : 0 < S.ks.length
            · obtain ⟨z, hz⟩ : ∃ z, S.ks[S.ks.length - 1]? = some z := ⟨_, List.getElem?_eq_getElem (by omega)⟩
              have hzl : S.ks.getLast? = some z := by rw [last_get]; exact hz
              have hzn := OK.out.lt _ _ hz
              obtain ⟨kb2, ko2, hka, hkc⟩ := RK2.out.get (ints_get _ _ _ hz)
              obtain ⟨vb2, vo2, hva, hvc⟩ := RV2.out.get (vptrs_get S z hzn)
              have hzc : w2.cell? ⟨S.vb z, 0, none⟩ = some (.int .u64 (S.cm z : Int)) := by rw [MB2.out.cell hzn]; rfl
              have hi0 : (0 : Int) ≤ (S.ks.length : Int) - 1 := by omega
              have hi1 : (S.ks.length : Int) - 1 < (S.ks.length : Int) := by omega
              have hi2 : ((S.ks.length : Int) - 1).toNat = S.ks.length - 1 := by omega
              have hi3 : (0 : Int) < (S.ks.length : Int) := by omega
              have hzi : (z : Int) < (S.n : Int) := by omega
              simp only [Option.some.injEq, Addr.mk.injEq, and_true] at hka hva
              obtain ⟨rfl, rfl⟩ := hka
              obtain ⟨rfl, rfl⟩ := hva
              by_cases hsz : s < (S.cm z : Int)
              · have hsd : decide (s < (S.cm z : Int)) = true := by simpa using hsz
                have HW := Hid.mk (zzWrittenSince h S s w2 OK.out MB2.out)
                rw [hzl] at HW
                simp only [hsd] at HW
                clear hz hzl
                go_wp2_with fail
                refine (zzCommit (S.vb z) _ w2 hzc).mono ?_
                rintro e wz ⟨rfl, rfl⟩
                go_wp2_with fail
                refine HW.out.mono ?_
                rintro e wz ⟨rfl, rfl⟩
                go_wp2_with fail
                go_roundw
                case rel => exact ⟨k + 1, by omega, by go_num, HL2.out⟩
                case measure => simp [intOf]; omega
              · have hsd : decide (s < (S.cm z : Int)) = false := by simpa using hsz
                have HW := Hid.mk (zzWrittenSince h S s w2 OK.out MB2.out)
                rw [hzl] at HW
                simp only [hsd] at HW
                clear hz hzl
                go_wp2_with fail
                refine (zzCommit (S.vb z) _ w2 hzc).mono ?_
                rintro e wz ⟨rfl, rfl⟩
                go_wp2_with fail
                refine HW.out.mono ?_
                rintro e wz ⟨rfl, rfl⟩
                go_wp2_with fail
                go_roundw
                case rel => exact ⟨k + 1, by omega, by go_num, HL2.out⟩
                case measure => simp [intOf]; omega
            · have hl0 : S.ks.getLast? = none := by rw [last_get, List.getElem?_eq_none (by omega)]
              have HW := Hid.mk (zzWrittenSince h S s w2 OK.out MB2.out)
              rw [hl0] at HW
              clear hl0
              go_wp2_with fail
              refine HW.out.mono ?_
              rintro e wz ⟨rfl, rfl⟩
              go_wp2_with fail
              go_roundw
              case rel => exact ⟨k + 1, by omega, by go_num, HL2.out⟩
              case measure => simp [intOf]; omega
          · go_wp2_with fail
            refine (zzCommit (S.vb x) _ wr hxc).mono ?_
            rintro e w1 ⟨rfl, rfl⟩
            go_wp2_with fail
            go_round
            case rel => exact ⟨j, by omega, rfl, by go_num, by have := HA2.out; rw [if_neg (by omega)] at this; exact this⟩
            case measure => simp [intOf]
    · have HG := Hid.mk (zzForgotten h S wr OK.out MB.out)
      by_cases hk0 : S.ks.length = 0
      · have hl0 : S.ks.getLast?.isNone = true := by rw [last_get, List.getElem?_eq_none (by omega)]; rfl
        have hb0 : ((S.ks.length : Int) == 0) = true := beq_iff_eq.2 (by omega)
        rw [hl0] at HG
        clear hl0 hbel hk0
        go_wp2_with fail
        refine HG.out.mono ?_
        rintro e w1 ⟨rfl, rfl⟩
        go_wp2_with fail
        go_ret
        exact ⟨rfl, HL.out⟩
      · have hl0 : S.ks.getLast?.isNone = false := by rw [last_get, List.getElem?_eq_getElem (show S.ks.length - 1 < S.ks.length by omega)]; rfl
        have hb0 : ((S.ks.length : Int) == 0) = false := beq_eq_false_iff_ne.2 (by omega)
        rw [hl0] at HG
        clear hl0 hbel hk0
        go_wp2_with fail
        refine HG.out.mono ?_
        rintro e w1 ⟨rfl, rfl⟩
        go_wp2_with fail
        go_ret
        exact ⟨rfl, HL.out⟩
end Go.Proofs.Qxb6003819a
