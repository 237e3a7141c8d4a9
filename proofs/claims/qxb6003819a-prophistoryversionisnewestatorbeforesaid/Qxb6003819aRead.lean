/-
  version, at, writtenSince, forgotten: what they read.
-/
import Derived.Test.Qxb6003819aAtom
import Derived.Test.Qxb6003819aPlain
import Derived.Deep.LoopGhost
import Derived.BigQuiet
import Derived.Deep.QuietTactic
namespace Go.Proofs.Qxb6003819a
open Go.RowKit

theorem vptr_of {h : Nat} {S : St} {w : World} (m : Mem h S w) {o : Option Nat} (ho : ∀ i, o = some i → i < S.n) : VPtr w (S.ptr o) := by
  cases o with
  | none => exact .inl rfl
  | some i => exact .inr ⟨S.vb i, rfl, m.shape (ho i rfl)⟩
/-- The pointer that the loop holds when j kept ones are still ahead. -/
def prevO (ks : List Nat) (j : Nat) : Option Nat := if j = 0 then none else ks[j - 1]?
theorem prevO_lt {S : St} (ok : S.Ok) {j : Nat} {i : Nat} (h : prevO S.ks j = some i) : i < S.n := by
  unfold prevO at h
  split at h
  · cases h
  · exact ok.lt _ _ h
theorem last_prevO (ks : List Nat) : ks.getLast? = prevO ks ks.length := by
  unfold prevO
  split
  · rename_i h; rw [List.length_eq_zero_iff.1 h]; rfl
  · rw [List.getLast?_eq_getElem?]
theorem prevO_succ (ks : List Nat) (j : Nat) (h : j < ks.length) : prevO ks (j + 1) = some ks[j] := by
  unfold prevO; simp [h]

set_option maxHeartbeats 1000000 in
theorem version_any (h : Nat) (S : St) (s : Int) (w : World) (ok : S.Ok) (m : Mem h S w) :
    Calls Try.prog 46 #[.pointer (some ⟨h, 0, none⟩), .int .u64 s] w fun e w' => e = .returned (.pointer (S.ptr (S.ans s))) ∧ w' = w := by
  have OK := Hid.mk ok
  have M := Hid.mk m
  have hct := m.cellTop
  rw [last_prevO] at hct
  clear ok m
  go_enter Try.func46, Try.ntmps46
  go_wp2_with fail
  refine (atomLoad h 2 _ w hct (vptr_of M.out (fun i hi => prevO_lt OK.out hi))).mono ?_
  rintro e w1 ⟨rfl, rfl⟩
  clear hct
  go_wp2_with fail
  go_loopg [5] S.ks.length (fun k v wr => w1 = wr ∧ k ≤ S.ks.length ∧ v = .pointer (S.ptr (prevO S.ks k)) ∧ Hid (S.ans s = ansTo S.cm S.ks s k))
  case atStart => exact ⟨rfl, Nat.le_refl _, rfl, rfl⟩
  case round =>
    obtain ⟨rfl, hk, rfl, HA⟩ := hrel
    cases gk with
    | zero =>
      have e0 : S.ptr (prevO S.ks 0) = none := rfl
      rw [e0]
      clear e0
      go_wp2_with fail
      go_ret
      exact ⟨by rw [HA.out]; rfl, rfl⟩
    | succ j =>
      have hj : j < S.ks.length := by omega
      rw [prevO_succ _ _ hj]
      obtain ⟨i, hi⟩ : ∃ i, i = S.ks[j] := ⟨_, rfl⟩
      rw [← hi]
      have hin : i < S.n := by rw [hi]; exact OK.out.lt j _ (List.getElem?_eq_getElem hj)
      have g0 : w1.cell? ⟨S.vb i, 0, none⟩ = some (.int .u64 (S.cm i : Int)) := by rw [M.out.cell hin]; rfl
      have g3 : w1.cell? ⟨S.vb i, 3, none⟩ = some (.pointer (S.ptr (prevO S.ks j))) := by
        rw [M.out.cell hin]
        show some (Value.pointer (S.ptr (S.od i))) = _
        rw [hi, OK.out.older j _ (List.getElem?_eq_getElem hj)]; rfl
      have ei : S.ptr (some i) = some ⟨S.vb i, 0, none⟩ := rfl
      rw [ei]
      have hA : S.ans s = if (S.cm i : Int) ≤ s then some i else ansTo S.cm S.ks s j := by
        rw [HA.out, hi]; simp [ansTo, List.getD_eq_getElem?_getD, hj]
      have HI := Hid.mk hi
      have HA2 := Hid.mk hA
      clear ei hA hi HA
      by_cases hle : (S.cm i : Int) ≤ s
      · go_wp2_with fail
        go_ret
        exact ⟨by rw [HA2.out, if_pos hle]; rfl, rfl⟩
      · go_wp2_with fail
        refine (atomLoad (S.vb i) 3 _ w1 g3 (vptr_of M.out (fun i hi => prevO_lt OK.out hi))).mono ?_
        rintro e w2 ⟨rfl, rfl⟩
        go_wp2_with fail
        go_roundg j
        case measure => omega
        case rel => exact ⟨rfl, by omega, rfl, by have := HA2.out; rw [if_neg (by omega)] at this; exact this⟩

/-! the wrappers -/
theorem zzVersion (h : Nat) (S : St) (s : Int) (w : World) (ok : S.Ok) (m : Mem h S w) :
    Calls Try.prog 27 #[.pointer (some ⟨h, 0, none⟩), .int .u64 s] w fun e w' => e = .returned (.pointer (S.ptr (S.ans s))) ∧ w' = w := by
  have H := version_any h S s w ok m
  clear ok m
  go_enter Try.func27, Try.ntmps27
  go_wp2_with fail
  refine H.mono ?_
  rintro e w' ⟨rfl, rfl⟩
  go_wp2_with fail
  go_ret
  exact ⟨rfl, rfl⟩
theorem zzCommit (b : Nat) (c : Int) (w : World) (hc : w.cell? ⟨b, 0, none⟩ = some (.int .u64 c)) :
    Calls Try.prog 13 #[.pointer (some ⟨b, 0, none⟩)] w fun e w' => e = .returned (.int .u64 c) ∧ w' = w := by
  go_enter Try.func13, Try.ntmps13
  go_wp2_with fail
  go_ret
  exact ⟨rfl, rfl⟩

set_option maxHeartbeats 1000000 in
theorem at_none (h : Nat) (S : St) (s : Int) (w : World) (ok : S.Ok) (m : Mem h S w) (ha : S.ans s = none) :
    Calls Try.prog 47 #[.pointer (some ⟨h, 0, none⟩), .int .u64 s] w fun e w' => e = .returned (.tuple #[.agg #[.string ⟨#[]⟩, .bool false], .bool false]) ∧ Below w.heap.size w w' := by
  have H := fun w' (hb : Below w.heap.size w w') => version_any h S s w' ok (m.below hb)
  rw [ha] at H
  have HV := Hid.mk H
  clear ok m ha H
  go_enter Try.func47, Try.ntmps47
  go_wp2_with fail
  refine (HV.out _ ((Below.refl _ _).alloc (Nat.le_refl _) _)).mono ?_
  rintro e w' ⟨rfl, rfl⟩
  have e0 : S.ptr none = none := rfl
  rw [e0]
  clear e0
  go_wp2_with fail
  exact bodyPost_ret (v := .tuple #[.agg #[.string ⟨#[]⟩, .bool false], .bool false]) (by simp [results, Try.results47, go_sem]) rfl ⟨rfl, (Below.refl _ _).alloc (Nat.le_refl _) _⟩

set_option maxHeartbeats 1000000 in
theorem at_some (h : Nat) (S : St) (s : Int) (i : Nat) (w : World) (ok : S.Ok) (m : Mem h S w) (ha : S.ans s = some i) (hi : i < S.n) :
    Calls Try.prog 47 #[.pointer (some ⟨h, 0, none⟩), .int .u64 s] w fun e w' => e = .returned (.tuple #[.agg #[.string (itoa i), .bool false], .bool true]) ∧ Below w.heap.size w w' := by
  have H := fun w' (hb : Below w.heap.size w w') => version_any h S s w' ok (m.below hb)
  rw [ha] at H
  have HV := Hid.mk H
  have hlt : S.vb i < w.heap.size := (Array.getElem?_eq_some_iff.1 (m.ver i hi)).1
  have g1 : w.cell? ⟨S.vb i, 1, none⟩ = some (.string (itoa i)) := by rw [m.cell hi]; rfl
  have g2 : w.cell? ⟨S.vb i, 2, none⟩ = some (.bool false) := by rw [m.cell hi]; rfl
  clear ok m ha H
  go_enter Try.func47, Try.ntmps47
  go_wp2_with fail
  refine (HV.out _ ((Below.refl _ _).alloc (Nat.le_refl _) _)).mono ?_
  rintro e w' ⟨rfl, rfl⟩
  have e0 : S.ptr (some i) = some ⟨S.vb i, 0, none⟩ := rfl
  rw [e0]
  clear e0
  go_wp2_with fail
  exact bodyPost_ret (v := .tuple #[.agg #[.string (itoa i), .bool false], .bool true]) (by simp [results, Try.results47, go_sem]) rfl ⟨rfl, (Below.refl _ _).alloc (Nat.le_refl _) _⟩

set_option maxHeartbeats 1000000 in
/-- ZZHistoryAt, off whatever at hands back. -/
theorem zzAt_of (h : Nat) (s : Int) (x : ByteArray) (f : Bool) (w : World) (H : Hid (Calls Try.prog 47 #[.pointer (some ⟨h, 0, none⟩), .int .u64 s] w fun e w' => e = .returned (.tuple #[.agg #[.string x, .bool false], .bool f]) ∧ Below w.heap.size w w')) :
    Calls Try.prog 28 #[.pointer (some ⟨h, 0, none⟩), .int .u64 s] w fun e w' => e = .returned (.tuple #[.string x, .bool false, .bool f]) ∧ Below w.heap.size w w' := by
  go_enter Try.func28, Try.ntmps28
  go_wp2_with fail
  refine H.out.mono ?_
  rintro e w1 ⟨rfl, hb⟩
  have hsz := hb.size
  have HB := Hid.mk hb
  clear hb
  go_wp2_with fail
  go_quiet (fail)
  go_wp2_with fail
  go_ret3
  exact ⟨rfl, below_drewN (HB.out.alloc hsz _) _⟩

set_option maxHeartbeats 1000000 in
theorem writtenSince_any (h : Nat) (S : St) (s : Int) (w : World) (ok : S.Ok) (m : Mem h S w) :
    Calls Try.prog 48 #[.pointer (some ⟨h, 0, none⟩), .int .u64 s] w fun e w' => e = .returned (.bool (match S.ks.getLast? with | none => false | some i => decide (s < (S.cm i : Int)))) ∧ w' = w := by
  have hct := m.cellTop
  have hv : VPtr w (S.ptr S.ks.getLast?) := by rw [last_prevO]; exact vptr_of m (fun i hi => prevO_lt ok hi)
  have HV := Hid.mk hv
  cases hl : S.ks.getLast? with
  | none =>
    rw [hl] at hct HV
    clear ok m hv hl
    go_enter Try.func48, Try.ntmps48
    go_wp2_with fail
    refine (atomLoad h 2 _ w hct HV.out).mono ?_
    rintro e w1 ⟨rfl, rfl⟩
    have e0 : S.ptr none = none := rfl
    rw [e0]
    clear e0
    go_wp2_with fail
    go_ret
    exact ⟨rfl, rfl⟩
  | some i =>
    rw [hl] at hct HV
    have hi : i < S.n := by rw [last_prevO] at hl; exact prevO_lt ok hl
    have g0 : w.cell? ⟨S.vb i, 0, none⟩ = some (.int .u64 (S.cm i : Int)) := by rw [m.cell hi]; rfl
    clear ok m hv hl
    go_enter Try.func48, Try.ntmps48
    go_wp2_with fail
    refine (atomLoad h 2 _ w hct HV.out).mono ?_
    rintro e w1 ⟨rfl, rfl⟩
    have e0 : S.ptr (some i) = some ⟨S.vb i, 0, none⟩ := rfl
    rw [e0]
    clear e0
    go_wp2_with fail
    go_ret
    exact ⟨rfl, rfl⟩

set_option maxHeartbeats 1000000 in
theorem forgotten_any (h : Nat) (S : St) (w : World) (ok : S.Ok) (m : Mem h S w) :
    Calls Try.prog 49 #[.pointer (some ⟨h, 0, none⟩)] w fun e w' => e = .returned (.bool S.ks.getLast?.isNone) ∧ w' = w := by
  have hct := m.cellTop
  have hv : VPtr w (S.ptr S.ks.getLast?) := by rw [last_prevO]; exact vptr_of m (fun i hi => prevO_lt ok hi)
  have HV := Hid.mk hv
  clear ok m hv
  cases hl : S.ks.getLast? with
  | none =>
    rw [hl] at hct HV
    clear hl
    go_enter Try.func49, Try.ntmps49
    go_wp2_with fail
    refine (atomLoad h 2 _ w hct HV.out).mono ?_
    rintro e w1 ⟨rfl, rfl⟩
    have e0 : S.ptr none = none := rfl
    rw [e0]
    clear e0
    go_wp2_with fail
    go_ret
    exact ⟨rfl, rfl⟩
  | some i =>
    rw [hl] at hct HV
    clear hl
    go_enter Try.func49, Try.ntmps49
    go_wp2_with fail
    refine (atomLoad h 2 _ w hct HV.out).mono ?_
    rintro e w1 ⟨rfl, rfl⟩
    have e0 : S.ptr (some i) = some ⟨S.vb i, 0, none⟩ := rfl
    rw [e0]
    clear e0
    go_wp2_with fail
    go_ret
    exact ⟨rfl, rfl⟩
theorem zzWrittenSince (h : Nat) (S : St) (s : Int) (w : World) (ok : S.Ok) (m : Mem h S w) :
    Calls Try.prog 29 #[.pointer (some ⟨h, 0, none⟩), .int .u64 s] w fun e w' => e = .returned (.bool (match S.ks.getLast? with | none => false | some i => decide (s < (S.cm i : Int)))) ∧ w' = w := by
  have H := writtenSince_any h S s w ok m
  generalize (match S.ks.getLast? with | none => false | some i => decide (s < (S.cm i : Int))) = r at H ⊢
  clear ok m
  go_enter Try.func29, Try.ntmps29
  go_wp2_with fail
  refine H.mono ?_
  rintro e w' ⟨rfl, rfl⟩
  go_wp2_with fail
  go_ret
  exact ⟨rfl, rfl⟩
theorem zzForgotten (h : Nat) (S : St) (w : World) (ok : S.Ok) (m : Mem h S w) :
    Calls Try.prog 30 #[.pointer (some ⟨h, 0, none⟩)] w fun e w' => e = .returned (.bool S.ks.getLast?.isNone) ∧ w' = w := by
  have H := forgotten_any h S w ok m
  generalize S.ks.getLast?.isNone = r at H ⊢
  clear ok m
  go_enter Try.func30, Try.ntmps30
  go_wp2_with fail
  refine H.mono ?_
  rintro e w' ⟨rfl, rfl⟩
  go_wp2_with fail
  go_ret
  exact ⟨rfl, rfl⟩
end Go.Proofs.Qxb6003819a
