/-
  strBytes and the bound on total length: what they answer.
-/
import Derived.Test.Qxb6000406aElem
namespace Go.Proofs.Qxb6000406a
open Go.RowKit

/-- The cells of a slice that came in (or was made): from its address on. -/
def Row (w : World) (a : Option Addr) (vs : List Value) : Prop :=
  vs = [] ∨ ∃ b off, a = some ⟨b, off, none⟩ ∧ ∀ i (h : i < vs.length), w.cell? ⟨b, off + i, none⟩ = some vs[i]
theorem Row.at {w : World} {a : Option Addr} {vs : List Value} (h : Row w a vs) {k : Nat} (hk : k < vs.length) : ∃ b off, a = some ⟨b, off, none⟩ ∧ b < w.heap.size ∧ ∀ i (h : i < vs.length), w.cell? ⟨b, off + i, none⟩ = some vs[i] := by
  rcases h with rfl | ⟨b, off, rfl, h⟩
  · simp at hk
  · exact ⟨b, off, rfl, World.block_lt_of_cell? w _ (h k hk), h⟩
theorem Row.kept {w w' : World} {a : Option Addr} {vs : List Value} (h : Row w a vs) (hb : Below w.heap.size w w') : Row w' a vs := by
  by_cases h0 : vs = []
  · exact .inl h0
  · obtain ⟨b, off, rfl, hlt, hc⟩ := h.at (List.length_pos_iff.2 h0)
    exact .inr ⟨b, off, rfl, fun i hi => (hb.cell (p := ⟨b, off + i, none⟩) hlt).trans (hc i hi)⟩
def strs' (ts : List ByteArray) : List Value := ts.map Value.string
theorem strs'_len (ts : List ByteArray) : (strs' ts).length = ts.length := by simp [strs']
theorem strs'_get (ts : List ByteArray) (k : Nat) (h : k < (strs' ts).length) : (strs' ts)[k] = .string (ts[k]'(by simpa [strs'] using h)) := by simp [strs']

/-- 16 for each string and its length. -/
def wt (ts : List ByteArray) : Nat := (ts.map (fun t => 16 + t.size)).sum
theorem wt_take (ts : List ByteArray) (k : Nat) (h : k < ts.length) : wt (ts.take (k + 1)) = wt (ts.take k) + (16 + ts[k].size) := by
  rw [List.take_succ_eq_append_getElem h]; simp only [wt, List.map_append, List.sum_append, List.map_cons, List.map_nil, List.sum_cons, List.sum_nil, Nat.add_zero]
theorem wt_len (ts : List ByteArray) : 16 * ts.length ≤ wt ts := by
  induction ts with
  | nil => simp
  | cons t ts ih => simp [wt] at ih ⊢; omega

set_option maxHeartbeats 1000000 in
theorem strBytes_any (a : Option Addr) (n c : Nat) (ts : List ByteArray) (w : World) (hn : ts.length = n) (hm : n ≤ maxLen) (hr : Row w a (strs' ts)) (hs : ∀ t ∈ ts, t.size ≤ 1048576) :
    Calls Try.prog 9 #[.slice a n c] w fun e w' => ∃ t : Int, e = .returned (.int .i64 t) ∧ w' = w ∧ 0 ≤ t ∧ t ≤ 1048577 ∧ (t ≤ 1048576 → wt ts ≤ 1048576) := by
  unfold maxLen at hm
  have HR := Hid.mk hr
  have HN := Hid.mk hn
  have HS := Hid.mk hs
  clear hr hn hs
  go_enter Try.func9, Try.ntmps9
  go_wp2_with fail
  go_loop [3, 4] (fun t i => ∃ k : Nat, k ≤ n ∧ i = .int .i64 k ∧ t = .int .i64 (wt (ts.take k)) ∧ wt (ts.take k) ≤ 1048576) (fun _ i => n - (intOf i).toNat)
  case atStart => exact ⟨0, Nat.zero_le _, rfl, by simp [wt], by simp [wt]⟩
  case round =>
    obtain ⟨k, hk, rfl, rfl, hw⟩ := hrel
    by_cases hlt : k < n
    · have hk' : k < ts.length := by rw [HN.out]; exact hlt
      obtain ⟨b, off, rfl, _, hc⟩ := HR.out.at (k := k) (by rw [strs'_len]; exact hk')
      have hck := hc k (by rw [strs'_len]; exact hk')
      rw [strs'_get] at hck
      have hsk := HS.out ts[k] (List.getElem_mem _)
      obtain ⟨s, hsE⟩ : ∃ s, s = ts[k] := ⟨_, rfl⟩
      rw [← hsE] at hck hsk
      have HW := Hid.mk (wt_take ts k hk')
      rw [← hsE] at HW
      clear hc hsE
      go_wp2_with fail
      · go_ret
        exact ⟨_, rfl, rfl, by omega, by omega, fun h => by omega⟩
      · have h1 : (wt (ts.take k) : Int) + (16 + (s.size : Int)) ≤ 1048576 := by assumption
        go_round
        case rel =>
          refine ⟨k + 1, by omega, by go_num, ?_, ?_⟩
          · rw [HW.out]; go_num
          · rw [HW.out]; omega
        case measure => simp [intOf]; omega
    · go_wp2_with fail
      go_ret
      have e : ts.take k = ts := List.take_of_length_le (by rw [HN.out]; omega)
      rw [e] at hw
      exact ⟨_, by rw [e]; rfl, rfl, by omega, by omega, fun _ => hw⟩

/-- The bound on total length: whatever it answers; where it says yes no string is long. -/
def Short (n : Nat) (ts : List ByteArray) : Prop := n ≤ 1048576 ∧ ∀ t ∈ ts, t.size ≤ 1048576
theorem short_of {n k : Nat} {ts : List ByteArray} (hn : ts.length = n) (h0 : n ≤ 1048576) (hk : ¬ k < n) (h : ∀ j (hj : j < ts.length), j < k → ts[j].size ≤ 1048576) : Short n ts := by
  refine ⟨h0, fun t ht => ?_⟩
  obtain ⟨j, hj, rfl⟩ := List.getElem_of_mem ht
  exact h j hj (by omega)
theorem short_next {k : Nat} {ts : List ByteArray} {s : ByteArray} (hk : k < ts.length) (hs : s = ts[k]) (hb : s.size ≤ 1048576) (h : ∀ j (hj : j < ts.length), j < k → ts[j].size ≤ 1048576) : ∀ j (hj : j < ts.length), j < k + 1 → ts[j].size ≤ 1048576 := by
  intro j hj hjk
  by_cases e : j = k
  · subst e; rw [← hs]; exact hb
  · exact h j hj (by omega)

/-- A bool is answered, the world is as it was; where it is true S holds. -/
def Answers (S : Prop) (w : World) (e : Ending) (w' : World) : Prop := ∃ r : Bool, e = .returned (.bool r) ∧ w' = w ∧ (r = true → S)

set_option maxHeartbeats 2000000 in
theorem zzBytes_any (a0 a1 a2 a3 a4 a5 : Option Addr) (n0 n1 n2 n3 n4 n5 c0 c1 c2 c3 c4 c5 : Nat) (t0 t1 t3 t4 : List ByteArray) (w : World)
    (hn0 : t0.length = n0) (hn1 : t1.length = n1) (hn3 : t3.length = n3) (hn4 : t4.length = n4)
    (r0 : Row w a0 (strs' t0)) (r1 : Row w a1 (strs' t1)) (r3 : Row w a3 (strs' t3)) (r4 : Row w a4 (strs' t4)) :
    Calls Try.prog 13 #[.slice a0 n0 c0, .slice a1 n1 c1, .slice a2 n2 c2, .slice a3 n3 c3, .slice a4 n4 c4, .slice a5 n5 c5] w (Answers (Short n0 t0 ∧ Short n1 t1 ∧ Short n3 t3 ∧ Short n4 t4) w) := by
  have R0 := Hid.mk r0
  have R1 := Hid.mk r1
  have R3 := Hid.mk r3
  have R4 := Hid.mk r4
  have N0 := Hid.mk hn0
  have N1 := Hid.mk hn1
  have N3 := Hid.mk hn3
  have N4 := Hid.mk hn4
  clear r0 r1 r3 r4 hn0 hn1 hn3 hn4
  go_enter Try.func13, Try.ntmps13
  by_cases u0 : 1048576 < n0
  · go_wp2_with fail
    go_ret; exact ⟨_, rfl, rfl, fun h => by cases h⟩
  go_wp2_with fail
  go_loop [13, 14] (fun z i => ∃ (k : Nat) (q : Int), k ≤ n0 ∧ i = .int .i64 k ∧ z = .int .i64 q ∧ 0 ≤ q ∧ q ≤ 1048576 ∧ Hid (∀ j (hj : j < t0.length), j < k → t0[j].size ≤ 1048576)) (fun _ i => n0 - (intOf i).toNat)
  case atStart => exact ⟨0, _, Nat.zero_le _, rfl, rfl, by omega, by omega, fun j hj h => by omega⟩
  case round =>
    obtain ⟨k, q, hk, rfl, rfl, hq0, hq1, HJ⟩ := hrel
    by_cases hlt : k < n0
    · have hk' : k < t0.length := by rw [N0.out]; exact hlt
      obtain ⟨b, off, rfl, _, hc⟩ := R0.out.at (k := k) (by rw [strs'_len]; exact hk')
      have hck := hc k (by rw [strs'_len]; exact hk')
      rw [strs'_get] at hck
      obtain ⟨s, hsE⟩ : ∃ s, s = t0[k] := ⟨_, rfl⟩
      rw [← hsE] at hck
      have HE := Hid.mk hsE
      clear hc hsE
      by_cases hs1 : 1048576 < s.size
      · go_wp2_with fail
        go_ret; exact ⟨_, rfl, rfl, fun h => by cases h⟩
      · by_cases hs2 : 1048576 < q + s.size
        · go_wp2_with fail
          go_ret; exact ⟨_, rfl, rfl, fun h => by cases h⟩
        · go_wp2_with fail
          go_round
          case rel => exact ⟨k + 1, _, by omega, by go_num, rfl, by omega, by omega, short_next hk' HE.out (by omega) HJ.out⟩
          case measure => simp [intOf]; omega
    · have S0 : Hid (Short n0 t0) := short_of N0.out (by omega) hlt HJ.out
      clear HJ
      by_cases u1 : 1048576 < n1
      · go_wp2_with fail
        go_ret; exact ⟨_, rfl, rfl, fun h => by cases h⟩
      by_cases u2 : 1048576 < q + n1
      · go_wp2_with fail
        go_ret; exact ⟨_, rfl, rfl, fun h => by cases h⟩
      go_wp2_with fail
      go_loop [13, 15] (fun z i => ∃ (k : Nat) (q : Int), k ≤ n1 ∧ i = .int .i64 k ∧ z = .int .i64 q ∧ 0 ≤ q ∧ q ≤ 1048576 ∧ Hid (∀ j (hj : j < t1.length), j < k → t1[j].size ≤ 1048576)) (fun _ i => n1 - (intOf i).toNat)
      case atStart => exact ⟨0, _, Nat.zero_le _, rfl, rfl, by omega, by omega, fun j hj h => by omega⟩
      case round =>
        obtain ⟨k, q, hk, rfl, rfl, hq0, hq1, HJ⟩ := hrel
        by_cases hlt : k < n1
        · have hk' : k < t1.length := by rw [N1.out]; exact hlt
          obtain ⟨b, off, rfl, _, hc⟩ := R1.out.at (k := k) (by rw [strs'_len]; exact hk')
          have hck := hc k (by rw [strs'_len]; exact hk')
          rw [strs'_get] at hck
          obtain ⟨s, hsE⟩ : ∃ s, s = t1[k] := ⟨_, rfl⟩
          rw [← hsE] at hck
          have HE := Hid.mk hsE
          clear hc hsE
          by_cases hs1 : 1048576 < s.size
          · go_wp2_with fail
            go_ret; exact ⟨_, rfl, rfl, fun h => by cases h⟩
          · by_cases hs2 : 1048576 < q + s.size
            · go_wp2_with fail
              go_ret; exact ⟨_, rfl, rfl, fun h => by cases h⟩
            · go_wp2_with fail
              go_round
              case rel => exact ⟨k + 1, _, by omega, by go_num, rfl, by omega, by omega, short_next hk' HE.out (by omega) HJ.out⟩
              case measure => simp [intOf]; omega
        · have S1 : Hid (Short n1 t1) := short_of N1.out (by omega) hlt HJ.out
          clear HJ
          by_cases u1 : 1048576 < n2
          · go_wp2_with fail
            go_ret; exact ⟨_, rfl, rfl, fun h => by cases h⟩
          by_cases u2 : 1048576 < q + n2
          · go_wp2_with fail
            go_ret; exact ⟨_, rfl, rfl, fun h => by cases h⟩
          by_cases u3 : 1048576 < n3
          · go_wp2_with fail
            go_ret; exact ⟨_, rfl, rfl, fun h => by cases h⟩
          by_cases u4 : 1048576 < q + n2 + n3
          · go_wp2_with fail
            go_ret; exact ⟨_, rfl, rfl, fun h => by cases h⟩
          go_wp2_with fail
          go_loop [13, 16] (fun z i => ∃ (k : Nat) (q : Int), k ≤ n3 ∧ i = .int .i64 k ∧ z = .int .i64 q ∧ 0 ≤ q ∧ q ≤ 1048576 ∧ Hid (∀ j (hj : j < t3.length), j < k → t3[j].size ≤ 1048576)) (fun _ i => n3 - (intOf i).toNat)
          case atStart => exact ⟨0, _, Nat.zero_le _, rfl, rfl, by omega, by omega, fun j hj h => by omega⟩
          case round =>
            obtain ⟨k, q, hk, rfl, rfl, hq0, hq1, HJ⟩ := hrel
            by_cases hlt : k < n3
            · have hk' : k < t3.length := by rw [N3.out]; exact hlt
              obtain ⟨b, off, rfl, _, hc⟩ := R3.out.at (k := k) (by rw [strs'_len]; exact hk')
              have hck := hc k (by rw [strs'_len]; exact hk')
              rw [strs'_get] at hck
              obtain ⟨s, hsE⟩ : ∃ s, s = t3[k] := ⟨_, rfl⟩
              rw [← hsE] at hck
              have HE := Hid.mk hsE
              clear hc hsE
              by_cases hs1 : 1048576 < s.size
              · go_wp2_with fail
                go_ret; exact ⟨_, rfl, rfl, fun h => by cases h⟩
              · by_cases hs2 : 1048576 < q + s.size
                · go_wp2_with fail
                  go_ret; exact ⟨_, rfl, rfl, fun h => by cases h⟩
                · go_wp2_with fail
                  go_round
                  case rel => exact ⟨k + 1, _, by omega, by go_num, rfl, by omega, by omega, short_next hk' HE.out (by omega) HJ.out⟩
                  case measure => simp [intOf]; omega
            · have S3 : Hid (Short n3 t3) := short_of N3.out (by omega) hlt HJ.out
              clear HJ
              by_cases u5 : 1048576 < n4
              · go_wp2_with fail
                go_ret; exact ⟨_, rfl, rfl, fun h => by cases h⟩
              by_cases u6 : 1048576 < q + n4
              · go_wp2_with fail
                go_ret; exact ⟨_, rfl, rfl, fun h => by cases h⟩
              go_wp2_with fail
              go_loop [13, 17] (fun z i => ∃ (k : Nat) (q : Int), k ≤ n4 ∧ i = .int .i64 k ∧ z = .int .i64 q ∧ 0 ≤ q ∧ q ≤ 1048576 ∧ Hid (∀ j (hj : j < t4.length), j < k → t4[j].size ≤ 1048576)) (fun _ i => n4 - (intOf i).toNat)
              case atStart => exact ⟨0, _, Nat.zero_le _, rfl, rfl, by omega, by omega, fun j hj h => by omega⟩
              case round =>
                obtain ⟨k, q, hk, rfl, rfl, hq0, hq1, HJ⟩ := hrel
                by_cases hlt : k < n4
                · have hk' : k < t4.length := by rw [N4.out]; exact hlt
                  obtain ⟨b, off, rfl, _, hc⟩ := R4.out.at (k := k) (by rw [strs'_len]; exact hk')
                  have hck := hc k (by rw [strs'_len]; exact hk')
                  rw [strs'_get] at hck
                  obtain ⟨s, hsE⟩ : ∃ s, s = t4[k] := ⟨_, rfl⟩
                  rw [← hsE] at hck
                  have HE := Hid.mk hsE
                  clear hc hsE
                  by_cases hs1 : 1048576 < s.size
                  · go_wp2_with fail
                    go_ret; exact ⟨_, rfl, rfl, fun h => by cases h⟩
                  · by_cases hs2 : 1048576 < q + s.size
                    · go_wp2_with fail
                      go_ret; exact ⟨_, rfl, rfl, fun h => by cases h⟩
                    · go_wp2_with fail
                      go_round
                      case rel => exact ⟨k + 1, _, by omega, by go_num, rfl, by omega, by omega, short_next hk' HE.out (by omega) HJ.out⟩
                      case measure => simp [intOf]; omega
                · have S4 : Hid (Short n4 t4) := short_of N4.out (by omega) hlt HJ.out
                  clear HJ
                  by_cases u7 : 1048576 < n5
                  · go_wp2_with fail
                    go_ret; exact ⟨_, rfl, rfl, fun h => by cases h⟩
                  by_cases u8 : 1048576 < q + n5
                  · go_wp2_with fail
                    go_ret; exact ⟨_, rfl, rfl, fun h => by cases h⟩
                  go_wp2_with fail
                  go_ret
                  exact ⟨_, rfl, rfl, fun _ => ⟨S0.out, S1.out, S3.out, S4.out⟩⟩
end Go.Proofs.Qxb6000406a
