/-
  What the law's main loop keeps, and how each step hands it on.
-/
import Derived.Test.Qxb6003819aWrite
import Derived.Test.Qxb6003819aCheck
import Derived.Test.Qxb6003819aOuts
namespace Go.Proofs.Qxb6003819a
open Go.RowKit

theorem owns_below {w w' : World} {base : Nat} {e : TypeId} {size : Nat} {v : Value} {n : Nat} {xs : List Value} (h : w.ownsRow base e size v n xs) (hb : Below w.heap.size w w') : w'.ownsRow base e size v n xs := by
  refine ⟨h.1, ?_⟩
  rcases h.2 with hn | ⟨g, cap, cur, rfl, hg0, hg, r⟩
  · exact .inl hn
  · exact .inr ⟨g, cap, cur, rfl, hg0, by rw [hb.block g (Array.getElem?_eq_some_iff.1 hg).1]; exact hg, r⟩
theorem owns_base {w : World} {base base' : Nat} {e : TypeId} {size : Nat} {v : Value} {n : Nat} {xs : List Value} (h : w.ownsRow base e size v n xs) (hb : base' ≤ base) : w.ownsRow base' e size v n xs := by
  refine ⟨h.1, ?_⟩
  rcases h.2 with hn | ⟨g, cap, cur, rfl, hg, r⟩
  · exact .inl hn
  · exact .inr ⟨g, cap, cur, rfl, by omega, r⟩
theorem owns_slice {w : World} {B : Nat} {e : TypeId} {size : Nat} {v : Value} {n : Nat} {xs : List Value} (hown : w.ownsRow B e size v n xs) : ∃ ao cap, v = .slice ao n cap := by
  rcases hown.2 with ⟨rfl, rfl⟩ | ⟨g, cap, cur, rfl, _⟩
  · exact ⟨_, _, rfl⟩
  · exact ⟨_, _, rfl⟩
/-- What an append to a row of e's leaves of blocks of other types. -/
theorem grown_other {w w' : World} {B : Nat} {e T : TypeId} {size : Nat} {v : Value} {n : Nat} {xs : List Value} (hown : w.ownsRow B e size v n xs) (hg : w.grownBy w' v.ownBlock) {k : Nat} {c : Array Value} {f : Nat × Nat} (hk : w.heap[k]? = some (.cells c T f)) (hT : T ≠ e) : w'.heap[k]? = some (.cells c T f) := by
  rw [hg.block k (Array.getElem?_eq_some_iff.1 hk).1 ?_]
  · exact hk
  · intro he
    rcases hown.2 with ⟨rfl, _⟩ | ⟨g, cap, cur, rfl, _, hgg, _⟩
    · simp [Value.ownBlock] at he
    · simp only [Value.ownBlock, Option.some.injEq] at he
      subst he
      rw [hgg] at hk
      simp only [Option.some.injEq, Obj.cells.injEq] at hk
      exact hT hk.2.1.symm
theorem owns_grown {w w' : World} {B B' : Nat} {e e' : TypeId} {size size' : Nat} {v u : Value} {n n' : Nat} {xs ys : List Value} (hown : w.ownsRow B e size v n xs) (hg : w.grownBy w' v.ownBlock) (hu : w.ownsRow B' e' size' u n' ys) (hT : e' ≠ e) : w'.ownsRow B' e' size' u n' ys := by
  refine ⟨hu.1, ?_⟩
  rcases hu.2 with hn | ⟨g, cap, cur, rfl, hg0, hgg, r⟩
  · exact .inl hn
  · exact .inr ⟨g, cap, cur, rfl, hg0, grown_other hown hg hgg hT, r⟩
theorem mem_grown {w w' : World} {B h : Nat} {e : TypeId} {size : Nat} {v : Value} {n : Nat} {xs : List Value} {S : St} (hown : w.ownsRow B e size v n xs) (hg : w.grownBy w' v.ownBlock) (m : Mem h S w) (h1 : e ≠ 73) (h2 : e ≠ 82) : Mem h S w' :=
  ⟨grown_other hown hg m.top h1.symm, fun i hi => grown_other hown hg (m.ver i hi) h2.symm⟩
theorem owns_zero {w : World} {B : Nat} {e : TypeId} {n cap : Nat} {ao : Option Addr} {xs : List Value} (h : w.ownsRow B e 1 (.slice ao n cap) n xs) : w.ownsRow B e 1 (.slice ao 0 cap) 0 [] := by
  refine ⟨rfl, ?_⟩
  rcases h.2 with ⟨hv, rfl⟩ | ⟨g, cap', cur, hv, hB, hg, hnc, hm, hs, _⟩
  · simp only [Value.slice.injEq] at hv
    obtain ⟨rfl, _, rfl⟩ := hv
    exact .inl ⟨rfl, rfl⟩
  · simp only [Value.slice.injEq] at hv
    obtain ⟨rfl, _, rfl⟩ := hv
    exact .inr ⟨g, cap, cur, rfl, hB, hg, Nat.zero_le _, hm, hs, by simp⟩

/-- The three rows of the law. -/
structure Rws (B : Nat) (vv kv pv : Value) (vs ks ps : List Value) (w : World) : Prop where
  v : w.ownsRow B 33 1 vv vs.length vs
  k : w.ownsRow B 3 1 kv ks.length ks
  p : w.ownsRow B 25 1 pv ps.length ps
theorem Rws.below {B : Nat} {vv kv pv : Value} {vs ks ps : List Value} {w w' : World} (r : Rws B vv kv pv vs ks ps w) (h : Below w.heap.size w w') : Rws B vv kv pv vs ks ps w' := ⟨owns_below r.v h, owns_below r.k h, owns_below r.p h⟩
theorem Rws.frm {B B' : Nat} {vv kv pv : Value} {vs ks ps : List Value} {w w' : World} (r : Rws B vv kv pv vs ks ps w) (h : Frm B' w w') : Rws B vv kv pv vs ks ps w' := ⟨h.owns r.v (by decide) (by decide), h.owns r.k (by decide) (by decide), h.owns r.p (by decide) (by decide)⟩

/-- What the main loop keeps at step k. -/
structure Inv (B h : Nat) (ops : List Op) (k : Nat) (ps : List Int) (vv kv pv : Value) (S : St) (w : World) : Prop where
  ok : S.Ok
  mem : Mem h S w
  rows : Rws B vv kv pv S.vptrs (ints S.ks) (u64s ps) w
  num : S.n = added (ops.take k)
  com : 0 < S.n → (S.cm (S.n - 1) : Int) = lastC (ops.take k)
  hB : B ≤ h
  vB : ∀ i, i < S.n → B ≤ S.vb i
theorem vptrs_len (S : St) : S.vptrs.length = S.n := by simp [St.vptrs]
theorem ks_le {S : St} (ok : S.Ok) : S.ks.length ≤ S.n := by
  by_cases h : S.ks.length = 0
  · omega
  · have key : ∀ j x : Nat, S.ks[j]? = some x → j ≤ x := by
      intro j
      induction j with
      | zero => intro x _; omega
      | succ j ih =>
        intro x hx
        have hl := get_lt hx
        obtain ⟨y, hy⟩ : ∃ y, S.ks[j]? = some y := ⟨_, List.getElem?_eq_getElem (by omega)⟩
        have h1 := ih y hy
        have h2 := ok.sorted j (j + 1) y x (by omega) hy hx
        omega
    obtain ⟨x, hx⟩ : ∃ x, S.ks[S.ks.length - 1]? = some x := ⟨_, List.getElem?_eq_getElem (by omega)⟩
    have h1 := key _ _ hx
    have h2 := ok.lt _ _ hx
    omega
theorem Inv.below {B h : Nat} {ops : List Op} {k : Nat} {ps : List Int} {vv kv pv : Value} {S : St} {w w' : World} (i : Inv B h ops k ps vv kv pv S w) (hb : Below w.heap.size w w') : Inv B h ops k ps vv kv pv S w' :=
  ⟨i.ok, i.mem.below hb, i.rows.below hb, i.num, i.com, i.hB, i.vB⟩
theorem asc_last {S : St} (ok : S.Ok) {c : Int} (hc : 0 < S.n → (S.cm (S.n - 1) : Int) < c) (i : Nat) (hi : i < S.n) : (S.cm i : Int) < c := by
  have := hc (by omega)
  by_cases e : i = S.n - 1
  · subst e; exact this
  · have := ok.asc i (S.n - 1) (by omega) (by omega); omega
/-- After an add. -/
theorem inv_push {B h b c : Nat} {ops : List Op} {k : Nat} {ps : List Int} {pv vv' kv' : Value} {S : St} {w' : World} {op : Op} (ok : S.Ok) (num : S.n = added (ops.take k)) (com : 0 < S.n → (S.cm (S.n - 1) : Int) = lastC (ops.take k)) (hB : B ≤ h) (vB : ∀ i, i < S.n → B ≤ S.vb i)
    (hop : ops[k]? = some op) (h0 : op.kd = 0) (hc : op.cm = (c : Int)) (hcb : c < 18446744073709551616) (hg : Good ops k op) (hb : B ≤ b) (hne : ∀ i, i < S.n → S.vb i ≠ b)
    (m : Mem h (S.push b c) w') (rv : w'.ownsRow B 33 1 vv' (S.n + 1) (S.vptrs ++ [.pointer (some ⟨b, 0, none⟩)])) (rk : w'.ownsRow B 3 1 kv' (S.ks.length + 1) (ints S.ks ++ [.int .i64 (S.n : Int)])) (rp : w'.ownsRow B 25 1 pv (u64s ps).length (u64s ps)) :
    Inv B h ops (k + 1) ps vv' kv' pv (S.push b c) w' := by
  have hasc : ∀ i, i < S.n → S.cm i < c := by
    intro i hi
    have : (S.cm i : Int) < op.cm := asc_last ok (fun h => by
      rw [com h]
      rcases hg with ⟨_, hg⟩ | ⟨h1, _⟩ | h1
      · exact hg (by rw [← num]; exact h)
      · omega
      · omega) i hi
    omega
  have ev : (S.push b c).vptrs = S.vptrs ++ [.pointer (some ⟨b, 0, none⟩)] := by
    show (List.range (S.n + 1)).map (fun i => Value.pointer (some ⟨if i = S.n then b else S.vb i, 0, none⟩)) = _
    rw [List.range_succ, List.map_append]
    congr 1
    · unfold St.vptrs
      apply List.map_congr_left
      intro i hi
      have := List.mem_range.1 hi
      rw [if_neg (by omega)]
    · simp
  have ek : ints (S.push b c).ks = ints S.ks ++ [.int .i64 (S.n : Int)] := by
    show ints (S.ks ++ [S.n]) = _
    simp [ints]
  refine ⟨push_ok ok hcb hasc hne, m, ⟨?_, ?_, rp⟩, ?_, ?_, hB, ?_⟩
  · rw [vptrs_len, ev]; exact rv
  · rw [ints_len]; show w'.ownsRow B 3 1 kv' (S.ks ++ [S.n]).length _; rw [ek, List.length_append]; exact rk
  · show S.n + 1 = _; rw [(added_add hop h0).1, num]
  · intro _
    rw [(added_add hop h0).2, hc]
    show ((if S.n + 1 - 1 = S.n then c else S.cm (S.n + 1 - 1) : Nat) : Int) = _
    rw [if_pos (by omega)]
  · intro i hi
    have hi' : i < S.n + 1 := hi
    show B ≤ (if i = S.n then b else S.vb i)
    split
    · exact hb
    · exact vB i (by omega)
/-- After a drop of the p-th kept. -/
theorem inv_cut {B h p x nx : Nat} {ops : List Op} {k : Nat} {ps : List Int} {vv kv' pv : Value} {S : St} {w' : World} {op : Op} (ok : S.Ok) (num : S.n = added (ops.take k)) (com : 0 < S.n → (S.cm (S.n - 1) : Int) = lastC (ops.take k)) (hB : B ≤ h) (vB : ∀ i, i < S.n → B ≤ S.vb i)
    (hop : ops[k]? = some op) (h0 : op.kd ≠ 0) (hp : S.ks[p]? = some x) (hnx : S.ks[p + 1]? = some nx) (m : Mem h (S.cut p x nx) w')
    (rv : w'.ownsRow B 33 1 vv S.vptrs.length S.vptrs) (rk : w'.ownsRow B 3 1 kv' (S.ks.eraseIdx p).length (ints (S.ks.eraseIdx p))) (rp : w'.ownsRow B 25 1 pv (u64s ps).length (u64s ps)) :
    Inv B h ops (k + 1) ps vv kv' pv (S.cut p x nx) w' :=
  ⟨cut_ok ok hp hnx, m, ⟨rv, by rw [ints_len]; exact rk, rp⟩, by rw [(added_else hop h0).1]; exact num, by rw [(added_else hop h0).2]; exact com, hB, vB⟩
theorem inv_same {B h : Nat} {ops : List Op} {k : Nat} {ps : List Int} {vv kv pv : Value} {S : St} {w' : World} {op : Op} (i : Inv B h ops k ps vv kv pv S w') (hop : ops[k]? = some op) (h0 : op.kd ≠ 0) : Inv B h ops (k + 1) ps vv kv pv S w' :=
  ⟨i.ok, i.mem, i.rows, by rw [(added_else hop h0).1]; exact i.num, by rw [(added_else hop h0).2]; exact i.com, i.hB, i.vB⟩
theorem inv_clear {B h : Nat} {ops : List Op} {k : Nat} {ps : List Int} {vv kv' pv : Value} {S : St} {w' : World} {op : Op} (ok : S.Ok) (num : S.n = added (ops.take k)) (com : 0 < S.n → (S.cm (S.n - 1) : Int) = lastC (ops.take k)) (hB : B ≤ h) (vB : ∀ i, i < S.n → B ≤ S.vb i)
    (hop : ops[k]? = some op) (h0 : op.kd ≠ 0) (m : Mem h S.clear w') (rv : w'.ownsRow B 33 1 vv S.vptrs.length S.vptrs) (rk : w'.ownsRow B 3 1 kv' 0 []) (rp : w'.ownsRow B 25 1 pv (u64s ps).length (u64s ps)) :
    Inv B h ops (k + 1) ps vv kv' pv S.clear w' :=
  ⟨clear_ok ok, m, ⟨rv, rk, rp⟩, by rw [(added_else hop h0).1]; exact num, by rw [(added_else hop h0).2]; exact com, hB, vB⟩

/-! ### what a drop may change -/
theorem ansTo_skip {cm : Nat → Nat} {ks : List Nat} {s : Int} {j : Nat} : ∀ {m : Nat}, j ≤ m → m ≤ ks.length → (∀ i x, j ≤ i → i < m → ks[i]? = some x → s < (cm x : Int)) → ansTo cm ks s m = ansTo cm ks s j
  | 0, hj, _, _ => by obtain rfl : j = 0 := by omega
                      rfl
  | m + 1, hj, hm, h => by
    by_cases e : j = m + 1
    · subst e; rfl
    · have hx : ks[m]? = some (ks.getD m 0) := by simp [List.getD_eq_getElem?_getD, show m < ks.length by omega]
      conv => lhs; unfold ansTo
      rw [if_neg (by have := h m _ (by omega) (by omega) hx; omega)]
      exact ansTo_skip (by omega) (by omega) (fun i x h1 h2 => h i x h1 (by omega))
theorem ansTo_hit {cm : Nat → Nat} {ks : List Nat} {s : Int} {j x : Nat} (hx : ks[j]? = some x) (h : (cm x : Int) ≤ s) : ansTo cm ks s (j + 1) = some x := by
  unfold ansTo
  rw [if_pos (by simp [List.getD_eq_getElem?_getD, hx, h])]
  simp [List.getD_eq_getElem?_getD, hx]
theorem ansTo_erase {cm : Nat → Nat} {ks : List Nat} {s : Int} {p : Nat} : ∀ {j : Nat}, j ≤ p → ansTo cm (ks.eraseIdx p) s j = ansTo cm ks s j
  | 0, _ => rfl
  | j + 1, hj => by
    have e : (ks.eraseIdx p).getD j 0 = ks.getD j 0 := by simp only [List.getD_eq_getElem?_getD, get_erase, if_pos (show j < p by omega)]
    unfold ansTo
    rw [e, ansTo_erase (by omega)]
theorem ansTo_far {cm : Nat → Nat} {ks : List Nat} {s : Int} {p nx : Nat} (hnx : ks[p + 1]? = some nx) (hs : (cm nx : Int) ≤ s) : ∀ d : Nat, p + 2 + d ≤ ks.length → ansTo cm ks s (p + 2 + d) = ansTo cm (ks.eraseIdx p) s (p + 1 + d)
  | 0, _ => by
    rw [show p + 2 + 0 = (p + 1) + 1 by omega, show p + 1 + 0 = p + 1 by omega, ansTo_hit hnx hs, ansTo_hit (by rw [get_erase, if_neg (by omega)]; exact hnx) hs]
  | d + 1, h => by
    have e : (ks.eraseIdx p).getD (p + 1 + d) 0 = ks.getD (p + 2 + d) 0 := by
      simp only [List.getD_eq_getElem?_getD, get_erase, if_neg (show ¬ p + 1 + d < p by omega), show p + 1 + d + 1 = p + 2 + d by omega]
    show ansTo cm ks s ((p + 2 + d) + 1) = ansTo cm (ks.eraseIdx p) s ((p + 1 + d) + 1)
    unfold ansTo
    rw [e, ansTo_far hnx hs d (by omega)]
theorem cut_ans {S : St} {p x nx : Nat} (ok : S.Ok) (hp : S.ks[p]? = some x) (hnx : S.ks[p + 1]? = some nx) (s : Int) :
    S.ans s = (S.cut p x nx).ans s ∨ (S.ans s = some x ∧ (S.cm x : Int) ≤ s ∧ s < (S.cm nx : Int)) := by
  have hl := get_lt hnx
  have hlen : (S.ks.eraseIdx p).length = S.ks.length - 1 := by rw [List.length_eraseIdx, if_pos (by omega)]
  have up : ∀ (i j : Nat) (y z : Nat), i < j → S.ks[i]? = some y → S.ks[j]? = some z → S.cm y < S.cm z := fun i j y z hij hy hz => ok.asc y z (ok.sorted i j y z hij hy hz) (ok.lt _ _ hz)
  show ansTo S.cm S.ks s S.ks.length = ansTo S.cm (S.ks.eraseIdx p) s (S.ks.eraseIdx p).length ∨ _
  rw [hlen]
  by_cases h1 : s < (S.cm x : Int)
  · left
    rw [ansTo_skip (j := p) (by omega) (Nat.le_refl _) (fun i y hi hi2 hy => by
      by_cases e : i = p
      · subst e; rw [hp] at hy; obtain rfl := Option.some.inj hy; exact h1
      · have := up p i x y (by omega) hp hy; omega)]
    rw [ansTo_skip (ks := S.ks.eraseIdx p) (j := p) (by omega) (by omega) (fun i y hi hi2 hy => by
      rw [get_erase, if_neg (by omega)] at hy
      have := up p (i + 1) x y (by omega) hp hy; omega)]
    exact (ansTo_erase (Nat.le_refl _)).symm
  · by_cases h2 : s < (S.cm nx : Int)
    · right
      refine ⟨?_, by omega, h2⟩
      show ansTo S.cm S.ks s S.ks.length = _
      rw [ansTo_skip (j := p + 1) (by omega) (Nat.le_refl _) (fun i y hi hi2 hy => by
        by_cases e : i = p + 1
        · subst e; rw [hnx] at hy; obtain rfl := Option.some.inj hy; exact h2
        · have := up (p + 1) i nx y (by omega) hnx hy; omega)]
      exact ansTo_hit hp (by omega)
    · left
      have := ansTo_far (cm := S.cm) (s := s) hnx (by omega) (S.ks.length - (p + 2)) (by omega)
      rw [show p + 2 + (S.ks.length - (p + 2)) = S.ks.length by omega, show p + 1 + (S.ks.length - (p + 2)) = S.ks.length - 1 by omega] at this
      exact this
end Go.Proofs.Qxb6003819a
