/-
  'Rows.PropHistoryVersionIsNewestAtOrBeforeSaid', proved: the frame is after the guide's shell for slices (proof-skeleton), turned to a slice of steps.
-/
import Derived.Test.Qxb6003819aRows
import Derived.Test.Qxb6003819aLaw
import Derived.Test.Qxb6003819aClosed
import Derived.WalkKit
import Derived.ProofKit
import Derived.OpenShut
import Derived.ShutString
import Derived.ChangeOld
import Derived.Below
import Derived.Deep.Slices
import Derived.Deep.Strs
namespace Go.Proofs.Qxb6003819a.propHistoryVersionIsNewestAtOrBefore
open Go.ChangeShapes Go.WideShapes Go.ChangeAt Go.RowKit
set_option linter.unusedVariables false

theorem own : ownKnob Try.prog.godebug = none := by kernel_rfl
theorem laidOut : laidOutB Try.prog = true := by kernel_rfl
theorem cells27 : Try.prog.cellsOf 27 = 3 := by kernel_rfl
theorem cells25 : Try.prog.cellsOf 25 = 1 := by kernel_rfl
theorem cells3 : Try.prog.cellsOf 3 = 1 := by kernel_rfl

theorem add_flat (b off j : Nat) : (⟨b, off, none⟩ : Addr).add j = ⟨b, off + j, none⟩ := by
  unfold Addr.add
  split
  · simp_all
  · rfl

section
variable {H : Type} {enc : TypeId × Value → H} {W : World}
/-- One step, read from its three cells. -/
theorem view_op {n : Nat} {x : Addr} {D : DataW H × List MemPlace} {cs : List Value} (hc : W.cells? 0 x 3 = some cs) (h : DataW.trod enc Try.prog W 0 (fun _ => true) true n 27 cs = some D) :
    ∃ op : Op, W.cell? (x.add 0) = some (.int .i64 op.kd) ∧ W.cell? (x.add 1) = some (.int .u64 op.cm) ∧ W.cell? (x.add 2) = some (.int .i64 op.ix) ∧ 0 ≤ op.cm ∧ op.cm ≤ 18446744073709551615 := by
  obtain ⟨_, hl, hcs⟩ := World.cells?_some hc
  match cs, hl with
  | [c0, c1, c2], _ =>
    obtain ⟨y0, y1, y2, m, _, _, h0, h1, h2⟩ := Deep.trod_struct3 Try.underlying27 h
    simp only [cells25, cells3, List.drop_zero, List.drop_succ_cons, List.take_succ_cons, List.take_zero] at h0 h1 h2
    obtain ⟨n0, e0, _, _⟩ := DataW.trod_int Try.underlying3 h0
    obtain ⟨n1, e1, _, w1⟩ := DataW.trod_int Try.underlying25 h1
    obtain ⟨n2, e2, _, _⟩ := DataW.trod_int Try.underlying3 h2
    simp only [List.cons.injEq, and_true] at e0 e1 e2
    subst e0 e1 e2
    simp only [Lit.wf, Bool.and_eq_true, decide_eq_true_eq] at w1
    have lo : IntKind.u64.min = 0 := rfl
    have hi : IntKind.u64.max = 18446744073709551615 := rfl
    rw [lo, hi] at w1
    exact ⟨⟨n0, n1, n2⟩, hcs 0 (by omega), hcs 1 (by omega), hcs 2 (by omega), w1.1, w1.2⟩
theorem view_ops {a : Option Addr} {len cap : Nat} {d : DataW H} {p : List MemPlace} (h : DataW.Trod enc Try.prog W 0 (fun _ => true) true 22 (.slice a len cap) d p) :
    ∃ ops : List Op, ops.length = len ∧ len ≤ maxLen ∧ ORow W a ops ∧ ∀ op, op ∈ ops → 0 ≤ op.cm ∧ op.cm ≤ 18446744073709551615 := by
  obtain ⟨fuel, hf⟩ := h
  rcases Deep.open_slice Try.underlying22 hf with ⟨hcs, _⟩ | ⟨x, l, c, m, n, D, Pl, hcs, _, hl, hm, hmm, _, hx⟩
  · simp [Value.cells] at hcs
    obtain ⟨rfl, rfl, rfl⟩ := hcs
    exact ⟨[], rfl, Nat.zero_le _, .inl rfl, fun op h => by cases h⟩
  · simp [Value.cells] at hcs
    obtain ⟨rfl, rfl, rfl⟩ := hcs
    simp only [if_true] at hmm
    subst hmm
    rw [cells27] at hx
    by_cases h0 : len = 0
    · exact ⟨[], h0.symm, by omega, .inl rfl, fun op h => by cases h⟩
    have key : ∀ i, i < len → ∃ op : Op, W.cell? ((x.add (i * 3)).add 0) = some (.int .i64 op.kd) ∧ W.cell? ((x.add (i * 3)).add 1) = some (.int .u64 op.cm) ∧ W.cell? ((x.add (i * 3)).add 2) = some (.int .i64 op.ix) ∧ 0 ≤ op.cm ∧ op.cm ≤ 18446744073709551615 := by
      intro i hi
      obtain ⟨cs', h1, h2⟩ := hx i (by omega)
      exact view_op h1 h2
    obtain ⟨b, off, spot⟩ := x
    have hspot : spot = none := by
      obtain ⟨op, h1, _⟩ := key 0 (by omega)
      simpa [Addr.add] using World.cell?_spot h1
    subst hspot
    have inh : Inhabited Op := ⟨⟨0, 0, 0⟩⟩
    obtain ⟨V, hV⟩ := Deep.choose_lt key
    have hadd : ∀ i j : Nat, (((⟨b, off, none⟩ : Addr).add (i * 3)).add j) = ⟨b, off + i * 3 + j, none⟩ := fun i j => by rw [add_flat, add_flat]
    refine ⟨(List.range len).map V, by simp, by omega, .inr ⟨b, off, rfl, fun i op hi => ?_⟩, fun op ho => ?_⟩
    · have hlt : i < len := by simpa using (List.getElem?_eq_some_iff.1 hi).1
      rw [List.getElem?_map, List.getElem?_range hlt] at hi
      obtain rfl := Option.some.inj hi
      obtain ⟨g0, g1, g2, _⟩ := hV i hlt
      rw [hadd] at g0 g1 g2
      exact ⟨g0, g1, g2⟩
    · obtain ⟨i, hi, rfl⟩ := List.mem_map.1 ho
      exact (hV i (List.mem_range.1 hi)).2.2.2
end

set_option maxRecDepth 100000 in
theorem lifted (os : Os) (started : os.Started) (H : Type) (enc : TypeId × Value → H) :
    ReturnsInHanded {} Try.checked os 3 .any (Rows.propHistoryVersionIsNewestAtOrBeforeSpec.pre6 enc Try.prog Try.f3 Rows.propHistoryVersionIsNewestAtOrBeforeRow.domain false) (Rows.propHistoryVersionIsNewestAtOrBeforeSpec.post enc Try.prog Try.f3 false true false false) := by
  refine returnsInHanded_of_change (C := Try.checked) own started (by kernel_rfl) Try.func3
    (ChangeSpec.witness6 (enc := enc) (C := Try.checked) false ⟨#[], #[.slice none 0 0], []⟩ 8 (by kernel_rfl) (by kernel_rfl) (by kernel_rfl) (by kernel_rfl)) ?_
  intro W base args ds gs before hval0 hW hcnd _
  have hval : ∀ (j : Nat) t v, Try.f3.params[j]? = some t → args[j]? = some v → Value.okWide Try.prog W .any base t v := hval0
  have hW' := hW
  obtain ⟨p, q, hA0, hV, rfl, hfz, hnd⟩ := hW
  have hA : DataW.TrodAll enc Try.prog W 0 (fun _ => true) true Try.f3.params.toList args.toList ds p := hA0
  rw [Try.params3] at hA hval
  obtain ⟨v0, vs0, d0, ds0, p0, q0, hargs, rfl, rfl, h0, r0⟩ := trodAll_cons hA
  obtain ⟨rfl, rfl, rfl⟩ := trodAll_nil r0
  obtain rfl : args = #[v0] := by cases args; simp_all
  obtain ⟨rfl, rfl⟩ := trodVars_none hV
  obtain ⟨a0, len0, cap0, rfl⟩ := okWide_slice Try.underlying22 (hval 0 22 v0 rfl rfl)
  have k0 := h0
  have lt0 : ∀ x ∈ p0, x.block < W.heap.size := by obtain ⟨m, hm⟩ := k0; exact DataW.trod_lt m _ _ _ hm
  obtain ⟨ops, l0, m0, w0, c0⟩ := view_ops h0
  clear hA0 hval0
  refine (law_walk a0 len0 cap0 ops W l0 m0 w0 c0).mono fun e W' ⟨he, bel⟩ => ?_
  subst he
  exact ⟨_, rfl, _, _, _, [], _, [], hW', trodAll_mk1 (shut_bool Try.underlying4 _), (trodAll_cons_mk (Below.trod laidOut (by kernel_rfl) (of_decide_eq_true (by kernel_rfl)) k0 bel lt0) trodAll_mk0), rfl, bel.frame _, fun h => by cases h⟩

theorem over : Rows.propHistoryVersionIsNewestAtOrBeforeRow.holds Try.pinned (OpenSpec.ofChange Rows.propHistoryVersionIsNewestAtOrBeforeSpec) :=
  OpenClaim.holds_of_wide 3 Try.f3 rfl rfl rfl rfl rfl rfl rfl ⟨rfl, rfl, rfl, rfl, rfl⟩ rfl rfl rfl rfl rfl (by kernel_rfl) Try.func3 closed
    (of_decide_eq_true (by kernel_rfl)) (by unfold Func.isWrapper; first | (rw [if_pos (by decide +kernel)]; kernel_rfl) | (rw [if_neg (by decide +kernel)]; exact ⟨rfl, rfl⟩))
    (fun os started H enc _ => lifted os started H enc)

/-- ████ THE STATEMENT ████ -/
theorem proved : Rows.PropHistoryVersionIsNewestAtOrBeforeSaid := over
end Go.Proofs.Qxb6003819a.propHistoryVersionIsNewestAtOrBefore
