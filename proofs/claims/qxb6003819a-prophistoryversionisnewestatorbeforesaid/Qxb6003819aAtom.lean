/-
  atomic.Pointer's Load and Store at *version, by contracts. The conversion between a pointer and the raw pointer asks the world nothing but shapes of blocks: 'askShapes' runs such a term with one answer for every shape and lists the blocks that it asked about.
-/
import Derived.Test.Qxb6003819aRows
import Derived.WalkKit
import Derived.WalkSpells
import Derived.WalkLawsBesides
import Derived.LaidEqlPtr
import Derived.Laws.Externs
import Derived.Lib.Builder
namespace Go.Proofs.Qxb6003819a
open Go.RowKit

def askShapes {α : Type} (P : Program) (o : Option (TypeId × Nat)) : Sem α → Option (α × List Nat)
  | .pure a => some (a, [])
  | .program k => askShapes P o (k P)
  | .shape r k => (askShapes P o (k o)).map (fun x => (x.1, r :: x.2))
  | _ => none
theorem run_of_asked {α : Type} {P : Program} {o : Option (TypeId × Nat)} {w : World} : ∀ {x : Sem α} {a : α} {qs : List Nat}, askShapes P o x = some (a, qs) → (∀ r ∈ qs, w.shape? r = o) → x.run P w = .ok a w
  | .pure b, a, qs, h, _ => by
    simp only [askShapes, Option.some.injEq, Prod.mk.injEq] at h
    rw [h.1]; rfl
  | .program k, a, qs, h, hq => by
    simp only [askShapes] at h
    exact run_of_asked (x := k P) h hq
  | .shape r k, a, qs, h, hq => by
    simp only [askShapes, Option.map_eq_some_iff] at h
    obtain ⟨⟨b, rs⟩, h1, h2⟩ := h
    simp only [Prod.mk.injEq] at h2
    obtain ⟨rfl, rfl⟩ := h2
    have hr := hq r (by simp)
    have := run_of_asked (w := w) (x := k o) h1 (fun r' hr' => hq r' (by simp [hr']))
    show Sem.run P (k (w.shape? r)) w = _
    rw [hr]
    exact this
  | .load .., _, _, h, _ => by simp [askShapes] at h
  | .store .., _, _, h, _ => by simp [askShapes] at h
  | .new .., _, _, h, _ => by simp [askShapes] at h
  | .freeze .., _, _, h, _ => by simp [askShapes] at h
  | .frozen .., _, _, h, _ => by simp [askShapes] at h
  | .getObj .., _, _, h, _ => by simp [askShapes] at h
  | .setObj .., _, _, h, _ => by simp [askShapes] at h
  | .choose .., _, _, h, _ => by simp [askShapes] at h
  | .sys .., _, _, h, _ => by simp [askShapes] at h
  | .mark .., _, _, h, _ => by simp [askShapes] at h
  | .halt .., _, _, h, _ => by simp [askShapes] at h

theorem asked_from (b : Nat) : ∃ qs, askShapes Try.prog (some (82, 5)) (convert 50 33 (.pointer (some ⟨b, 0, none⟩))) = some (.pointer (some ⟨b, 0, none⟩), qs) ∧ ∀ r ∈ qs, r = b := ⟨[b, b], by kernel_rfl, by simp⟩
theorem asked_to (b : Nat) : ∃ qs, askShapes Try.prog (some (82, 5)) (convert 33 50 (.pointer (some ⟨b, 0, none⟩))) = some (.pointer (some ⟨b, 0, none⟩), qs) ∧ ∀ r ∈ qs, r = b := ⟨[b, b], by kernel_rfl, by simp⟩
theorem asked_from_nil : askShapes Try.prog none (convert 50 33 (.pointer none)) = some (.pointer none, []) := by kernel_rfl
theorem asked_to_nil : askShapes Try.prog none (convert 33 50 (.pointer none)) = some (.pointer none, []) := by kernel_rfl

/-- What a pointer to a version may be: nil, or the head of a block of a version's shape. -/
def VPtr (w : World) (p : Option Addr) : Prop := p = none ∨ ∃ b, p = some ⟨b, 0, none⟩ ∧ w.shape? b = some (82, 5)

theorem conv_from {w : World} {p : Option Addr} (h : VPtr w p) : (convert 50 33 (.pointer p)).run Try.prog w = .ok (.pointer p) w := by
  rcases h with rfl | ⟨b, rfl, hs⟩
  · exact run_of_asked asked_from_nil (by simp)
  · obtain ⟨qs, h1, h2⟩ := asked_from b
    exact run_of_asked h1 (fun r hr => by rw [h2 r hr]; exact hs)
theorem conv_to {w : World} {p : Option Addr} (h : VPtr w p) : (convert 33 50 (.pointer p)).run Try.prog w = .ok (.pointer p) w := by
  rcases h with rfl | ⟨b, rfl, hs⟩
  · exact run_of_asked asked_to_nil (by simp)
  · obtain ⟨qs, h1, h2⟩ := asked_to b
    exact run_of_asked h1 (fun r hr => by rw [h2 r hr]; exact hs)
theorem load_entry {w : World} {a : Addr} {p : Option Addr} (h : w.cell? a = some (.pointer p)) : (Extern.Atomic.loadT .ptr #[.pointer (some a)]).run Try.prog w = .ok (.pointer p) w := by
  have e : Extern.Atomic.loadT .ptr #[.pointer (some a)] = (do let x ← asAddr (.pointer (some a)); Extern.Atomic.read .ptr x) := rfl
  rw [e]
  simp [Extern.Atomic.read, asAddr, h]
theorem store_entry {w : World} {a : Addr} {v : Value} {p : Option Addr} (h : w.cell? a = some v) (hf : w.frozen? a = false) : (Extern.Atomic.storeT #[.pointer (some a), .pointer p]).run Try.prog w = .ok (.tuple #[]) (w.setCell a (.pointer p)) := by
  have e : Extern.Atomic.storeT #[.pointer (some a), .pointer p] = (do store (← asAddr (.pointer (some a))) (.pointer p) .atomic; pure Extern.Atomic.none_) := rfl
  rw [e]
  have hs := run_store Try.prog w a (.pointer p) .atomic rfl
  simp [asAddr, hs, h, hf, Extern.Atomic.none_]

set_option maxHeartbeats 1000000 in
theorem atomLoad (b o : Nat) (p : Option Addr) (w : World) (hc : w.cell? ⟨b, o, none⟩ = some (.pointer p)) (hp : VPtr w p) :
    Calls Try.prog 50 #[.pointer (some ⟨b, o, none⟩)] w fun e w' => e = .returned (.pointer p) ∧ w' = w := by
  have hcv := conv_from hp
  have hle := load_entry hc
  go_enter Try.func50, Try.ntmps50
  go_wp2
  rw [run_callFunc_extern Try.func61 (by kernel_rfl) (by kernel_rfl) (by kernel_rfl) (e := Extern.Atomic.loadT .ptr) (by kernel_rfl)]
  rw [hle]
  simp only [Result.andThen]
  rw [Oper.upon_value]
  go_wp2
  go_ret
  exact ⟨rfl, rfl⟩

set_option maxHeartbeats 1000000 in
theorem atomStore (b o : Nat) (p : Option Addr) (v : Value) (w : World) (hc : w.cell? ⟨b, o, none⟩ = some v) (hf : w.frozen? ⟨b, o, none⟩ = false) (hp : VPtr w p) :
    Calls Try.prog 51 #[.pointer (some ⟨b, o, none⟩), .pointer p] w fun e w' => e = .returned (.tuple #[]) ∧ w' = w.setCell ⟨b, o, none⟩ (.pointer p) := by
  have hcv := conv_to hp
  have hse := store_entry (p := p) hc hf
  go_enter Try.func51, Try.ntmps51
  go_wp2
  rw [run_callFunc_extern Try.func62 (by kernel_rfl) (by kernel_rfl) (by kernel_rfl) (e := Extern.Atomic.storeT) (by kernel_rfl)]
  rw [hse]
  simp only [Result.andThen]
  rw [Oper.upon_value]
  go_wp2
  go_end0
  exact ⟨rfl, rfl⟩
end Go.Proofs.Qxb6003819a
