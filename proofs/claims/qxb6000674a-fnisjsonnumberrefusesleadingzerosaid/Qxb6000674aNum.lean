import Derived.Test.Qxb6000674aRows
import Derived.WalkKit
import Derived.WalkSpells
import Derived.WalkLawsBesides
import Derived.Deep.OwnRows
namespace Go.Proofs.Qxb6000674a
open Go.RowKit

set_option maxHeartbeats 400000 in
/-- '0d..': no number. -/
theorem num_plain (t : ByteArray) (w : World) (h2 : 2 ≤ t.size) (hs : t.size ≤ 1048600) (h0 : t[0].toNat = 48) (h1 : 48 ≤ t[1].toNat) (h1' : t[1].toNat ≤ 57) :
    Calls Try.prog 29 #[.string t] w fun e w' => e = .returned (.bool false) ∧ w' = w := by
  have a1 : ((t[0].toNat : Int) == 45) = false := by simp; omega
  have a2 : ((t[0].toNat : Int) == 48) = true := by simp; omega
  have a3 : ((t[1].toNat : Int) == 46) = false := by simp; omega
  have a4 : ((t[1].toNat : Int) == 101) = false := by simp; omega
  have a5 : ((t[1].toNat : Int) == 69) = false := by simp; omega
  have a6 : ((1 : Int) == (t.size : Int)) = false := by simp; omega
  have l0 : (0 : Int) < (t.size : Int) := by omega
  have l1 : (1 : Int) < (t.size : Int) := by omega
  clear h0 h1 h1'
  go_enter Try.func29, Try.ntmps29
  go_wp2
  go_ret
  exact ⟨rfl, rfl⟩

set_option maxHeartbeats 400000 in
/-- '-0d..': no number. -/
theorem num_minus (t : ByteArray) (w : World) (h2 : 3 ≤ t.size) (hs : t.size ≤ 1048600) (hm : t[0].toNat = 45) (h0 : t[1].toNat = 48) (h1 : 48 ≤ t[2].toNat) (h1' : t[2].toNat ≤ 57) :
    Calls Try.prog 29 #[.string t] w fun e w' => e = .returned (.bool false) ∧ w' = w := by
  have a1 : ((t[0].toNat : Int) == 45) = true := by simp; omega
  have a2 : ((t[1].toNat : Int) == 48) = true := by simp; omega
  have a3 : ((t[2].toNat : Int) == 46) = false := by simp; omega
  have a4 : ((t[2].toNat : Int) == 101) = false := by simp; omega
  have a5 : ((t[2].toNat : Int) == 69) = false := by simp; omega
  have a6 : ((2 : Int) == (t.size : Int)) = false := by simp; omega
  have l0 : (0 : Int) < (t.size : Int) := by omega
  have l1 : (1 : Int) < (t.size : Int) := by omega
  have l2 : (2 : Int) < (t.size : Int) := by omega
  clear h0 h1 h1' hm
  go_enter Try.func29, Try.ntmps29
  go_wp2
  go_ret
  exact ⟨rfl, rfl⟩

theorem zz_plain (t : ByteArray) (w : World) (h2 : 2 ≤ t.size) (hs : t.size ≤ 1048600) (h0 : t[0].toNat = 48) (h1 : 48 ≤ t[1].toNat) (h1' : t[1].toNat ≤ 57) :
    Calls Try.prog 13 #[.string t] w fun e w' => e = .returned (.bool false) ∧ w' = w := by
  have H := num_plain t w h2 hs h0 h1 h1'
  clear h0 h1 h1'
  go_enter Try.func13, Try.ntmps13
  go_wp2_with (go_at_call 29; refine H.mono ?_; rintro e w' ⟨rfl, rfl⟩)
  go_ret
  exact ⟨rfl, rfl⟩

theorem zz_minus (t : ByteArray) (w : World) (h2 : 3 ≤ t.size) (hs : t.size ≤ 1048600) (hm : t[0].toNat = 45) (h0 : t[1].toNat = 48) (h1 : 48 ≤ t[2].toNat) (h1' : t[2].toNat ≤ 57) :
    Calls Try.prog 13 #[.string t] w fun e w' => e = .returned (.bool false) ∧ w' = w := by
  have H := num_minus t w h2 hs hm h0 h1 h1'
  clear h0 h1 h1' hm
  go_enter Try.func13, Try.ntmps13
  go_wp2_with (go_at_call 29; refine H.mono ?_; rintro e w' ⟨rfl, rfl⟩)
  go_ret
  exact ⟨rfl, rfl⟩
end Go.Proofs.Qxb6000674a
