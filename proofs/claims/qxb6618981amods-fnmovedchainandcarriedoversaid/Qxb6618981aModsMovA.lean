import Derived.Test.Qxb6618981aModsRows
import Derived.WalkKit
import Derived.Deep.QuietTactic
import Derived.BigQuiet
import Derived.WalkSmall
namespace Go.Proofs.Qxb6618981aMods
open Go.RowKit

/-- 'Moved': the two versions are held against each other; the world has one new block (the receiver's) and draws. -/
theorem moved (pk v u : ByteArray) (p q : Nat) (w W0 : World) (hg : Grown W0 w) (hpb : p < w.heap.size) (hqb : q < w.heap.size) (hp : w.cell? ⟨p, 1, none⟩ = some (.string v)) (hq : w.cell? ⟨q, 1, none⟩ = some (.string u)) :
    Calls Trym.prog 5 #[.agg #[.string pk, .pointer (some ⟨p, 0, none⟩), .pointer (some ⟨q, 0, none⟩)]] w fun e w' =>
      e = .returned (.bool !(v.toList == u.toList)) ∧ Grown W0 w' ∧ Below w.heap.size w w' := by
  have hp' : (w.alloc (.cells #[.string pk, .pointer (some ⟨p, 0, none⟩), .pointer (some ⟨q, 0, none⟩)] 28)).cell? ⟨p, 1, none⟩ = some (.string v) := by
    rw [World.cell?_alloc_past _ _ _ hpb]; exact hp
  have hq' : (w.alloc (.cells #[.string pk, .pointer (some ⟨p, 0, none⟩), .pointer (some ⟨q, 0, none⟩)] 28)).cell? ⟨q, 1, none⟩ = some (.string u) := by
    rw [World.cell?_alloc_past _ _ _ hqb]; exact hq
  go_enter Trym.func5, Trym.ntmps5
  go_wp2_with fail
  go_quiet (fail)
  go_wp2
  go_ret
  exact ⟨rfl, hg.alloc _ _, below_drewN ((Below.refl _ _).alloc (Nat.le_refl _) _) _⟩

/-- 'zzBytes_..' answers something and turns nothing. -/
theorem bytes (a0 a1 a2 a3 : ByteArray) (w : World) :
    Calls Trym.prog 4 #[.string a0, .string a1, .string a2, .string a3] w fun e w' => ∃ b : Bool, e = .returned (.bool b) ∧ w = w' := by
  go_enter Trym.func4, Trym.ntmps4
  go_wp2
  all_goals go_ret
  all_goals exact ⟨_, rfl, rfl⟩
end Go.Proofs.Qxb6618981aMods
