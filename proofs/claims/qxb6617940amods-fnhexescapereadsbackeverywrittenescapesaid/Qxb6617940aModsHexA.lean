import Derived.Test.Qxb6617940aModsRows
import Derived.WalkKit
namespace Go.Proofs.Qxb6617940aMods
open Go.RowKit

theorem hex_short (a : Option Addr) (len cap : Nat) (w : World) (h : len < 6) :
    Calls Trym.prog 16 #[.slice a len cap] w fun e w' => e = .returned (.int .i32 (-1)) ∧ w' = w := by
  have h' : (len : Int) < 6 := by omega
  go_enter Trym.func16, Trym.ntmps16
  go_wp2
  go_ret
  exact ⟨rfl, rfl⟩

theorem hex_bad (b len cap : Nat) (x0 x1 : Int) (w : World) (h : 6 ≤ len) (h0 : w.cell? ⟨b, 0, none⟩ = some (.int .u8 x0)) (h1 : w.cell? ⟨b, 1, none⟩ = some (.int .u8 x1)) (hx : (x1 == 117) = false) :
    Calls Trym.prog 16 #[.slice (some ⟨b, 0, none⟩) len cap] w fun e w' => e = .returned (.int .i32 (-1)) ∧ w' = w := by
  have h' : ¬ (len : Int) < 6 := by omega
  have hp : (0 : Int) < (len : Int) := by omega
  have hp1 : (1 : Int) < (len : Int) := by omega
  go_enter Trym.func16, Trym.ntmps16
  go_wp2
  all_goals go_ret
  all_goals exact ⟨rfl, rfl⟩
end Go.Proofs.Qxb6617940aMods
