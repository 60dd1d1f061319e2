import Derived.Test.Qxb6617940aModsHexA
import Derived.Test.Qxb6617940aModsHexP
import Derived.LoopTactic
namespace Go.Proofs.Qxb6617940aMods
open Go.RowKit

set_option maxHeartbeats 800000 in
theorem hex_good (b len cap : Nat) (c : Int) (f : Nat → Int) (w : World) (h : 6 ≤ len) (hlc : len ≤ cap) (hc : 0 ≤ c ∧ c ≤ 65535) (h0 : w.cell? ⟨b, 0, none⟩ = some (.int .u8 92)) (h1 : w.cell? ⟨b, 1, none⟩ = some (.int .u8 117))
    (hf : ∀ k, k < 4 → w.cell? ⟨b, 2 + k, none⟩ = some (.int .u8 (f k))) (hd : ∀ k, k < 4 → IsDig (f k) (dig c k)) :
    Calls Trym.prog 16 #[.slice (some ⟨b, 0, none⟩) len cap] w fun e w' => e = .returned (.int .i32 c) ∧ w' = w := by
  have h' : ¬ (len : Int) < 6 := by omega
  have hp : (0 : Int) < (len : Int) := by omega
  have hp1 : (1 : Int) < (len : Int) := by omega
  have hcap : ¬ cap = 2 := by omega
  have hcap6 : 6 ≤ cap := by omega
  go_enter Trym.func16, Trym.ntmps16
  go_wp2
  go_loop [3, 24] (fun t i => ∃ k : Nat, k ≤ 4 ∧ i = .int .i64 k ∧ t = .int .i32 (acc c k)) (fun _ i => 4 - (intOf i).toNat)
  case atStart => exact ⟨0, Nat.zero_le _, rfl, rfl⟩
  case round =>
    obtain ⟨k, hk, rfl, rfl⟩ := hrel
    by_cases hk4 : k = 4
    · subst hk4
      go_wp2
      go_ret
      exact ⟨rfl, rfl⟩
    · have hlt : k < 4 := by omega
      have hcell := hf k hlt
      have hdk : Hid (IsDig (f k) (dig c k)) := hd k hlt
      clear hf hd
      generalize f k = x at hcell hdk
      rcases hdk.out with ⟨g1, g2, g3⟩ | ⟨g1, g2, g3⟩ | ⟨g1, g2, g3⟩
      · have G3 : Hid (x - 48 = dig c k) := g3
        clear g3
        go_wp2
        go_round
        case rel => exact ⟨k + 1, by omega, by go_num, by rw [step_digit c _ k hlt hc G3.out]⟩
        case measure => simp [intOf]; omega
      · have G3 : Hid (x - 87 = dig c k) := g3
        have g4 : ¬ x ≤ 57 := by omega
        clear g3
        go_wp2
        go_round
        case rel => exact ⟨k + 1, by omega, by go_num, by rw [step_digit c _ k hlt hc G3.out]⟩
        case measure => simp [intOf]; omega
      · have G3 : Hid (x - 55 = dig c k) := g3
        have g4 : ¬ x ≤ 57 := by omega
        have g5 : ¬ 97 ≤ x := by omega
        clear g3
        go_wp2
        go_round
        case rel => exact ⟨k + 1, by omega, by go_num, by rw [step_digit c _ k hlt hc G3.out]⟩
        case measure => simp [intOf]; omega
end Go.Proofs.Qxb6617940aMods
