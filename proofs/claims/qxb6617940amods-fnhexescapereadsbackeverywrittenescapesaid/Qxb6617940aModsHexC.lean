import Derived.Test.Qxb6617940aModsHexB
namespace Go.Proofs.Qxb6617940aMods
open Go.RowKit

theorem zz_short (a : Option Addr) (len cap : Nat) (w : World) (h : len < 6) :
    Calls Trym.prog 13 #[.slice a len cap] w fun e w' => e = .returned (.int .i32 (-1)) ∧ w' = w := by
  go_enter Trym.func13, Trym.ntmps13
  go_wp2_with (go_at_call 16; refine (hex_short _ _ _ _ h).mono ?_; rintro e w' ⟨rfl, rfl⟩)
  go_ret
  exact ⟨rfl, rfl⟩

theorem zz_bad (b len cap : Nat) (x0 x1 : Int) (w : World) (h : 6 ≤ len) (h0 : w.cell? ⟨b, 0, none⟩ = some (.int .u8 x0)) (h1 : w.cell? ⟨b, 1, none⟩ = some (.int .u8 x1)) (hx : (x1 == 117) = false) :
    Calls Trym.prog 13 #[.slice (some ⟨b, 0, none⟩) len cap] w fun e w' => e = .returned (.int .i32 (-1)) ∧ w' = w := by
  go_enter Trym.func13, Trym.ntmps13
  go_wp2_with (go_at_call 16; refine (hex_bad b len cap x0 x1 _ h h0 h1 hx).mono ?_; rintro e w' ⟨rfl, rfl⟩)
  go_ret
  exact ⟨rfl, rfl⟩

theorem zz_good (b len cap : Nat) (c : Int) (f : Nat → Int) (w : World) (h : 6 ≤ len) (hlc : len ≤ cap) (hc : 0 ≤ c ∧ c ≤ 65535) (h0 : w.cell? ⟨b, 0, none⟩ = some (.int .u8 92)) (h1 : w.cell? ⟨b, 1, none⟩ = some (.int .u8 117))
    (hf : ∀ k, k < 4 → w.cell? ⟨b, 2 + k, none⟩ = some (.int .u8 (f k))) (hd : ∀ k, k < 4 → IsDig (f k) (dig c k)) :
    Calls Trym.prog 13 #[.slice (some ⟨b, 0, none⟩) len cap] w fun e w' => e = .returned (.int .i32 c) ∧ w' = w := by
  go_enter Trym.func13, Trym.ntmps13
  go_wp2_with (go_at_call 16; refine (hex_good b len cap c f _ h hlc hc h0 h1 hf hd).mono ?_; rintro e w' ⟨rfl, rfl⟩)
  go_ret
  exact ⟨rfl, rfl⟩

theorem sized (c m : Int) (a : Option Addr) (len cap : Nat) (w : World) (h : len ≤ 1048576) :
    Calls Trym.prog 14 #[.int .i32 c, .int .u8 m, .slice a len cap] w fun e w' => e = .returned (.bool true) ∧ w' = w := by
  have h' : ¬ (1048576 : Int) < (len : Int) := by omega
  go_enter Trym.func14, Trym.ntmps14
  go_wp2
  go_ret
  exact ⟨rfl, rfl⟩

theorem unsized (c m : Int) (a : Option Addr) (len cap : Nat) (w : World) (h : ¬ len ≤ 1048576) :
    Calls Trym.prog 14 #[.int .i32 c, .int .u8 m, .slice a len cap] w fun e w' => e = .returned (.bool false) ∧ w' = w := by
  have h' : (1048576 : Int) < (len : Int) := by omega
  go_enter Trym.func14, Trym.ntmps14
  go_wp2
  go_ret
  exact ⟨rfl, rfl⟩

theorem main_big (c m : Int) (a : Option Addr) (len cap : Nat) (w : World) (h : ¬ len ≤ 1048576) :
    Calls Trym.prog 6 #[.int .i32 c, .int .u8 m, .slice a len cap] w fun e w' => e = .returned (.bool true) ∧ w' = w := by
  go_enter Trym.func6, Trym.ntmps6
  go_wp2_with (go_at_call 14; refine (unsized _ _ _ _ _ _ h).mono ?_; rintro e w' ⟨rfl, rfl⟩)
  go_ret
  exact ⟨rfl, rfl⟩

theorem main_out (c m : Int) (a : Option Addr) (len cap : Nat) (w : World) (h : len ≤ 1048576) (hc : ¬ (0 ≤ c ∧ c ≤ 65535)) :
    Calls Trym.prog 6 #[.int .i32 c, .int .u8 m, .slice a len cap] w fun e w' => e = .returned (.bool true) ∧ w' = w := by
  have h' : ¬ (1048576 : Int) < (len : Int) := by omega
  by_cases hc0 : c < 0
  · go_enter Trym.func6, Trym.ntmps6
    go_wp2_with (go_at_call 14; refine (sized _ _ _ _ _ _ h).mono ?_; rintro e w' ⟨rfl, rfl⟩)
    go_ret
    exact ⟨rfl, rfl⟩
  · have hc1 : 65535 < c := by omega
    go_enter Trym.func6, Trym.ntmps6
    go_wp2_with (go_at_call 14; refine (sized _ _ _ _ _ _ h).mono ?_; rintro e w' ⟨rfl, rfl⟩)
    go_ret
    exact ⟨rfl, rfl⟩
end Go.Proofs.Qxb6617940aMods
