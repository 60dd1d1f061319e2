import Derived.Test.Qxb6608993aModsAnyA
namespace Go.Proofs.Qxb6608993aMods
open Go.RowKit

/-- A bool comes back. -/
def Answers (e : Ending) : Prop := ∃ b : Bool, e = .returned (.bool b)

/-- 'zzBytes_..' answers something and turns nothing. -/
theorem bytes_none (s t : ByteArray) (ao : Option Addr) (cap : Nat) (k : Int) (w : World) :
    Calls Trym.prog 4 #[.string s, .string t, .slice ao 0 cap, .int .i64 k] w fun e w' => Answers e ∧ w = w' := by
  go_enter Trym.func4, Trym.ntmps4
  go_wp2_with fail
  iterate 3 (· go_ret; exact ⟨⟨_, rfl⟩, rfl⟩)
  refine wp_loop_rounds 1 ?_
  rw [rounds_succ]
  go_wp2_with fail
  go_ret
  exact ⟨⟨_, rfl⟩, rfl⟩

set_option maxHeartbeats 800000 in
theorem bytes_row (s t : ByteArray) (b off len cap : Nat) (k : Int) (L : List ByteArray) (w : World) (hc : ∀ j, j < len → w.cell? ⟨b, off + j, none⟩ = some (.string (L.getD j ByteArray.empty))) :
    Calls Trym.prog 4 #[.string s, .string t, .slice (some ⟨b, off, none⟩) len cap, .int .i64 k] w fun e w' => Answers e ∧ w = w' := by
  have HC : Hid (∀ j, j < len → w.cell? ⟨b, off + j, none⟩ = some (.string (L.getD j ByteArray.empty))) := hc
  clear hc
  go_enter Trym.func4, Trym.ntmps4
  go_wp2_with fail
  iterate 5 (· go_ret; exact ⟨⟨_, rfl⟩, rfl⟩)
  go_loop [9, 10] (fun z i => ∃ (j : Nat) (n : Int), j ≤ len ∧ i = .int .i64 j ∧ z = .int .i64 n) (fun _ i => len - (intOf i).toNat)
  case atStart => exact ⟨0, _, Nat.zero_le _, rfl, rfl⟩
  case round =>
    obtain ⟨j, n, hj, rfl, rfl⟩ := hrel
    by_cases hjl : j < len
    · have hcell := HC.out j hjl
      have hjI : (j : Int) < (len : Int) := by omega
      generalize L.getD j ByteArray.empty = x at hcell
      go_wp2_with fail
      · go_ret
        exact ⟨⟨_, rfl⟩, rfl⟩
      · go_ret
        exact ⟨⟨_, rfl⟩, rfl⟩
      · go_round
        case rel => exact ⟨j + 1, _, by omega, by go_num, rfl⟩
        case measure => simp [intOf]; omega
    · have hjI : ¬ (j : Int) < (len : Int) := by omega
      go_wp2_with fail
      go_ret
      exact ⟨⟨_, rfl⟩, rfl⟩

/-- 'zzPrefixesTooBig' says yes outside the bounds. -/
theorem big_out (s t : ByteArray) (ao : Option Addr) (len cap : Nat) (w : World) (h : ¬ (s.size ≤ 1048576 ∧ t.size ≤ 1048576 ∧ len ≤ 65536)) :
    Calls Trym.prog 5 #[.string s, .string t, .slice ao len cap] w fun e w' => e = .returned (.bool true) ∧ w = w' := by
  by_cases g0 : (1048576 : Int) < (s.size : Int)
  · clear h
    go_enter Trym.func5, Trym.ntmps5
    go_wp2_with fail
    go_ret
    exact ⟨rfl, rfl⟩
  · by_cases g1 : (1048576 : Int) < (t.size : Int)
    · clear h
      go_enter Trym.func5, Trym.ntmps5
      go_wp2_with fail
      go_ret
      exact ⟨rfl, rfl⟩
    · have g2 : (65536 : Int) < (len : Int) := by omega
      clear h
      go_enter Trym.func5, Trym.ntmps5
      go_wp2_with fail
      go_ret
      exact ⟨rfl, rfl⟩

theorem big_none (s t : ByteArray) (ao : Option Addr) (cap : Nat) (w : World) (h0 : s.size ≤ 1048576) (h1 : t.size ≤ 1048576) :
    Calls Trym.prog 5 #[.string s, .string t, .slice ao 0 cap] w fun e w' => Answers e ∧ w = w' := by
  have g0 : ¬ (1048576 : Int) < (s.size : Int) := by omega
  have g1 : ¬ (1048576 : Int) < (t.size : Int) := by omega
  go_enter Trym.func5, Trym.ntmps5
  go_wp2_with fail
  · go_ret; exact ⟨⟨_, rfl⟩, rfl⟩
  refine wp_loop_rounds 1 ?_
  rw [rounds_succ]
  go_wp2_with fail
  go_ret
  exact ⟨⟨_, rfl⟩, rfl⟩

set_option maxHeartbeats 800000 in
theorem big_row (s t : ByteArray) (b off len cap : Nat) (L : List ByteArray) (w : World) (h0 : s.size ≤ 1048576) (h1 : t.size ≤ 1048576) (h2 : len ≤ 65536) (hc : ∀ j, j < len → w.cell? ⟨b, off + j, none⟩ = some (.string (L.getD j ByteArray.empty))) :
    Calls Trym.prog 5 #[.string s, .string t, .slice (some ⟨b, off, none⟩) len cap] w fun e w' => Answers e ∧ w = w' := by
  have HC : Hid (∀ j, j < len → w.cell? ⟨b, off + j, none⟩ = some (.string (L.getD j ByteArray.empty))) := hc
  clear hc
  have g0 : ¬ (1048576 : Int) < (s.size : Int) := by omega
  have g1 : ¬ (1048576 : Int) < (t.size : Int) := by omega
  have g2 : ¬ (65536 : Int) < (len : Int) := by omega
  go_enter Trym.func5, Trym.ntmps5
  go_wp2_with fail
  · go_ret; exact ⟨⟨_, rfl⟩, rfl⟩
  go_loop [7, 8] (fun z i => ∃ (j : Nat) (n : Int), j ≤ len ∧ i = .int .i64 j ∧ z = .int .i64 n) (fun _ i => len - (intOf i).toNat)
  case atStart => exact ⟨0, _, Nat.zero_le _, rfl, rfl⟩
  case round =>
    obtain ⟨j, n, hj, rfl, rfl⟩ := hrel
    by_cases hjl : j < len
    · have hcell := HC.out j hjl
      have hjI : (j : Int) < (len : Int) := by omega
      generalize L.getD j ByteArray.empty = x at hcell
      go_wp2_with fail
      · go_ret
        exact ⟨⟨_, rfl⟩, rfl⟩
      · go_round
        case rel => exact ⟨j + 1, _, by omega, by go_num, rfl⟩
        case measure => simp [intOf]; omega
    · have hjI : ¬ (j : Int) < (len : Int) := by omega
      go_wp2_with fail
      go_ret
      exact ⟨⟨_, rfl⟩, rfl⟩
end Go.Proofs.Qxb6608993aMods
