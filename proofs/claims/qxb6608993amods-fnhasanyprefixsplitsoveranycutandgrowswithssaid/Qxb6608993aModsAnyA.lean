import Derived.Test.Qxb6608993aModsRows
import Derived.WalkKit
import Derived.WalkSpells
import Derived.LoopTactic
namespace Go.Proofs.Qxb6608993aMods
open Go.RowKit

/-- s begins with p. -/
def hp (s p : ByteArray) : Bool := decide (p.size ≤ s.size) && ((s.extract 0 p.size).toList == p.toList)

theorem hp_lite (s p : ByteArray) (w : World) :
    Calls Trym.prog 9 #[.string s, .string p] w fun e w' => e = .returned (.bool (hp s p)) ∧ w = w' := by
  by_cases h : (p.size : Int) ≤ (s.size : Int)
  · have h' : p.size ≤ s.size := by omega
    have e : hp s p = ((s.extract 0 p.size).toList == p.toList) := by simp [hp, h']
    rw [e]
    go_enter Trym.func9, Trym.ntmps9
    go_wp2
    go_ret
    exact ⟨rfl, rfl⟩
  · have h' : ¬ p.size ≤ s.size := by omega
    have e : hp s p = false := by simp [hp]; omega
    rw [e]
    go_enter Trym.func9, Trym.ntmps9
    go_wp2
    go_ret
    exact ⟨rfl, rfl⟩

theorem hp_str (s p : ByteArray) (w : World) :
    Calls Trym.prog 8 #[.string s, .string p] w fun e w' => e = .returned (.bool (hp s p)) ∧ w = w' := by
  go_enter Trym.func8, Trym.ntmps8
  go_wp2_with (go_at_call 9; refine (hp_lite s p _).mono ?_; rintro e w' ⟨rfl, rfl⟩)
  go_ret
  exact ⟨rfl, rfl⟩

theorem any_none (s : ByteArray) (ao : Option Addr) (cap : Nat) (w : World) :
    Calls Trym.prog 7 #[.string s, .slice ao 0 cap] w fun e w' => e = .returned (.bool false) ∧ w = w' := by
  go_enter Trym.func7, Trym.ntmps7
  go_wp2_with fail
  refine wp_loop_rounds 1 ?_
  rw [rounds_succ]
  go_wp2_with fail
  go_ret
  exact ⟨rfl, rfl⟩

theorem any_row (s : ByteArray) (b off len cap : Nat) (L : List ByteArray) (w : World) (hL : L.length = len) (hm : len ≤ 1048576) (hc : ∀ j, j < len → w.cell? ⟨b, off + j, none⟩ = some (.string (L.getD j ByteArray.empty))) :
    Calls Trym.prog 7 #[.string s, .slice (some ⟨b, off, none⟩) len cap] w fun e w' => e = .returned (.bool (L.any (hp s))) ∧ w = w' := by
  have HC : Hid (∀ j, j < len → w.cell? ⟨b, off + j, none⟩ = some (.string (L.getD j ByteArray.empty))) := hc
  have HL : Hid (L.length = len) := hL
  clear hc hL
  go_enter Trym.func7, Trym.ntmps7
  go_wp2_with fail
  go_loop [9] (fun i => ∃ k : Nat, k ≤ len ∧ i = .int .i64 k ∧ (L.take k).any (hp s) = false) (fun i => len - (intOf i).toNat)
  case atStart => exact ⟨0, Nat.zero_le _, rfl, by simp⟩
  case round =>
    obtain ⟨k, hk, rfl, hno⟩ := hrel
    have HN : Hid ((L.take k).any (hp s) = false) := hno
    clear hno
    by_cases hkl : k < len
    · have hcell := HC.out k hkl
      have hkI : (k : Int) < (len : Int) := by omega
      have hLk : L.take (k + 1) = L.take k ++ [L.getD k ByteArray.empty] := by
        have := HL.out
        rw [List.take_add_one]
        simp [List.getD, show k < L.length by omega]
      have HK : Hid (L.take (k + 1) = L.take k ++ [L.getD k ByteArray.empty]) := hLk
      clear hLk
      generalize hx : L.getD k ByteArray.empty = x at hcell HK
      clear hx
      cases hh : hp s x
      · go_wp2_with (go_at_call 8; refine (hp_str s x _).mono ?_; rintro e w' ⟨rfl, rfl⟩)
        go_round
        case rel => exact ⟨k + 1, by omega, by go_num, by rw [HK.out, List.any_append, HN.out]; simp [hh]⟩
        case measure => simp [intOf]; omega
      · have hany : L.any (hp s) = true := by
          have e : L = L.take (k + 1) ++ L.drop (k + 1) := (List.take_append_drop _ _).symm
          rw [e, List.any_append, HK.out, List.any_append]
          simp [hh]
        go_wp2_with (go_at_call 8; refine (hp_str s x _).mono ?_; rintro e w' ⟨rfl, rfl⟩)
        go_ret
        exact ⟨by first | rfl | (rw [hany]; rfl), rfl⟩
    · have hke : k = len := by omega
      have hany : L.any (hp s) = false := by
        have e := HN.out
        rw [hke, ← HL.out, List.take_length] at e
        exact e
      have hkI : ¬ (k : Int) < (len : Int) := by omega
      clear hke
      go_wp2_with fail
      go_ret
      exact ⟨by first | rfl | (rw [hany]; rfl), rfl⟩

/-- 'hasAnyPrefix' over a row of strings, empty or not. -/
theorem any_all (s : ByteArray) (ao : Option Addr) (b off len cap : Nat) (L : List ByteArray) (w : World) (hL : L.length = len) (hm : len ≤ 1048576) (hao : 0 < len → ao = some ⟨b, off, none⟩)
    (hc : ∀ j, j < len → w.cell? ⟨b, off + j, none⟩ = some (.string (L.getD j ByteArray.empty))) :
    Calls Trym.prog 6 #[.string s, .slice ao len cap] w fun e w' => e = .returned (.bool (L.any (hp s))) ∧ w = w' := by
  by_cases h0 : len = 0
  · subst h0
    obtain rfl : L = [] := List.eq_nil_of_length_eq_zero hL
    clear hc hao
    go_enter Trym.func6, Trym.ntmps6
    go_wp2_with (go_at_call 7; refine (any_none s ao cap _).mono ?_; rintro e w' ⟨rfl, rfl⟩)
    go_ret
    exact ⟨rfl, rfl⟩
  · obtain rfl := hao (by omega)
    have f := fun wx h => any_row s b off len cap L wx hL hm h
    have HC : Hid (∀ j, j < len → w.cell? ⟨b, off + j, none⟩ = some (.string (L.getD j ByteArray.empty))) := hc
    clear hc hao
    go_enter Trym.func6, Trym.ntmps6
    go_wp2_with (go_at_call 7; refine (f _ HC.out).mono ?_; rintro e w' ⟨rfl, rfl⟩)
    go_ret
    exact ⟨rfl, rfl⟩
end Go.Proofs.Qxb6608993aMods
