import Derived.Test.Qxb6618981aModsMovA
namespace Go.Proofs.Qxb6618981aMods
open Go.RowKit

/-- What is known of the world once the three entries are laid: w has only grown; the entries' versions stand in the three blocks. -/
structure Laid (w W : World) (a1 a2 a3 : ByteArray) : Prop where
  grown : Grown w W
  size : w.heap.size + 1 + 1 < W.heap.size
  c1 : W.cell? ⟨w.heap.size, 1, none⟩ = some (.string a1)
  c2 : W.cell? ⟨w.heap.size + 1, 1, none⟩ = some (.string a2)
  c3 : W.cell? ⟨w.heap.size + 1 + 1, 1, none⟩ = some (.string a3)

theorem Laid.next {w W W' : World} {a1 a2 a3 : ByteArray} (h : Laid w W a1 a2 a3) (hg : Grown w W') (hb : Below W.heap.size W W') : Laid w W' a1 a2 a3 := by
  have hs := h.size
  refine ⟨hg, Nat.lt_of_lt_of_le h.size hb.size, ?_, ?_, ?_⟩
  · rw [hb.cell (show w.heap.size < W.heap.size by omega)]; exact h.c1
  · rw [hb.cell (show w.heap.size + 1 < W.heap.size by omega)]; exact h.c2
  · rw [hb.cell (show w.heap.size + 1 + 1 < W.heap.size by omega)]; exact h.c3

theorem new_cell (u : World) (a b c d : Value) (t : TypeId) : (u.alloc (.cells #[a, b, c, d] t)).cell? ⟨u.heap.size, 1, none⟩ = some b := by simp

theorem laid_three (w : World) (a0 a1 a2 a3 x y z : ByteArray) (s : Value) :
    Laid w (((w.alloc (.cells #[.string a0, .string a1, .string x, s] 26)).alloc (.cells #[.string a0, .string a2, .string y, s] 26)).alloc (.cells #[.string a0, .string a3, .string z, s] 26)) a1 a2 a3 := by
  refine ⟨((Grown.refl w).alloc _ _).alloc _ _ |>.alloc _ _, by simp, ?_, ?_, ?_⟩
  · rw [World.cell?_alloc_past _ _ _ (by simp; omega), World.cell?_alloc_past _ _ _ (by simp)]
    simp
  · rw [World.cell?_alloc_past _ _ _ (by simp)]
    have e : (w.alloc (.cells #[.string a0, .string a1, .string x, s] 26)).heap.size = w.heap.size + 1 := by simp
    have h := new_cell (w.alloc (.cells #[.string a0, .string a1, .string x, s] 26)) (.string a0) (.string a2) (.string y) s 26
    rw [e] at h
    exact h
  · have e : ((w.alloc (.cells #[.string a0, .string a1, .string x, s] 26)).alloc (.cells #[.string a0, .string a2, .string y, s] 26)).heap.size = w.heap.size + 1 + 1 := by simp
    have h := new_cell ((w.alloc (.cells #[.string a0, .string a1, .string x, s] 26)).alloc (.cells #[.string a0, .string a2, .string y, s] 26)) (.string a0) (.string a3) (.string z) s 26
    rw [e] at h
    exact h

set_option maxHeartbeats 3200000 in
set_option maxRecDepth 1000000 in
theorem main_in (a0 a1 a2 a3 : ByteArray) (b1 b2 b3 : Bool) (w : World) (h0 : a0.size ≤ 262144) (h1 : a1.size ≤ 262144) (h2 : a2.size ≤ 262144) (h3 : a3.size ≤ 262144)
    (e1 : (a1.toList == a2.toList) = b1) (e2 : (a2.toList == a3.toList) = b2) (e3 : (a1.toList == a3.toList) = b3) (hb : (b3 || !b1 || !b2) = true) :
    Calls Trym.prog 3 #[.string a0, .string a1, .string a2, .string a3] w fun e w' => e = .returned (.bool true) ∧ Grown w w' := by
  have g0 : ¬ (262144 : Int) < (a0.size : Int) := by omega
  have g1 : ¬ (262144 : Int) < (a1.size : Int) := by omega
  have g2 : ¬ (262144 : Int) < (a2.size : Int) := by omega
  have g3 : ¬ (262144 : Int) < (a3.size : Int) := by omega
  have HB : Hid ((b3 || !b1 || !b2) = true) := hb
  clear hb
  go_enter Trym.func3, Trym.ntmps3
  go_wp2_with (go_at_call 4; refine (bytes _ _ _ _ _).mono ?_; rintro e w' ⟨b, rfl, rfl⟩; cases b)
  · go_ret
    exact ⟨rfl, Grown.refl _⟩
  · have L := laid_three w a0 a1 a2 a3 { data := #[112, 107, 103, 115, 47, 97] } { data := #[112, 107, 103, 115, 47, 98] } { data := #[112, 107, 103, 115, 47, 99] } (.slice none 0 0)
    have hs := L.size
    refine (moved a0 a1 a2 w.heap.size (w.heap.size + 1) _ w L.grown (by omega) (by omega) L.c1 L.c2).mono ?_
    rintro e w1 ⟨rfl, hG, hB⟩
    have L1 := L.next hG hB
    clear L hG hB hs
    have hs := L1.size
    go_wp2_with fail
    refine (moved a0 a2 a3 (w.heap.size + 1) (w.heap.size + 1 + 1) _ w L1.grown (by omega) (by omega) L1.c2 L1.c3).mono ?_
    rintro e w2 ⟨rfl, hG, hB⟩
    have L2 := L1.next hG hB
    clear L1 hG hB hs
    have hs := L2.size
    go_wp2_with fail
    refine (moved a0 a1 a3 w.heap.size (w.heap.size + 1 + 1) _ w L2.grown (by omega) (by omega) L2.c1 L2.c3).mono ?_
    rintro e w3 ⟨rfl, hG, hB⟩
    have L3 := L2.next hG hB
    clear L2 hG hB hs
    have hs := L3.size
    go_wp2_with fail
    refine (moved a0 a1 a1 w.heap.size w.heap.size _ w L3.grown (by omega) (by omega) L3.c1 L3.c1).mono ?_
    rintro e w4 ⟨rfl, hG, hB⟩
    clear L3 hB hs
    go_wp2_with fail
    · go_ret
      exact ⟨rfl, hG⟩
    · go_ret
      have x3 : ¬ b3 = true := by assumption
      have x1 : b1 = true := by assumption
      have x2 := HB.out
      have y : b2 = false := by cases b2 <;> simp_all
      exact ⟨by simp [y], hG⟩
    · go_ret
      exact ⟨rfl, hG⟩

set_option maxHeartbeats 3200000 in
theorem main_out (a0 a1 a2 a3 : ByteArray) (w : World) (h : ¬ (a0.size ≤ 262144 ∧ a1.size ≤ 262144 ∧ a2.size ≤ 262144 ∧ a3.size ≤ 262144)) :
    Calls Trym.prog 3 #[.string a0, .string a1, .string a2, .string a3] w fun e w' => e = .returned (.bool true) ∧ Grown w w' := by
  by_cases g0 : (262144 : Int) < (a0.size : Int)
  · clear h
    go_enter Trym.func3, Trym.ntmps3
    go_wp2_with (go_at_call 4; refine (bytes _ _ _ _ _).mono ?_; rintro e w' ⟨b, rfl, rfl⟩; cases b)
    all_goals (go_ret; exact ⟨rfl, Grown.refl _⟩)
  · by_cases g1 : (262144 : Int) < (a1.size : Int)
    · clear h
      go_enter Trym.func3, Trym.ntmps3
      go_wp2_with (go_at_call 4; refine (bytes _ _ _ _ _).mono ?_; rintro e w' ⟨b, rfl, rfl⟩; cases b)
      all_goals (go_ret; exact ⟨rfl, Grown.refl _⟩)
    · by_cases g2 : (262144 : Int) < (a2.size : Int)
      · clear h
        go_enter Trym.func3, Trym.ntmps3
        go_wp2_with (go_at_call 4; refine (bytes _ _ _ _ _).mono ?_; rintro e w' ⟨b, rfl, rfl⟩; cases b)
        all_goals (go_ret; exact ⟨rfl, Grown.refl _⟩)
      · have g3 : (262144 : Int) < (a3.size : Int) := by omega
        clear h
        go_enter Trym.func3, Trym.ntmps3
        go_wp2_with (go_at_call 4; refine (bytes _ _ _ _ _).mono ?_; rintro e w' ⟨b, rfl, rfl⟩; cases b)
        all_goals (go_ret; exact ⟨rfl, Grown.refl _⟩)
end Go.Proofs.Qxb6618981aMods
