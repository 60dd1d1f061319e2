import Derived.Test.Qxb6608631aModsRows
import Derived.WalkKit
namespace Go.Proofs.Qxb6608631aMods
open Go.RowKit

theorem wrap_nest (a b c s : Int) : wrap64 (wrap64 (wrap64 (wrap64 a + wrap64 b) + wrap64 c) + s) = wrap64 (a + b + c + s) := by
  have h1 : ∀ x y : Int, wrap64 (wrap64 x + wrap64 y) = wrap64 (x + y) := fun x y => by unfold wrap64; omega
  have h2 : ∀ x y : Int, wrap64 (wrap64 x + y) = wrap64 (x + y) := fun x y => by unfold wrap64; omega
  rw [h1 a b, h1 (a + b) c, h2]

theorem newTime (t d h m s : Int) (H : Hid (wrap64 (d * 86400 + h * 3600 + m * 60 + s) = t)) (w : World) :
    Calls Trym.prog 5 #[.int .i64 d, .int .i64 h, .int .i64 m, .int .i64 s] w fun e w' => e = .returned (.int .i64 t) ∧ w = w' := by
  go_enter Trym.func5, Trym.ntmps5
  go_wp2
  go_ret
  refine ⟨?_, rfl⟩
  show Ending.returned (.int .i64 (wrap64 (wrap64 (wrap64 (wrap64 (d * 86400) + wrap64 (h * 3600)) + wrap64 (m * 60)) + s))) = _
  rw [wrap_nest, H.out]

theorem tdiv_neg (t : Int) (h : ¬ t.tmod 86400 = 0) (hn : t < 0) : t.tdiv 86400 - 1 = t / 86400 := by
  rw [Int.tdiv_eq_ediv]
  rw [Int.tmod_eq_emod] at h
  have hd : ¬ (86400 : Int) ∣ t := by
    intro hd
    have := Int.emod_eq_zero_of_dvd hd
    simp [hd, this] at h
  have e : (86400 : Int).sign = 1 := by decide
  simp [hd, show ¬ 0 ≤ t by omega, e]

theorem tdiv_zero (t : Int) (h : t.tmod 86400 = 0) : t.tdiv 86400 = t / 86400 := by
  rw [Int.tdiv_eq_ediv]
  have hd : (86400 : Int) ∣ t := Int.dvd_of_tmod_eq_zero h
  simp [hd]

theorem tdiv_pos (t : Int) (h : 0 ≤ t) : t.tdiv 86400 = t / 86400 := by
  rw [Int.tdiv_eq_ediv]; simp [h]

theorem floorDiv (t : Int) (ht : -9223372036854775808 ≤ t ∧ t ≤ 9223372036854775807) (w : World) :
    Calls Trym.prog 4 #[.int .i64 t, .int .i64 86400] w fun e w' => e = .returned (.int .i64 (t / 86400)) ∧ w = w' := by
  go_enter Trym.func4, Trym.ntmps4
  go_wp2
  · go_ret
    refine ⟨?_, rfl⟩
    show Ending.returned (.int .i64 (t.tdiv 86400)) = _
    rw [tdiv_zero t (by assumption)]
  · go_ret
    refine ⟨?_, rfl⟩
    have h1 : ¬ t.tmod 86400 = 0 := by assumption
    have h2 : (t.tmod 86400 != 0) = true ∧ t < 0 := by assumption
    show Ending.returned (.int .i64 (wrap64 (t.tdiv 86400 - 1))) = _
    rw [tdiv_neg t h1 h2.2]
    have e : wrap64 (t / 86400) = t / 86400 := by unfold wrap64; omega
    rw [e]
  · go_ret
    refine ⟨?_, rfl⟩
    have h1 : ¬ t.tmod 86400 = 0 := by assumption
    have h2 : (t.tmod 86400 != 0) = false ∨ 0 ≤ t := by assumption
    have h3 : 0 ≤ t := by
      rcases h2 with h2 | h2
      · simp at h2; exact absurd h2 h1
      · exact h2
    show Ending.returned (.int .i64 (t.tdiv 86400)) = _
    rw [tdiv_pos t h3]
end Go.Proofs.Qxb6608631aMods
