import Derived.Test.Qxb6608631aModsTimA
namespace Go.Proofs.Qxb6608631aMods
open Go.RowKit

theorem main_in (t : Int) (ht : -9223372036854775808 ≤ t ∧ t ≤ 9223372036854775807) (w : World) :
    Calls Trym.prog 3 #[.int .i64 t] w fun e w' => e = .returned (.bool true) ∧ w = w' := by
  have f := floorDiv t ht
  obtain ⟨q, hq⟩ : ∃ q, q = t / 86400 := ⟨_, rfl⟩
  rw [← hq] at f
  have hr : wrap64 (t - wrap64 (q * 86400)) = t % 86400 := by unfold wrap64; omega
  obtain ⟨r, hr'⟩ : ∃ r, r = t % 86400 := ⟨_, rfl⟩
  rw [← hr'] at hr
  have hr0 : 0 ≤ r := by omega
  have hr1 : r < 86400 := by omega
  have E2 : Hid (wrap64 (q * 86400 + 0 * 3600 + 0 * 60 + r) = t) := by show _ = _; unfold wrap64; omega
  have E1 : Hid (wrap64 (q * 86400 + r / 3600 * 3600 + r % 3600 / 60 * 60 + r % 60) = t) := by show _ = _; unfold wrap64; omega
  clear hq hr' ht
  go_enter Trym.func3, Trym.ntmps3
  go_wp2_with (go_at_call 4; refine (f _).mono ?_; rintro e w' ⟨rfl, rfl⟩)
  refine (newTime t q (r / 3600) (r % 3600 / 60) (r % 60) E1 _).mono ?_
  rintro e w' ⟨rfl, rfl⟩
  go_wp2_with fail
  refine (newTime t q 0 0 r E2 _).mono ?_
  rintro e w' ⟨rfl, rfl⟩
  go_wp2_with fail
  go_ret
  exact ⟨rfl, rfl⟩
end Go.Proofs.Qxb6608631aMods
