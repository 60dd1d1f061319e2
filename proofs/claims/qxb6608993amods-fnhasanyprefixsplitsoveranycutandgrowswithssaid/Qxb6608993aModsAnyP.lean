import Derived.Test.Qxb6608993aModsAnyB
import Derived.Lib.Strings
namespace Go.Proofs.Qxb6608993aMods
open Go.RowKit

theorem hp_iff (s p : ByteArray) : hp s p = p.data.toList.isPrefixOf s.data.toList := Lib.hasPrefix_raw s p

theorem hp_grows (s t p : ByteArray) (h : hp s p = true) : hp (s ++ t) p = true := by
  rw [hp_iff] at h ⊢
  rw [List.isPrefixOf_iff_prefix] at h ⊢
  have e : (s ++ t).data.toList = s.data.toList ++ t.data.toList := by simp
  rw [e]
  exact h.trans (List.prefix_append _ _)

theorem hp_own (s t : ByteArray) : hp (s ++ t) s = true := by
  rw [hp_iff, List.isPrefixOf_iff_prefix]
  have e : (s ++ t).data.toList = s.data.toList ++ t.data.toList := by simp
  rw [e]
  exact List.prefix_append _ _

theorem any_split (f : ByteArray → Bool) (L : List ByteArray) (k : Nat) : L.any f = ((L.take k).any f || (L.drop k).any f) := by
  rw [← List.any_append, List.take_append_drop]

theorem any_grows (s t : ByteArray) (L : List ByteArray) (h : L.any (hp s) = true) : L.any (hp (s ++ t)) = true := by
  rw [List.any_eq_true] at h ⊢
  obtain ⟨x, hx, h⟩ := h
  exact ⟨x, hx, hp_grows s t x h⟩
end Go.Proofs.Qxb6608993aMods
