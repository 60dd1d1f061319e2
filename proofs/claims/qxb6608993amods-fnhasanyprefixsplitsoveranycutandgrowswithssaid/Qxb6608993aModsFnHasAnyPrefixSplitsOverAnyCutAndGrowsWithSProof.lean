/-
  THE PROOF OF 'Rows.FnHasAnyPrefixSplitsOverAnyCutAndGrowsWithSSaid': the walk out of the contracts in AnyA to AnyD; the frame is that of the guide's shell for a law over slices, turned to a slice of strings.
-/
import Derived.Test.Qxb6608993aModsRows
import Derived.Test.Qxb6608993aModsAnyD
import Derived.WalkKit
import Derived.ProofKit
import Derived.OpenShut
import Derived.ShutString
import Derived.ChangeOld
import Derived.Below
import Derived.SliceStrings
namespace Go.Proofs.Qxb6608993aMods.fnHasAnyPrefixSplitsOverAnyCutAndGrowsWithS
open Go.ChangeShapes Go.WideShapes Go.ChangeAt Go.RowKit
open Go.ChangeMaps (open_string shut_string)

theorem own : ownKnob Trym.prog.godebug = none := by kernel_rfl
theorem laidOut : laidOutB Trym.prog = true := by kernel_rfl

theorem block_lt_of_cell {w : World} {a : Addr} {v : Value} (h : w.cell? a = some v) : a.block < w.heap.size := by
  apply Classical.byContradiction
  intro hn
  have e : w.heap[a.block]? = none := Array.getElem?_eq_none (by omega)
  simp [World.cell?, e] at h

/-- From a row's reading to what the walk is told. -/
theorem isStrs_row {w : World} {a : Addr} {len cap : Nat} {ss : List ByteArray} (hl : len ≤ cap) (hz : ss.length = cap) (hcell : ∀ i, i < ss.length → w.cell? (a.add i) = some (.string (ss.getD i ByteArray.empty))) :
    IsStrs w (some a) len (ss.take len) := by
  refine ⟨by simp; omega, fun hpos => ?_⟩
  obtain ⟨b, off, spot⟩ := a
  have hc := hcell 0 (by omega)
  have hspot : spot = none := by simpa [Addr.add] using World.cell?_spot hc
  subst hspot
  have hc0 : w.cell? ⟨b, off, none⟩ = some (.string (ss.getD 0 ByteArray.empty)) := by simpa [Addr.add] using hc
  refine ⟨b, off, rfl, block_lt_of_cell hc0, fun j hj => ?_⟩
  have hcj := hcell j (by omega)
  rw [Addr.add_lit] at hcj
  rw [hcj]
  simp [List.getD, hj]

theorem walk (a0 a1 : ByteArray) (a2 : Option Addr) (len2 cap2 : Nat) (L : List ByteArray) (a3 : Int) (w : World) (hnil : a2 = none → len2 = 0 ∧ cap2 = 0) (h : IsStrs w a2 len2 L) :
    Calls Trym.prog 3 #[.string a0, .string a1, .slice a2 len2 cap2, .int .i64 a3] w fun e w' => e = .returned (.bool true) ∧ Below w.heap.size w w' := by
  by_cases hb : a0.size ≤ 1048576 ∧ a1.size ≤ 1048576 ∧ len2 ≤ 65536
  · by_cases hk : 0 ≤ a3 ∧ a3 ≤ len2
    · obtain ⟨k, rfl⟩ := Int.eq_ofNat_of_zero_le hk.1
      have hk2 : k ≤ len2 := by omega
      cases a2 with
      | none =>
        obtain ⟨rfl, rfl⟩ := hnil rfl
        obtain rfl : k = 0 := by omega
        exact main_nil a0 a1 w hb.1 hb.2.1
      | some x => exact main_some a0 a1 x len2 cap2 k L w h hb.1 hb.2.1 hb.2.2 hk2
    · exact (main_outk a0 a1 a2 len2 cap2 a3 L w h hb.1 hb.2.1 hb.2.2 hk).mono fun e w' ⟨he, hw⟩ => ⟨he, by rw [← hw]; exact Below.refl _ _⟩
  · exact (main_out a0 a1 a2 len2 cap2 a3 L w h hb).mono fun e w' ⟨he, hw⟩ => ⟨he, by rw [← hw]; exact Below.refl _ _⟩

set_option maxRecDepth 100000 in
theorem lifted (os : Os) (started : os.Started) (H : Type) (enc : TypeId × Value → H) :
    ReturnsInHanded {} Trym.checked os 3 .any (Rows.fnHasAnyPrefixSplitsOverAnyCutAndGrowsWithSSpec.pre6 enc Trym.prog Trym.f3 Rows.fnHasAnyPrefixSplitsOverAnyCutAndGrowsWithSRow.domain false) (Rows.fnHasAnyPrefixSplitsOverAnyCutAndGrowsWithSSpec.post enc Trym.prog Trym.f3 false true false false) := by
  refine returnsInHanded_of_change (C := Trym.checked) own started (by kernel_rfl) Trym.func3
    (ChangeSpec.witness6 (enc := enc) (C := Trym.checked) false ⟨#[], #[.string ByteArray.empty, .string ByteArray.empty, .slice none 0 0, .int .i64 0], []⟩ 8 (by kernel_rfl) (by kernel_rfl) (by kernel_rfl) (by kernel_rfl)) ?_
  intro W base args ds gs before hval0 hW hcnd _
  have hval : ∀ (j : Nat) t v, Trym.f3.params[j]? = some t → args[j]? = some v → Value.okWide Trym.prog W .any base t v := hval0
  have hW' := hW
  obtain ⟨p, q, hA0, hV, rfl, hfz, hnd⟩ := hW
  have hA : DataW.TrodAll enc Trym.prog W 0 (fun _ => true) true Trym.f3.params.toList args.toList ds p := hA0
  rw [Trym.params3] at hA hval
  obtain ⟨v0, vs0, d0, ds0, p0, q0, hargs, rfl, rfl, h0, r0⟩ := trodAll_cons hA
  obtain ⟨v1, vs1, d1, ds1, p1, q1, rfl, rfl, rfl, h1, r1⟩ := trodAll_cons r0
  obtain ⟨v2, vs2, d2, ds2, p2, q2, rfl, rfl, rfl, h2, r2⟩ := trodAll_cons r1
  obtain ⟨v3, vs3, d3, ds3, p3, q3, rfl, rfl, rfl, h3, r3⟩ := trodAll_cons r2
  obtain ⟨rfl, rfl, rfl⟩ := trodAll_nil r3
  obtain rfl : args = #[v0, v1, v2, v3] := by cases args; simp_all
  obtain ⟨rfl, rfl⟩ := trodVars_none hV
  obtain ⟨a0, rfl, rfl, rfl, w0⟩ := open_string Trym.underlying9 (hval 0 9 v0 rfl rfl) h0
  obtain ⟨a1, rfl, rfl, rfl, w1⟩ := open_string Trym.underlying9 (hval 1 9 v1 rfl rfl) h1
  obtain ⟨a2, len2, cap2, rfl⟩ := okWide_slice Trym.underlying22 (hval 2 22 v2 rfl rfl)
  obtain ⟨a3, rfl, rfl, rfl, w3⟩ := open_int Trym.underlying3 (hval 3 3 v3 rfl rfl) h3
  have k2 := h2
  have lt2 : ∀ x ∈ p2, x.block < W.heap.size := by obtain ⟨m, hm⟩ := k2; exact DataW.trod_lt m _ _ _ hm
  obtain ⟨L, hnil, w2⟩ : ∃ L, (a2 = none → len2 = 0 ∧ cap2 = 0) ∧ IsStrs W a2 len2 L := by
    obtain ⟨fuel, hf⟩ := h2
    rcases open_strings Trym.underlying22 Trym.underlying9 (by kernel_rfl) hf with ⟨hcs, _⟩ | ⟨x, l, c, ss, hcs, _, hl, hm, hz, _, hcell, hws⟩
    · simp [Value.cells] at hcs
      obtain ⟨rfl, rfl, rfl⟩ := hcs
      exact ⟨[], fun _ => ⟨rfl, rfl⟩, ⟨rfl, fun h => absurd h (by omega)⟩⟩
    · simp [Value.cells] at hcs
      obtain ⟨rfl, rfl, rfl⟩ := hcs
      exact ⟨ss.take len2, (fun h => by cases h), isStrs_row hl (by simpa using hz) hcell⟩
  clear hA0 hval0
  refine (walk a0 a1 a2 len2 cap2 L a3 W hnil w2).mono fun e W' ⟨he, bel⟩ => ?_
  subst he
  exact ⟨_, rfl, _, _, _, [], _, [], hW', trodAll_mk1 (shut_bool Trym.underlying4 _), (trodAll_cons_mk (shut_string Trym.underlying9 w0) (trodAll_cons_mk (shut_string Trym.underlying9 w1) (trodAll_cons_mk (Below.trod laidOut (by kernel_rfl) (of_decide_eq_true (by kernel_rfl)) k2 bel lt2) (trodAll_cons_mk (shut_int Trym.underlying3 w3) trodAll_mk0)))), rfl, bel.frame _, fun h => by cases h⟩

theorem over : Rows.fnHasAnyPrefixSplitsOverAnyCutAndGrowsWithSRow.holds Trym.pinned (OpenSpec.ofChange Rows.fnHasAnyPrefixSplitsOverAnyCutAndGrowsWithSSpec) :=
  OpenClaim.holds_of_wide 3 Trym.f3 rfl rfl rfl rfl rfl rfl rfl ⟨rfl, rfl, rfl, rfl, rfl⟩ rfl rfl rfl rfl rfl (by kernel_rfl) Trym.func3 (by kernel_rfl)
    (of_decide_eq_true (by kernel_rfl)) (by unfold Func.isWrapper; first | (rw [if_pos (by decide +kernel)]; kernel_rfl) | (rw [if_neg (by decide +kernel)]; exact ⟨rfl, rfl⟩))
    (fun os started H enc _ => lifted os started H enc)

/-- THE STATEMENT -/
theorem proved : Rows.FnHasAnyPrefixSplitsOverAnyCutAndGrowsWithSSaid := over
#print axioms proved
end Go.Proofs.Qxb6608993aMods.fnHasAnyPrefixSplitsOverAnyCutAndGrowsWithS
