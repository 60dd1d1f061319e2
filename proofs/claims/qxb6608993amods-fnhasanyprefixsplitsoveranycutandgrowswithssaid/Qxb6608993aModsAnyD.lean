import Derived.Test.Qxb6608993aModsAnyC
namespace Go.Proofs.Qxb6608993aMods
open Go.RowKit

set_option maxHeartbeats 3200000 in
set_option maxRecDepth 1000000 in
theorem main_some (s t : ByteArray) (x : Addr) (len cap k : Nat) (L : List ByteArray) (w : World) (h : IsStrs w (some x) len L) (h0 : s.size ≤ 1048576) (h1 : t.size ≤ 1048576) (h2 : len ≤ 65536) (hk : k ≤ len) :
    Calls Trym.prog 3 #[.string s, .string t, .slice (some x) len cap, .int .i64 k] w fun e w' => e = .returned (.bool true) ∧ Below w.heap.size w w' := by
  have c4 := bytes_all s t (some x) len cap k L w h
  have c5 := big_all s t (some x) len cap L w h h0 h1 h2
  have hadd := fun wx => run_string_add_sum (P := Trym.prog) wx s t (by omega)
  have hne := fun wx => run_neq_slice_nil_any (P := Trym.prog) wx 22 9 (some x) len cap 0 0 Trym.underlying22
  have hkI : ¬ (len : Int) < (k : Int) := by omega
  obtain ⟨i0, hi, hz0, hz1, hz2⟩ := info_parts info9
  go_enter Trym.func3, Trym.ntmps3
  go_wp2_with (first | (go_at_call 4; refine c4.mono ?_; rintro e w' ⟨⟨b, rfl⟩, rfl⟩; cases b) | (go_at_call 5; refine c5.mono ?_; rintro e w' ⟨⟨b, rfl⟩, rfl⟩; cases b) | (at_make; refine wpList_make_full _ rfl _ _ 22 rfl w.heap.size 9 i0 (.string ByteArray.empty) 1 Trym.underlying22 hi hz0 hz1 _ _ _ _ len rfl rfl (by omega) (by omega) ?g2 ?g3 ?g4 ?_))
  case g2 => rw [hz2]; omega
  case g3 => unfold maxLen; omega
  case g4 => exact Nat.le_refl _
  · go_ret
    exact ⟨rfl, Below.refl _ _⟩
  · intro w1 hown1 hgrow1
    obtain ⟨w2, hcp, hB2, hlt2, hcells⟩ := copied (cap := cap) h hown1 hgrow1
    have HC : Hid (∀ j, j < len → w2.cell? ⟨w.heap.size, 0 + j, none⟩ = some (.string (L.getD j ByteArray.empty))) := hcells
    clear hown1 hgrow1 hcells c4 c5
    have hL := h.length
    have cW := any_all s (some ⟨w.heap.size, 0, none⟩) w.heap.size 0 len len L w2 hL (by omega) (fun _ => rfl) HC.out
    have cG := any_all (s ++ t) (some ⟨w.heap.size, 0, none⟩) w.heap.size 0 len len L w2 hL (by omega) (fun _ => rfl) HC.out
    have cL := fun ao h => any_all s ao w.heap.size 0 k len (L.take k) w2 (by simp; omega) (by omega) h (fun j hj => by
      rw [HC.out j (by omega)]
      simp [List.getD, hj])
    have cR := fun ao n c (hn : n = len - k) h => any_all s ao w.heap.size k n c (L.drop k) w2 (by simp; omega) (by omega) h (fun j hj => by
      have := HC.out (k + j) (by omega)
      rw [Nat.zero_add] at this
      rw [this]
      simp [List.getD])
    have E1 := any_split (hp s) L k
    have E2 := any_grows s t L
    clear HC hL
    generalize L.any (hp s) = bW at cW E1 E2
    generalize (L.take k).any (hp s) = bL at cL E1
    generalize (L.drop k).any (hp s) = bR at cR E1
    generalize L.any (hp (s ++ t)) = bG at cG E2
    have H1 : Hid (bW = (bL || bR)) := E1
    have H2 : Hid (bW = true → bG = true) := E2
    clear E1 E2
    go_wp2_with fail
    refine cW.mono ?_
    rintro e w' ⟨rfl, hw'⟩
    obtain rfl := hw'
    go_wp2_with fail
    refine (cL (some ⟨w.heap.size, 0, none⟩) (fun _ => rfl)).mono ?_
    rintro e w' ⟨rfl, hw'⟩
    obtain rfl := hw'
    go_wp2_with fail
    · have hlk : len = k := by assumption
      subst hlk
      refine (cR (some ⟨w.heap.size, 0, none⟩) 0 0 (by omega) (fun h => by omega)).mono ?_
      rintro e w' ⟨rfl, hw'⟩
      obtain rfl := hw'
      go_wp2_with fail
      refine cG.mono ?_
      rintro e w' ⟨rfl, hw'⟩
      obtain rfl := hw'
      go_wp2_with fail
      refine (own_call s t w2).mono ?_
      rintro e w' ⟨rfl, hw'⟩
      have hB3 : Below w.heap.size w w' := by rw [← hw']; exact hB2.alloc (Nat.le_of_lt hlt2) _
      clear hw'
      have hbW := H1.out
      subst hbW
      cases bL <;> cases bR <;> cases bG <;> first | (exact absurd (H2.out rfl) (by decide)) | (go_wp2_with fail; go_ret; exact ⟨rfl, hB3⟩)
    · refine (cR (some ⟨w.heap.size, k, none⟩) (len - k) (len - k) rfl (fun _ => rfl)).mono ?_
      rintro e w' ⟨rfl, hw'⟩
      obtain rfl := hw'
      go_wp2_with fail
      refine cG.mono ?_
      rintro e w' ⟨rfl, hw'⟩
      obtain rfl := hw'
      go_wp2_with fail
      refine (own_call s t w2).mono ?_
      rintro e w' ⟨rfl, hw'⟩
      have hB3 : Below w.heap.size w w' := by rw [← hw']; exact hB2.alloc (Nat.le_of_lt hlt2) _
      clear hw'
      have hbW := H1.out
      subst hbW
      cases bL <;> cases bR <;> cases bG <;> first | (exact absurd (H2.out rfl) (by decide)) | (go_wp2_with fail; go_ret; exact ⟨rfl, hB3⟩)
  · go_ret
    exact ⟨rfl, Below.refl _ _⟩
end Go.Proofs.Qxb6608993aMods
