import Derived.Test.Qxb6608993aModsAnyP
import Derived.Laws.CopyOwn
import Derived.Laws.Concat
import Derived.WalkLawsBesides
namespace Go.Proofs.Qxb6608993aMods
open Go.RowKit

/-- WHAT THE WALK IS TOLD OF A SLICE OF STRINGS THAT CAME IN. -/
structure IsStrs (w : World) (ao : Option Addr) (len : Nat) (L : List ByteArray) : Prop where
  length : L.length = len
  addr : 0 < len → ∃ b off, ao = some ⟨b, off, none⟩ ∧ b < w.heap.size ∧ ∀ j, j < len → w.cell? ⟨b, off + j, none⟩ = some (.string (L.getD j ByteArray.empty))

theorem bytes_all (s t : ByteArray) (ao : Option Addr) (len cap : Nat) (k : Int) (L : List ByteArray) (w : World) (h : IsStrs w ao len L) :
    Calls Trym.prog 4 #[.string s, .string t, .slice ao len cap, .int .i64 k] w fun e w' => Answers e ∧ w = w' := by
  by_cases h0 : len = 0
  · subst h0
    exact bytes_none s t ao cap k w
  · obtain ⟨b, off, rfl, _, hc⟩ := h.addr (by omega)
    exact bytes_row s t b off len cap k L w hc

theorem big_all (s t : ByteArray) (ao : Option Addr) (len cap : Nat) (L : List ByteArray) (w : World) (h : IsStrs w ao len L) (h0 : s.size ≤ 1048576) (h1 : t.size ≤ 1048576) (h2 : len ≤ 65536) :
    Calls Trym.prog 5 #[.string s, .string t, .slice ao len cap] w fun e w' => Answers e ∧ w = w' := by
  by_cases hl : len = 0
  · subst hl
    exact big_none s t ao cap w h0 h1
  · obtain ⟨b, off, rfl, _, hc⟩ := h.addr (by omega)
    exact big_row s t b off len cap L w h0 h1 h2 hc

theorem main_out (s t : ByteArray) (ao : Option Addr) (len cap : Nat) (k : Int) (L : List ByteArray) (w : World) (h : IsStrs w ao len L) (hb : ¬ (s.size ≤ 1048576 ∧ t.size ≤ 1048576 ∧ len ≤ 65536)) :
    Calls Trym.prog 3 #[.string s, .string t, .slice ao len cap, .int .i64 k] w fun e w' => e = .returned (.bool true) ∧ w = w' := by
  have c4 := bytes_all s t ao len cap k L w h
  have c5 := big_out s t ao len cap w hb
  go_enter Trym.func3, Trym.ntmps3
  go_wp2_with (first | (go_at_call 4; refine c4.mono ?_; rintro e w' ⟨⟨b, rfl⟩, rfl⟩; cases b) | (go_at_call 5; refine c5.mono ?_; rintro e w' ⟨rfl, rfl⟩))
  all_goals go_ret
  all_goals exact ⟨rfl, rfl⟩

theorem main_outk (s t : ByteArray) (ao : Option Addr) (len cap : Nat) (k : Int) (L : List ByteArray) (w : World) (h : IsStrs w ao len L) (h0 : s.size ≤ 1048576) (h1 : t.size ≤ 1048576) (h2 : len ≤ 65536) (hk : ¬ (0 ≤ k ∧ k ≤ len)) :
    Calls Trym.prog 3 #[.string s, .string t, .slice ao len cap, .int .i64 k] w fun e w' => e = .returned (.bool true) ∧ w = w' := by
  have c4 := bytes_all s t ao len cap k L w h
  have c5 := big_all s t ao len cap L w h h0 h1 h2
  by_cases hk0 : k < 0
  · clear hk
    go_enter Trym.func3, Trym.ntmps3
    go_wp2_with (first | (go_at_call 4; refine c4.mono ?_; rintro e w' ⟨⟨b, rfl⟩, rfl⟩; cases b) | (go_at_call 5; refine c5.mono ?_; rintro e w' ⟨⟨b, rfl⟩, rfl⟩; cases b))
    all_goals go_ret
    all_goals exact ⟨rfl, rfl⟩
  · have hk1 : (len : Int) < k := by omega
    clear hk
    go_enter Trym.func3, Trym.ntmps3
    go_wp2_with (first | (go_at_call 4; refine c4.mono ?_; rintro e w' ⟨⟨b, rfl⟩, rfl⟩; cases b) | (go_at_call 5; refine c5.mono ?_; rintro e w' ⟨⟨b, rfl⟩, rfl⟩; cases b))
    all_goals go_ret
    all_goals exact ⟨rfl, rfl⟩

theorem info9 : (Trym.prog.info? 9).map (fun i => (i.zero, i.size, i.bytes)) = some (some (.string ByteArray.empty), 1, 16) := by kernel_rfl

theorem own_call (s t : ByteArray) (wx : World) :
    Calls Trym.prog 6 #[.string (s ++ t), .slice (some ⟨wx.heap.size, 0, none⟩) 1 1] (wx.alloc (.cells #[.string s] 9)) fun e w' => e = .returned (.bool true) ∧ wx.alloc (.cells #[.string s] 9) = w' := by
  have h := any_all (s ++ t) (some ⟨wx.heap.size, 0, none⟩) wx.heap.size 0 1 1 [s] (wx.alloc (.cells #[.string s] 9)) rfl (by omega) (fun _ => rfl) (fun j hj => by
    obtain rfl : j = 0 := by omega
    simp)
  have e : [s].any (hp (s ++ t)) = true := by simp [hp_own]
  rw [e] at h
  exact h

set_option maxHeartbeats 3200000 in
set_option maxRecDepth 1000000 in
theorem main_nil (s t : ByteArray) (w : World) (h0 : s.size ≤ 1048576) (h1 : t.size ≤ 1048576) :
    Calls Trym.prog 3 #[.string s, .string t, .slice none 0 0, .int .i64 0] w fun e w' => e = .returned (.bool true) ∧ Below w.heap.size w w' := by
  have c4 := bytes_none s t none 0 0 w
  have c5 := big_none s t none 0 w h0 h1
  have hadd := fun wx => run_string_add_sum (P := Trym.prog) wx s t (by omega)
  have hne := fun wx => run_neq_slice_nil_any (P := Trym.prog) wx 22 9 none 0 0 0 0 Trym.underlying22
  have hown := hp_own s t
  have c6 := fun (x : ByteArray) (wx : World) => any_all x none 0 0 0 0 [] wx rfl (by omega) (fun h => by omega) (fun j hj => by omega)
  go_enter Trym.func3, Trym.ntmps3
  go_wp2_with (first | (go_at_call 4; refine c4.mono ?_; rintro e w' ⟨⟨b, rfl⟩, rfl⟩; cases b) | (go_at_call 5; refine c5.mono ?_; rintro e w' ⟨⟨b, rfl⟩, rfl⟩; cases b))
  · go_ret
    exact ⟨rfl, Below.refl _ _⟩
  · refine (c6 s _).mono ?_
    rintro e w' ⟨rfl, rfl⟩
    go_wp2_with fail
    refine (c6 s _).mono ?_
    rintro e w' ⟨rfl, rfl⟩
    go_wp2_with fail
    refine (c6 s _).mono ?_
    rintro e w' ⟨rfl, rfl⟩
    go_wp2_with fail
    refine (c6 (s ++ t) _).mono ?_
    rintro e w' ⟨rfl, rfl⟩
    go_wp2_with fail
    refine (own_call s t w).mono ?_
    rintro e w' ⟨rfl, rfl⟩
    go_wp2_with fail
    go_ret
    exact ⟨rfl, (Below.refl _ _).alloc (Nat.le_refl _) _⟩
  · go_ret
    exact ⟨rfl, Below.refl _ _⟩

theorem info9s : (Trym.prog.info? 9).map (·.size) = some 1 := by kernel_rfl

theorem copied {w w1 : World} {x : Addr} {len cap : Nat} {L : List ByteArray} {Z : List Value} (h : IsStrs w (some x) len L)
    (hown : w1.ownsRow w.heap.size 9 1 (.slice (some ⟨w.heap.size, 0, none⟩) len len) len Z) (hgrow : w.grownBy w1 none) :
    ∃ w2, (∀ ty, (Builtin.copy_ #[22, 22] ty #[.slice (some ⟨w.heap.size, 0, none⟩) len len, .slice (some x) len cap]).run Trym.prog w1 = .ok (goInt len) w2) ∧
      Below w.heap.size w w2 ∧ w.heap.size < w2.heap.size ∧ ∀ j, j < len → w2.cell? ⟨w.heap.size, 0 + j, none⟩ = some (.string (L.getD j ByteArray.empty)) := by
  have hlt := (hown.lt w.heap.size rfl).2
  have hB : Below w.heap.size w w1 := (Below.refl _ _).grown hgrow (Nat.le_refl _) (fun k h => by cases h)
  by_cases h0 : len = 0
  · subst h0
    refine ⟨w1, fun ty => ?_, hB, hlt, fun j hj => by omega⟩
    exact run_copy_none (P := Trym.prog) w1 22 22 ty 9 _ _ 0 0 0 cap Trym.underlying22 info9s (by simp)
  · obtain ⟨b, off, hx, hb, hc⟩ := h.addr (by omega)
    obtain rfl := Option.some.inj hx
    obtain ⟨cur, hcs, hheap⟩ : ∃ cur : Array Value, cur.size = len ∧ w1.heap[w.heap.size]? = some (.cells cur 9 (0, 0)) := by
      rcases hown.2 with ⟨h', _⟩ | ⟨g', cap', cur, h', _, hg, _, _, hcs, _⟩
      · simp at h'
      · simp only [Value.slice.injEq, Option.some.injEq, Addr.mk.injEq, and_true, true_and] at h'
        obtain ⟨rfl, rfl⟩ := h'
        exact ⟨cur, by simpa using hcs, hg⟩
    have hL := h.length
    refine ⟨w1.setRow w.heap.size (cur.toList.take 0 ++ L.map Value.string ++ cur.toList.drop (0 + (L.map Value.string).length)).toArray, fun ty => ?_, ?_, ?_, ?_⟩
    · have hr := run_copy_row (P := Trym.prog) w1 22 22 ty 9 w.heap.size 0 len len ⟨b, off, none⟩ len cap cur 9 (L.map Value.string) Trym.underlying22 info9s hheap (by simp [hL])
        (fun j v hv => by
          have hj : j < L.length := by
            have := (List.getElem?_eq_some_iff.1 hv).1
            simpa using this
          rw [Addr.add_lit, hB.cell hb, hc j (by omega), ← hv]
          simp [List.getD, hj]) (by simp [hcs, hL]) (fun v hv => by
          obtain ⟨y, _, rfl⟩ := List.mem_map.1 hv
          rfl)
      have e : goInt (L.map Value.string).length = goInt len := by simp [hL]
      rw [e] at hr
      exact hr
    · exact below_setRow hB (Nat.le_refl _) _
    · simp [hlt]
    · intro j hj
      rw [Nat.zero_add, cell_of_row _ _ _ _ 9 (0, 0) (setRow_heap w1 w.heap.size cur _ 9 (0, 0) hheap)]
      simp only [List.take_zero, List.nil_append, List.getElem?_toArray]
      rw [List.getElem?_append_left (by simp; omega)]
      simp [List.getD, show j < L.length by omega]

end Go.Proofs.Qxb6608993aMods
