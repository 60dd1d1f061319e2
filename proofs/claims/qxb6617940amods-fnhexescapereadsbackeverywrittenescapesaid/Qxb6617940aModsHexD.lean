import Derived.Test.Qxb6617940aModsHexC
import Derived.WalkSpells
import Derived.WalkSmall
namespace Go.Proofs.Qxb6617940aMods
open Go.RowKit

/-- The hex digit d as it is written: in upper case or in lower case. -/
def hx (up : Bool) (d : Int) : Int := if d < 10 then 48 + d else if up then 55 + d else 87 + d

theorem hx_dig (up : Bool) (d : Int) (h : 0 ≤ d ∧ d < 16) : IsDig (hx up d) d := by
  unfold IsDig hx
  cases up <;> simp <;> split <;> omega

theorem int16 {d : Int} (h : 0 ≤ d ∧ d < 16) : d = 0 ∨ d = 1 ∨ d = 2 ∨ d = 3 ∨ d = 4 ∨ d = 5 ∨ d = 6 ∨ d = 7 ∨ d = 8 ∨ d = 9 ∨ d = 10 ∨ d = 11 ∨ d = 12 ∨ d = 13 ∨ d = 14 ∨ d = 15 := by omega

theorem run_upper (d : Int) (h : 0 ≤ d ∧ d < 16) (w : World) :
    (Instr.index 9 (.string { data := #[48, 49, 50, 51, 52, 53, 54, 55, 56, 57, 65, 66, 67, 68, 69, 70] }) (.int .i32 d)).run Trym.prog w = .ok (.int .u8 (hx true d)) w := by
  rcases int16 h with rfl | rfl | rfl | rfl | rfl | rfl | rfl | rfl | rfl | rfl | rfl | rfl | rfl | rfl | rfl | rfl <;> kernel_rfl

theorem run_lower (d : Int) (h : 0 ≤ d ∧ d < 16) (w : World) :
    (Instr.index 9 (.string { data := #[48, 49, 50, 51, 52, 53, 54, 55, 56, 57, 97, 98, 99, 100, 101, 102] }) (.int .i32 d)).run Trym.prog w = .ok (.int .u8 (hx false d)) w := by
  rcases int16 h with rfl | rfl | rfl | rfl | rfl | rfl | rfl | rfl | rfl | rfl | rfl | rfl | rfl | rfl | rfl | rfl <;> kernel_rfl

theorem info5 : (Trym.prog.info? 5).map (fun i => (i.zero, i.size, i.bytes)) = some (some (.int .u8 0), 1, 1) := by kernel_rfl

/-- The k-th digit as the law writes it: the mask's bit k says in which case. -/
def wd (c m : Int) (k : Nat) : Int := hx (bits .and .u8 m ((2 ^ k : Nat) : Int) != 0) (dig c k)

/-- The first n bytes of the escape. -/
def esc (c m : Int) (k : Nat) : List Int := [92, 117] ++ (List.range k).map (wd c m)

theorem esc_step {c m : Int} {base g cap : Nat} {w : World} (k : Nat) {d : Int} {up : Bool} (HD : Hid (dig c k = d)) (HM : Hid ((bits .and .u8 m ((2 ^ k : Nat) : Int) != 0) = up))
    (hown : w.ownsRow base 5 1 (.slice (some ⟨g, 0, none⟩) (2 + k + 1) cap) (2 + k + 1) ((esc c m k).map (Value.int .u8) ++ [.int .u8 (hx up d)])) :
    w.ownsRow base 5 1 (.slice (some ⟨g, 0, none⟩) (2 + (k + 1)) cap) (2 + (k + 1)) ((esc c m (k + 1)).map (Value.int .u8)) := by
  have ew : wd c m k = hx up d := by unfold wd; rw [HD.out, HM.out]
  have e : (esc c m (k + 1)).map (Value.int .u8) = (esc c m k).map (Value.int .u8) ++ [.int .u8 (hx up d)] := by
    simp [esc, List.range_succ, ew]
  rw [e]
  exact hown

/-- The whole text that is written: the escape and the tail. -/
def txt (c m : Int) (T : List Int) : List Int := esc c m 4 ++ T

theorem tail_cells {w wx : World} {ao : Option Addr} {len : Nat} {T : List Int} (hT : T.length = len) (hB : Below w.heap.size w wx) (HB : Hid (∀ x, ao = some x → 0 < len → x.block < w.heap.size))
    (HC : Hid (∀ x, ao = some x → ∀ j, j < len → w.cell? (x.add j) = some (.int .u8 (T.getD j 0)))) :
    ∀ ad, ao = some ad → ∀ j u, (T.map (Value.int .u8))[j]? = some u → wx.cell? (ad.add j) = some u := by
  intro ad had j u hu
  have hj : j < len := by
    have := (List.getElem?_eq_some_iff.1 hu).1
    simpa [hT] using this
  have hb := HB.out ad had (by omega)
  have hb2 : (ad.add j).block < w.heap.size := by unfold Addr.add; split <;> exact hb
  rw [hB.cell hb2, HC.out ad had j hj, ← hu]
  simp [List.getD, show j < T.length by omega]

theorem txt_len (c m : Int) (T : List Int) : (txt c m T).length = 6 + T.length := by simp [txt, esc]; omega

theorem txt_cells {w : World} {base g len cap : Nat} {c m : Int} {T : List Int} (hT : T.length = len)
    (h : w.ownsRow base 5 1 (.slice (some ⟨g, 0, none⟩) (6 + len) cap) (6 + len) ((txt c m T).map (Value.int .u8))) :
    w.cell? ⟨g, 0, none⟩ = some (.int .u8 92) ∧ w.cell? ⟨g, 1, none⟩ = some (.int .u8 117) ∧ ∀ k, k < 4 → w.cell? ⟨g, 2 + k, none⟩ = some (.int .u8 (wd c m k)) := by
  refine ⟨?_, ?_, ?_⟩
  · rw [h.cellAt 0 (by omega)]; rfl
  · rw [h.cellAt 1 (by omega)]; rfl
  · intro k hk
    rw [h.cellAt (2 + k) (by omega)]
    match k, hk with
    | 0, _ => rfl
    | 1, _ => rfl
    | 2, _ => rfl
    | 3, _ => rfl

theorem row_cell {w : World} {base g n cap : Nat} {Z : List Int} (h : w.ownsRow base 5 1 (.slice (some ⟨g, 0, none⟩) n cap) n (Z.map (Value.int .u8))) (k : Nat) (hk : k < n) :
    w.cell? ⟨g, k, none⟩ = some (.int .u8 (Z.getD k 0)) := by
  have hl := h.1
  simp at hl
  rw [h.cellAt k (by omega)]
  simp [List.getD, show k < Z.length by omega]

theorem wd_dig (c m : Int) (hc : 0 ≤ c ∧ c ≤ 65535) : ∀ k, k < 4 → IsDig (wd c m k) (dig c k) := by
  intro k hk
  refine hx_dig _ _ ?_
  match k, hk with
  | 0, _ => simp only [dig]; omega
  | 1, _ => simp only [dig]; omega
  | 2, _ => simp only [dig]; omega
  | 3, _ => simp only [dig]; omega

theorem round2 {w : World} {base G len : Nat} {c m : Int} {T zs : List Int} (hlt : base < G)
    (hS : w.ownsRow base 5 1 (.slice (some ⟨base, 0, none⟩) (6 + len) (6 + len)) (6 + len) ((txt c m T).map (Value.int .u8)))
    (hZ : w.ownsRow base 5 1 (.slice (some ⟨G, 0, none⟩) (6 + len) (6 + len)) (6 + len) (zs.map (Value.int .u8))) (k : Nat) (x : Int) :
    (w.setCell ⟨G, k, none⟩ (.int .u8 x)).ownsRow base 5 1 (.slice (some ⟨base, 0, none⟩) (6 + len) (6 + len)) (6 + len) ((txt c m T).map (Value.int .u8)) ∧
    ∃ zs : List Int, (w.setCell ⟨G, k, none⟩ (.int .u8 x)).ownsRow base 5 1 (.slice (some ⟨G, 0, none⟩) (6 + len) (6 + len)) (6 + len) (zs.map (Value.int .u8)) := by
  refine ⟨ownsRow_setCell_other hS (by simp [Value.ownBlock]; omega) _, zs.set k x, ?_⟩
  have := (hZ.stored k (.int .u8 x)).1
  rw [List.map_set]
  exact this

theorem big_cells {w : World} {base G n : Nat} {zs : List Int} (hZ : w.ownsRow base 5 1 (.slice (some ⟨G, 0, none⟩) n n) n (zs.map (Value.int .u8))) (hn : 2 ≤ n) :
    (w.setCell ⟨G, 1, none⟩ (.int .u8 85)).cell? ⟨G, 0, none⟩ = some (.int .u8 (zs.getD 0 0)) ∧ (w.setCell ⟨G, 1, none⟩ (.int .u8 85)).cell? ⟨G, 1, none⟩ = some (.int .u8 85) := by
  have hl := hZ.1
  simp at hl
  have h1 := (hZ.stored 1 (.int .u8 85)).1
  refine ⟨?_, ?_⟩
  · rw [h1.cellAt 0 (by omega)]
    simp [List.getD, show 0 < zs.length by omega]
  · rw [h1.cellAt 1 (by omega)]
    simp [show 1 < zs.length by omega]

set_option maxHeartbeats 3200000 in
set_option maxRecDepth 1000000 in
theorem main_in (c m : Int) (ao : Option Addr) (len cap : Nat) (T : List Int) (w : World) (h : len ≤ 1048576) (hc : 0 ≤ c ∧ c ≤ 65535) (hT : T.length = len)
    (hnil : ao = none → len = 0 ∧ cap = 0) (hblk : ∀ x, ao = some x → 0 < len → x.block < w.heap.size) (hcell : ∀ x, ao = some x → ∀ j, j < len → w.cell? (x.add j) = some (.int .u8 (T.getD j 0))) :
    Calls Trym.prog 6 #[.int .i32 c, .int .u8 m, .slice ao len cap] w fun e w' => e = .returned (.bool true) ∧ Below w.heap.size w w' := by
  have h' : ¬ (1048576 : Int) < (len : Int) := by omega
  have hc0 : ¬ c < 0 := by omega
  have hc1 : ¬ 65535 < c := by omega
  obtain ⟨i0, hi, hz0, hz1, hz2⟩ := info_parts info5
  have KN := @hnil
  have HN : Hid (ao = none → len = 0 ∧ cap = 0) := hnil
  have HB : Hid (∀ x, ao = some x → 0 < len → x.block < w.heap.size) := hblk
  have HC : Hid (∀ x, ao = some x → ∀ j, j < len → w.cell? (x.add j) = some (.int .u8 (T.getD j 0))) := hcell
  clear hnil hblk hcell KN
  go_enter Trym.func6, Trym.ntmps6
  go_wp2_with (first | (go_at_call 14; refine (sized _ _ _ _ _ _ h).mono ?_; rintro e w' ⟨rfl, hw'⟩; obtain rfl := hw'.symm) | (at_make; refine wpList_make_own _ rfl _ _ 22 rfl w.heap.size 5 i0 (.int .u8 0) 1 Trym.underlying22 hi hz0 hz1 _ _ _ (6 + len) rfl rfl (by omega) ?b2 ?b3 (Nat.le_refl _) ?_))
  case b2 => rw [hz2]; omega
  case b3 => unfold maxLen; omega
  intro w0 hown0 hgrow0
  have hB0 : Below w.heap.size w w0 := (Below.refl _ _).grown hgrow0 (Nat.le_refl _) (fun k h => by cases h)
  have hz0s := hB0.size
  go_wp2_with (at_builtin; refine wpList_append_fits _ rfl (.tmp 30) (.tmp 31) 22 rfl w.heap.size 5 i0 1 Trym.underlying22 hi hz1 w.heap.size 0 (6 + len) _ rfl (hown0.alloc _) ⟨w0.heap.size, 0, none⟩ 2 2 [.int .u8 92, .int .u8 117] rfl rfl ?d1 ?d2 ?d3 ?_)
  case d1 => exact cell_two_new _ _ _ _
  case d2 => exact ints_oneCell .u8 [92, 117]
  case d3 => omega
  intro w1 hown1 hgrow1
  have hB1 : Below w.heap.size w w1 := (hB0.alloc hz0s _).grown hgrow1 (by simp; omega) (fun k hk => by cases hk; exact Nat.le_refl _)
  clear hown0 hgrow0 hgrow1 hB0 hz0s
  go_wp2
  go_loopw [7, 8] (fun sv iv wr => ∃ k : Nat, k ≤ 4 ∧ iv = .int .i64 k ∧ sv = .slice (some ⟨w.heap.size, 0, none⟩) (2 + k) (6 + len) ∧
      wr.ownsRow w.heap.size 5 1 (.slice (some ⟨w.heap.size, 0, none⟩) (2 + k) (6 + len)) (2 + k) ((esc c m k).map (Value.int .u8)) ∧ Below w.heap.size w wr)
    (fun _ iv _ => 4 - (intOf iv).toNat)
  case atStart => exact ⟨0, Nat.zero_le _, rfl, rfl, hown1, hB1⟩
  case round =>
    clear hown1 hB1
    obtain ⟨k, hk, rfl, rfl, hown, hB⟩ := hrel
    by_cases hk4 : k = 4
    · subst hk4
      go_wp2_with (at_builtin; refine wpList_append_fits_any _ rfl (.tmp 60) (.tmp 61) 22 rfl w.heap.size 5 i0 1 Trym.underlying22 hi hz1 w.heap.size 6 (6 + len) _ rfl hown ao len cap (T.map (Value.int .u8)) rfl (by simp [hT]) HN.out (tail_cells hT hB HB HC) (ints_oneCell _ _) (by omega) ?_)
      intro w2 hown2' hgrow2
      have hown2 : w2.ownsRow w.heap.size 5 1 (.slice (some ⟨w.heap.size, 0, none⟩) (6 + len) (6 + len)) (6 + len) ((txt c m T).map (Value.int .u8)) := by
        have e : (txt c m T).map (Value.int .u8) = (esc c m 4).map (Value.int .u8) ++ T.map (Value.int .u8) := by simp [txt]
        rw [e]; exact hown2'
      have hB2 : Below w.heap.size w w2 := hB.grown hgrow2 hB.size (fun k hk => by cases hk; exact Nat.le_refl _)
      have hlt := (hown2.lt w.heap.size rfl).2
      have hfacts := txt_cells hT hown2
      have hdig := wd_dig c m hc
      clear hown hown2' hgrow2 hB HN HB HC
      go_wp2_with (first | (go_at_call 13; refine (zz_good w.heap.size (6 + len) (6 + len) c (wd c m) _ (by omega) (by omega) hc hfacts.1 hfacts.2.1 hfacts.2.2 hdig).mono ?_; rintro e w' ⟨rfl, hw'⟩; obtain rfl := hw'.symm) | (at_make; go_loud (refine wpList_make_full _ rfl _ _ 22 rfl w.heap.size 5 i0 (.int .u8 0) 1 Trym.underlying22 hi hz0 hz1 _ _ _ _ (6 + len) rfl rfl (by omega) (by omega) ?g2 ?g3 ?g4 ?_)))
      case g2 => rw [hz2]; omega
      case g3 => unfold maxLen; omega
      case g4 => exact hB2.size
      intro w3 hown3' hgrow3
      generalize hG : w2.heap.size = G at hown3' hlt
      have HG : Hid (w2.heap.size = G) := hG
      clear hG
      have hown3 : ∃ zs : List Int, w3.ownsRow w.heap.size 5 1 (.slice (some ⟨G, 0, none⟩) (6 + len) (6 + len)) (6 + len) (zs.map (Value.int .u8)) := by
        refine ⟨List.replicate (6 + len) 0, ?_⟩
        have e : (madeCells #[Value.int .u8 0] (6 + len)).toList = (List.replicate (6 + len) (0 : Int)).map (Value.int .u8) := by
          rw [toList_madeCells_one]; simp
        rw [← e]; exact hown3'
      have hownS : w3.ownsRow w.heap.size 5 1 (.slice (some ⟨w.heap.size, 0, none⟩) (6 + len) (6 + len)) (6 + len) ((txt c m T).map (Value.int .u8)) := hown2.kept hgrow3 (Or.inr (by simp [Value.ownBlock]))
      have hB3 : Below w.heap.size w w3 := hB2.grown hgrow3 hB2.size (fun k hk => by cases hk)
      clear hown3' hown2 hgrow3 hB2 hfacts hdig
      go_wp2_with fail
      go_loopw [11] (fun iv wy => ∃ k : Nat, k ≤ 6 + len ∧ iv = .int .i64 k ∧
          wy.ownsRow w.heap.size 5 1 (.slice (some ⟨w.heap.size, 0, none⟩) (6 + len) (6 + len)) (6 + len) ((txt c m T).map (Value.int .u8)) ∧
          (∃ zs : List Int, wy.ownsRow w.heap.size 5 1 (.slice (some ⟨G, 0, none⟩) (6 + len) (6 + len)) (6 + len) (zs.map (Value.int .u8))) ∧ Below w.heap.size w wy)
        (fun iv _ => 6 + len - (intOf iv).toNat)
      case atStart => exact ⟨0, Nat.zero_le _, rfl, hownS, hown3, hB3⟩
      case round =>
        clear hownS hown3 hB3
        obtain ⟨k, hk2, rfl, hS, ⟨zs, hZ⟩, hB4⟩ := hrel
        by_cases hkl : k < 6 + len
        · have cS := row_cell hS k hkl
          have cZ := row_cell hZ k hkl
          have fZ := hZ.frozenAt k
          have hkI : (k : Int) < 6 + (len : Int) := by omega
          have R := round2 (c := c) (m := m) (T := T) hlt hS hZ k ((txt c m T).getD k 0)
          have hB5 : Below w.heap.size w (wr.setCell ⟨G, k, none⟩ (.int .u8 ((txt c m T).getD k 0))) := hB4.setCell (by exact Nat.le_of_lt hlt) _
          clear hS hZ
          go_wp2_with fail
          go_roundw
          case rel => exact ⟨k + 1, by omega, by go_num, by simpa using R.1, by simpa using R.2, by simpa using hB5⟩
          case measure => simp [intOf]; omega
        · have hke : k = 6 + len := by omega
          subst hke
          have cZ0 := row_cell hZ 0 (by omega)
          have cZ1 := row_cell hZ 1 (by omega)
          have fZ := hZ.frozenAt 1
          obtain ⟨c0, c1⟩ := big_cells hZ (by omega)
          have hB5 : Below w.heap.size w (wr.setCell ⟨G, 1, none⟩ (.int .u8 85)) := hB4.setCell (by exact Nat.le_of_lt hlt) _
          clear hS hZ
          go_wp2_with fail
          refine (zz_bad G (6 + len) (6 + len) (zs.getD 0 0) 85 _ (by omega) c0 c1 (by decide)).mono ?_
          rintro e w' ⟨rfl, hw'⟩
          obtain rfl := hw'.symm
          clear c0 c1
          go_wp2_with (go_at_call 13; refine (zz_short _ 5 _ _ (by omega)).mono ?_; rintro e w' ⟨rfl, hw'⟩; obtain rfl := hw'.symm)
          go_ret
          exact ⟨rfl, hB5⟩
    · obtain hk0 | hk0 | hk0 | hk0 : k = 0 ∨ k = 1 ∨ k = 2 ∨ k = 3 := by omega
      · subst hk0
        clear hk4 hk
        have e : bits .and .i32 (c / 4096) 15 = dig c 0 := by simp only [dig]; rw [and15 _ (by omega) (by omega)]; omega
        have hr : 0 ≤ dig c 0 ∧ dig c 0 < 16 := by simp only [dig]; omega
        generalize hd : dig c 0 = d at e hr
        have HD : Hid (dig c 0 = d) := hd
        clear hd
        have rU := run_upper d hr
        have rL := run_lower d hr
        clear hr
        cases hb : (bits .and .u8 m 1 != 0)
        · have HM : Hid ((bits .and .u8 m 1 != 0) = false) := hb
          go_wp2_with (at_builtin; refine wpList_append_fits _ rfl (.tmp 55) (.tmp 58) 22 rfl w.heap.size 5 i0 1 Trym.underlying22 hi hz1 w.heap.size 2 (6 + len) _ rfl (hown.alloc _) ⟨wr.heap.size, 0, none⟩ 1 1 [.int .u8 (hx false d)] rfl rfl (cell_one_new _ _ _) (ints_oneCell .u8 [hx false d]) (by omega) ?_; intro w2 hown2 hgrow2)
          go_roundw
          case rel => exact ⟨1, by omega, by go_num, rfl, esc_step 0 HD HM hown2, (hB.alloc hB.size _).grown hgrow2 (by simp; have := hB.size; omega) (fun k hk => by cases hk; exact Nat.le_refl _)⟩
          case measure => simp [intOf]
        · have HM : Hid ((bits .and .u8 m 1 != 0) = true) := hb
          go_wp2_with (at_builtin; refine wpList_append_fits _ rfl (.tmp 50) (.tmp 53) 22 rfl w.heap.size 5 i0 1 Trym.underlying22 hi hz1 w.heap.size 2 (6 + len) _ rfl (hown.alloc _) ⟨wr.heap.size, 0, none⟩ 1 1 [.int .u8 (hx true d)] rfl rfl (cell_one_new _ _ _) (ints_oneCell .u8 [hx true d]) (by omega) ?_; intro w2 hown2 hgrow2)
          go_roundw
          case rel => exact ⟨1, by omega, by go_num, rfl, esc_step 0 HD HM hown2, (hB.alloc hB.size _).grown hgrow2 (by simp; have := hB.size; omega) (fun k hk => by cases hk; exact Nat.le_refl _)⟩
          case measure => simp [intOf]
      · subst hk0
        clear hk4 hk
        have e : bits .and .i32 (c / 256) 15 = dig c 1 := by simp only [dig]; rw [and15 _ (by omega) (by omega)]
        have hr : 0 ≤ dig c 1 ∧ dig c 1 < 16 := by simp only [dig]; omega
        generalize hd : dig c 1 = d at e hr
        have HD : Hid (dig c 1 = d) := hd
        clear hd
        have rU := run_upper d hr
        have rL := run_lower d hr
        clear hr
        cases hb : (bits .and .u8 m 2 != 0)
        · have HM : Hid ((bits .and .u8 m 2 != 0) = false) := hb
          go_wp2_with (at_builtin; refine wpList_append_fits _ rfl (.tmp 55) (.tmp 58) 22 rfl w.heap.size 5 i0 1 Trym.underlying22 hi hz1 w.heap.size 3 (6 + len) _ rfl (hown.alloc _) ⟨wr.heap.size, 0, none⟩ 1 1 [.int .u8 (hx false d)] rfl rfl (cell_one_new _ _ _) (ints_oneCell .u8 [hx false d]) (by omega) ?_; intro w2 hown2 hgrow2)
          go_roundw
          case rel => exact ⟨2, by omega, by go_num, rfl, esc_step 1 HD HM hown2, (hB.alloc hB.size _).grown hgrow2 (by simp; have := hB.size; omega) (fun k hk => by cases hk; exact Nat.le_refl _)⟩
          case measure => simp [intOf]
        · have HM : Hid ((bits .and .u8 m 2 != 0) = true) := hb
          go_wp2_with (at_builtin; refine wpList_append_fits _ rfl (.tmp 50) (.tmp 53) 22 rfl w.heap.size 5 i0 1 Trym.underlying22 hi hz1 w.heap.size 3 (6 + len) _ rfl (hown.alloc _) ⟨wr.heap.size, 0, none⟩ 1 1 [.int .u8 (hx true d)] rfl rfl (cell_one_new _ _ _) (ints_oneCell .u8 [hx true d]) (by omega) ?_; intro w2 hown2 hgrow2)
          go_roundw
          case rel => exact ⟨2, by omega, by go_num, rfl, esc_step 1 HD HM hown2, (hB.alloc hB.size _).grown hgrow2 (by simp; have := hB.size; omega) (fun k hk => by cases hk; exact Nat.le_refl _)⟩
          case measure => simp [intOf]
      · subst hk0
        clear hk4 hk
        have e : bits .and .i32 (c / 16) 15 = dig c 2 := by simp only [dig]; rw [and15 _ (by omega) (by omega)]
        have hr : 0 ≤ dig c 2 ∧ dig c 2 < 16 := by simp only [dig]; omega
        generalize hd : dig c 2 = d at e hr
        have HD : Hid (dig c 2 = d) := hd
        clear hd
        have rU := run_upper d hr
        have rL := run_lower d hr
        clear hr
        cases hb : (bits .and .u8 m 4 != 0)
        · have HM : Hid ((bits .and .u8 m 4 != 0) = false) := hb
          go_wp2_with (at_builtin; refine wpList_append_fits _ rfl (.tmp 55) (.tmp 58) 22 rfl w.heap.size 5 i0 1 Trym.underlying22 hi hz1 w.heap.size 4 (6 + len) _ rfl (hown.alloc _) ⟨wr.heap.size, 0, none⟩ 1 1 [.int .u8 (hx false d)] rfl rfl (cell_one_new _ _ _) (ints_oneCell .u8 [hx false d]) (by omega) ?_; intro w2 hown2 hgrow2)
          go_roundw
          case rel => exact ⟨3, by omega, by go_num, rfl, esc_step 2 HD HM hown2, (hB.alloc hB.size _).grown hgrow2 (by simp; have := hB.size; omega) (fun k hk => by cases hk; exact Nat.le_refl _)⟩
          case measure => simp [intOf]
        · have HM : Hid ((bits .and .u8 m 4 != 0) = true) := hb
          go_wp2_with (at_builtin; refine wpList_append_fits _ rfl (.tmp 50) (.tmp 53) 22 rfl w.heap.size 5 i0 1 Trym.underlying22 hi hz1 w.heap.size 4 (6 + len) _ rfl (hown.alloc _) ⟨wr.heap.size, 0, none⟩ 1 1 [.int .u8 (hx true d)] rfl rfl (cell_one_new _ _ _) (ints_oneCell .u8 [hx true d]) (by omega) ?_; intro w2 hown2 hgrow2)
          go_roundw
          case rel => exact ⟨3, by omega, by go_num, rfl, esc_step 2 HD HM hown2, (hB.alloc hB.size _).grown hgrow2 (by simp; have := hB.size; omega) (fun k hk => by cases hk; exact Nat.le_refl _)⟩
          case measure => simp [intOf]
      · subst hk0
        clear hk4 hk
        have e : bits .and .i32 c 15 = dig c 3 := by simp only [dig]; rw [and15 _ (by omega) (by omega)]
        have hr : 0 ≤ dig c 3 ∧ dig c 3 < 16 := by simp only [dig]; omega
        generalize hd : dig c 3 = d at e hr
        have HD : Hid (dig c 3 = d) := hd
        clear hd
        have rU := run_upper d hr
        have rL := run_lower d hr
        clear hr
        cases hb : (bits .and .u8 m 8 != 0)
        · have HM : Hid ((bits .and .u8 m 8 != 0) = false) := hb
          go_wp2_with (at_builtin; refine wpList_append_fits _ rfl (.tmp 55) (.tmp 58) 22 rfl w.heap.size 5 i0 1 Trym.underlying22 hi hz1 w.heap.size 5 (6 + len) _ rfl (hown.alloc _) ⟨wr.heap.size, 0, none⟩ 1 1 [.int .u8 (hx false d)] rfl rfl (cell_one_new _ _ _) (ints_oneCell .u8 [hx false d]) (by omega) ?_; intro w2 hown2 hgrow2)
          go_roundw
          case rel => exact ⟨4, by omega, by go_num, rfl, esc_step 3 HD HM hown2, (hB.alloc hB.size _).grown hgrow2 (by simp; have := hB.size; omega) (fun k hk => by cases hk; exact Nat.le_refl _)⟩
          case measure => simp [intOf]
        · have HM : Hid ((bits .and .u8 m 8 != 0) = true) := hb
          go_wp2_with (at_builtin; refine wpList_append_fits _ rfl (.tmp 50) (.tmp 53) 22 rfl w.heap.size 5 i0 1 Trym.underlying22 hi hz1 w.heap.size 5 (6 + len) _ rfl (hown.alloc _) ⟨wr.heap.size, 0, none⟩ 1 1 [.int .u8 (hx true d)] rfl rfl (cell_one_new _ _ _) (ints_oneCell .u8 [hx true d]) (by omega) ?_; intro w2 hown2 hgrow2)
          go_roundw
          case rel => exact ⟨4, by omega, by go_num, rfl, esc_step 3 HD HM hown2, (hB.alloc hB.size _).grown hgrow2 (by simp; have := hB.size; omega) (fun k hk => by cases hk; exact Nat.le_refl _)⟩
          case measure => simp [intOf]
end Go.Proofs.Qxb6617940aMods
