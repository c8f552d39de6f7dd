/-
  SEAT b6001223a: the walk of 'FnPlainValueDecimal'.
-/
import Derived.Test.Qxb6001223aUtoa
namespace Go.Proofs.Qxb6001223a
open Go.RowKit

theorem utoa_any (w : World) (n : Nat) (hn : n ≤ 18446744073709551615) :
    Calls Try.prog 20 #[.int .u64 n] w fun e w' => ∃ g ds, w.heap.size ≤ g ∧ e = .returned (.slice (some ⟨g, 0, none⟩) ds.length ds.length) ∧ Own w' g ds.length ds.length ds ∧ Below w.heap.size w w' ∧ Dec ds := by
  by_cases h : n = 0
  · subst h; exact utoa_zero w
  · exact utoa_pos w n (by omega) hn

/-- Digits stand at i, and behind them no digit. -/
theorem pv_dec (w : World) {B : Nat} (b off n c i : Nat) (zs ds r : List Int) (hr : Row B w (some ⟨b, off, none⟩) n zs) (hnc : n ≤ c) (hbig : c ≤ 1099511627776) (hi : i ≤ n) (h : zs.drop i = ds ++ r) (hd : Dec ds)
    (he : r = [] ∨ digB (r.getD 0 0) = false) :
    Calls Try.prog 23 #[.slice (some ⟨b, off, none⟩) n c, .int .i64 i] w fun e w' => e = .returned (.tuple #[.slice (some ⟨b, off + i, none⟩) ds.length (c - i), .int .i64 ((i : Int) + (ds.length : Int))]) ∧ w = w' := by
  have hl : n - i = ds.length + r.length := by
    have := congrArg List.length h
    simp [hr.len] at this
    exact this
  have hp := hd.pos
  rcases hd.head with rfl | hh
  · have hx : zs.getD i 0 = 48 := getD_of_drop h 0 (by decide)
    simp at hl
    have hq := hr.cellAt i (by omega)
    rw [hx] at hq
    exact pv_zero w b off n c i hnc hbig (by omega) hq
  · have hx : zs.getD i 0 = ds.getD 0 0 := getD_of_drop h 0 hp
    have h57 := hd.dig (ds.getD 0 0) (by rw [List.getD_eq_getElem?_getD, List.getElem?_eq_getElem hp]; exact List.getElem_mem _)
    refine pv_digits w b off n c i ds.length zs hr hnc hbig hp (by omega) (by omega) (by omega) ?_ ?_
    · intro j _ hj
      rw [getD_of_drop h j hj]
      have := hd.dig (ds.getD j 0) (by rw [List.getD_eq_getElem?_getD, List.getElem?_eq_getElem hj]; exact List.getElem_mem _)
      exact decide_eq_true this
    · intro hlt
      rcases he with rfl | he
      · simp at hl; omega
      · have e : zs.getD (i + ds.length) 0 = r.getD 0 0 := by
          have : (zs.drop i)[ds.length]? = r[0]? := by rw [h, List.getElem?_append_right (Nat.le_refl _)]; simp
          rw [List.getElem?_drop] at this
          simp [List.getD_eq_getElem?_getD, this]
        rw [e]; exact he

theorem zzDigit_any (c : Int) (w : World) : Calls Try.prog 19 #[.int .u8 c] w fun e w' => e = .returned (.bool (digB c)) ∧ w = w' := by
  by_cases a1 : 48 ≤ c
  · by_cases a2 : c ≤ 57
    · have e : digB c = true := by simp [digB]; omega
      rw [e]
      go_enter Try.func19, Try.ntmps19
      go_wp2
      go_ret
      exact ⟨rfl, rfl⟩
    · have e : digB c = false := by simp [digB]; omega
      rw [e]
      go_enter Try.func19, Try.ntmps19
      go_wp2
      go_ret
      exact ⟨rfl, rfl⟩
  · have e : digB c = false := by simp [digB]; omega
    rw [e]
    go_enter Try.func19, Try.ntmps19
    go_wp2
    go_ret
    exact ⟨rfl, rfl⟩

theorem bytes18_yes (w : World) (a0 a2 : Option Addr) (l0 c0 l2 c2 : Nat) (i : Int) (h : l0 + l2 ≤ 1048576) :
    Calls Try.prog 18 #[.slice a0 l0 c0, .int .u64 i, .slice a2 l2 c2] w fun e w' => e = .returned (.bool true) ∧ w = w' := by
  go_enter Try.func18, Try.ntmps18
  go_wp2
  go_ret
  exact ⟨rfl, rfl⟩
theorem bytes18_no (w : World) (a0 a2 : Option Addr) (l0 c0 l2 c2 : Nat) (i : Int) (h : ¬ l0 + l2 ≤ 1048576) :
    Calls Try.prog 18 #[.slice a0 l0 c0, .int .u64 i, .slice a2 l2 c2] w fun e w' => e = .returned (.bool false) ∧ w = w' := by
  go_enter Try.func18, Try.ntmps18
  go_wp2
  all_goals
    go_ret
    exact ⟨rfl, rfl⟩

/-- Too much: true at once. -/
theorem decimal_out (w : World) (a0 a2 : Option Addr) (l0 c0 l2 c2 : Nat) (n : Int) (hs : ¬ l0 + l2 ≤ 1048576) :
    Calls Try.prog 7 #[.slice a0 l0 c0, .int .u64 n, .slice a2 l2 c2] w fun e w' => e = .returned (.bool true) ∧ Below w.heap.size w w' := by
  go_enter Try.func7, Try.ntmps7
  go_wp2_with (go_at_call 18; refine (bytes18_no _ _ _ _ _ _ _ _ hs).mono ?_; rintro e w' ⟨rfl, rfl⟩)
  go_ret
  exact ⟨rfl, Below.refl _ _⟩

/-- A digit leads the suffix: true at once. -/
theorem decimal_digit (w : World) (a0 : Option Addr) (b2 o2 l0 c0 l2 c2 : Nat) (n x : Int) (hs : l0 + l2 ≤ 1048576) (h2 : 0 < l2) (hx : w.cell? ⟨b2, o2, none⟩ = some (.int .u8 x)) (hd : digB x = true) :
    Calls Try.prog 7 #[.slice a0 l0 c0, .int .u64 n, .slice (some ⟨b2, o2, none⟩) l2 c2] w fun e w' => e = .returned (.bool true) ∧ Below w.heap.size w w' := by
  go_enter Try.func7, Try.ntmps7
  go_wp2_with (first | (go_at_call 18; refine (bytes18_yes _ _ _ _ _ _ _ _ hs).mono ?_; rintro e w' ⟨rfl, rfl⟩) | (go_at_call 19; refine (zzDigit_any _ _).mono ?_; rintro e w' ⟨rfl, rfl⟩; rw [hd]))
  go_ret
  exact ⟨rfl, Below.refl _ _⟩

theorem drop_left (p r : List Int) (n : Nat) (h : p.length = n) : (p ++ r).drop n = r := by
  subst h; simp

theorem zero_at (p d r : List Int) (n : Nat) (h : p.length = n) : (p ++ [48] ++ d ++ r).getD n 0 = 48 := by
  subst h
  rw [List.append_assoc, List.append_assoc, List.getD_eq_getElem?_getD, List.getElem?_append_right (Nat.le_refl _)]
  simp

set_option maxHeartbeats 2000000 in
theorem decimal_in (w : World) (a0 a2 : Option Addr) (l0 c0 l2 c2 n : Nat) (z0 z2 : List Int) (hs : l0 + l2 ≤ 1048576) (hn : n ≤ 18446744073709551615)
    (r0 : Row w.heap.size w a0 l0 z0) (r2 : Row w.heap.size w a2 l2 z2) (h2 : ¬ 0 < l2 ∨ ∃ b2 o2 x, a2 = some ⟨b2, o2, none⟩ ∧ 0 < l2 ∧ w.cell? ⟨b2, o2, none⟩ = some (.int .u8 x) ∧ digB x = false)
    (hz2 : z2 = [] ∨ digB (z2.getD 0 0) = false) :
    Calls Try.prog 7 #[.slice a0 l0 c0, .int .u64 n, .slice a2 l2 c2] w fun e w' => e = .returned (.bool true) ∧ Below w.heap.size w w' := by
  have HZ : Hid (z2 = [] ∨ digB (z2.getD 0 0) = false) := hz2
  clear hz2
  have HU := utoa_any w n hn
  rcases h2 with hl2 | ⟨b2, o2, x, rfl, hl2, hx, hd⟩
  all_goals
    go_enter Try.func7, Try.ntmps7
    go_wp2_with (first | (go_at_call 18; refine (bytes18_yes _ _ _ _ _ _ _ _ hs).mono ?_; rintro e w' ⟨rfl, rfl⟩) | (go_at_call 19; refine (zzDigit_any _ _).mono ?_; rintro e w' ⟨rfl, rfl⟩; rw [hd]))
    refine HU.mono ?_
    rintro e w1 ⟨g, ds, hg, rfl, O1, B1, hD⟩
    clear HU
    have hDp := hD.pos
    have hDl := hD.le
    have HD : Hid (Dec ds) := hD
    obtain ⟨m, hm⟩ : ∃ m, m = ds.length := ⟨_, rfl⟩
    rw [← hm] at O1 hDp hDl ⊢
    have HM : Hid (m = ds.length) := hm
    clear hD hm
    have hg1 : g + 1 ≤ w1.heap.size := O1.lt
    have s0 := (r0.below B1 (Nat.le_refl _)).mono B1.size
    have s2 := (r2.below B1 (Nat.le_refl _)).mono B1.size
    have s1 := O1.row.mono hg1
    clear r0 r2 O1
    -- 'line'
    go_wp2_with (at_make; refine wpList_mk rfl _ _ rfl _ (l0 + m + l2) rfl rfl (by omega) (by omega) ?_; intro w2 O2 B2)
    refine (zzAppend_any w2 _ _ _ _ a0 l0 c0 z0 (s0.below B2 (Nat.le_refl _)) O2 (by omega) (by omega)).mono ?_
    rintro e w3 ⟨rfl, O3, B3⟩
    simp only [Nat.zero_add, List.nil_append] at O3 ⊢
    have D3 := B2.trans B3
    clear O2 B2 B3
    go_wp2_with fail
    refine (zzAppend_any w3 _ _ _ _ _ m m ds (s1.below D3 (Nat.le_refl _)) O3 (by omega) (by omega)).mono ?_
    rintro e w4 ⟨rfl, O4, B4⟩
    have D4 := D3.trans B4
    clear O3 D3 B4
    go_wp2_with fail
    refine (zzAppend_any w4 _ _ _ _ _ l2 c2 z2 (s2.below D4 (Nat.le_refl _)) O4 (by omega) (by omega)).mono ?_
    rintro e w5 ⟨rfl, O5, B5⟩
    have D5 := D4.trans B5
    clear O4 D4 B5
    have R5 := O5.row
    have hd5 : Hid ((z0 ++ ds ++ z2).drop l0 = ds ++ z2) := by unfold Hid; rw [List.append_assoc]; exact drop_left _ _ _ s0.len
    have V1 := zz_of (pv_dec w5 _ _ _ (l0 + m + l2) l0 _ ds z2 R5 (Nat.le_refl _) (by omega) (by omega) hd5.out HD.out HZ.out)
    rw [← HM.out] at V1
    simp only [Nat.zero_add] at V1
    have T5 := R5.sub l0 m (by omega)
    rw [hd5.out, Nat.zero_add, List.take_append_of_le_length (by rw [HM.out]; exact Nat.le_refl _), List.take_of_length_le (by rw [HM.out]; exact Nat.le_refl _)] at T5
    go_wp2_with fail
    refine V1.mono ?_
    rintro e w' ⟨rfl, rfl⟩
    clear V1 hd5 R5
    go_wp2_with fail
    refine (zzEq_any w5 _ _ m _ _ ds (by omega) T5 (s1.below D5 (Nat.le_refl _))).mono ?_
    rintro e w7 ⟨rfl, B7⟩
    have D7 := D5.trans (B7.mono D5.size)
    clear T5 D5 B7 O5
    -- 'zero'
    go_wp2_with (at_make; refine wpList_mk rfl _ _ rfl _ (l0 + m + l2 + 1) rfl rfl (by omega) (by omega) ?_; intro w8 O8 B8)
    have D8 := D7.trans (B8.mono D7.size)
    refine (zzAppend_any w8 _ _ _ _ a0 l0 c0 z0 ((s0.below D8 (Nat.le_refl _)).mono D7.size) O8 (by omega) (by omega)).mono ?_
    rintro e w9 ⟨rfl, O9, B9⟩
    simp only [Nat.zero_add, List.nil_append] at O9 ⊢
    have D9 := D8.trans (B9.mono D7.size)
    clear O8 B8 D8 B9
    go_wp2_with (at_builtin; refine wpList_push rfl _ _ rfl O9 rfl rfl (by omega) (by omega) ?_; intro w10 O10 B10)
    have D10 := D9.trans (B10.mono D7.size)
    clear O9 D9 B10
    refine (zzAppend_any w10 _ _ _ _ _ m m ds ((s1.below D10 (Nat.le_refl _)).mono D7.size) O10 (by omega) (by omega)).mono ?_
    rintro e w11 ⟨rfl, O11, B11⟩
    have D11 := D10.trans (B11.mono D7.size)
    clear O10 D10 B11
    go_wp2_with fail
    refine (zzAppend_any w11 _ _ _ _ _ l2 c2 z2 ((s2.below D11 (Nat.le_refl _)).mono D7.size) O11 (by omega) (by omega)).mono ?_
    rintro e w12 ⟨rfl, O12, B12⟩
    have D12 := D11.trans (B12.mono D7.size)
    clear O11 D11 B12
    have hq := O12.row.cellAt l0 (by omega)
    rw [zero_at z0 ds z2 l0 s0.len] at hq
    have V2 := zz_of (pv_zero w12 _ _ (l0 + 1 + m + l2) (l0 + m + l2 + 1) l0 (by omega) (by omega) (by omega) hq)
    simp only [Nat.zero_add] at V2 hq
    have DD := B1.trans (D12.mono B1.size)
    clear O12 D12 D7 s0 s1 s2
    go_wp2_with fail
    refine V2.mono ?_
    rintro e w' ⟨rfl, rfl⟩
    clear V2
    go_wp2
    go_ret
    exact ⟨rfl, DD⟩

end Go.Proofs.Qxb6001223a
