/-
  SEAT b6001223a: the walk of 'FnPlainValueLiteral'.
-/
import Derived.Test.Qxb6001223aLiteral
namespace Go.Proofs.Qxb6001223a
open Go.RowKit

theorem bytes21_yes (w : World) (a0 a2 : Option Addr) (l0 c0 l2 c2 : Nat) (i : Int) (h : l0 + l2 ≤ 1048576) :
    Calls Try.prog 21 #[.slice a0 l0 c0, .int .i64 i, .slice a2 l2 c2] w fun e w' => e = .returned (.bool true) ∧ w = w' := by
  go_enter Try.func21, Try.ntmps21
  go_wp2
  go_ret
  exact ⟨rfl, rfl⟩
theorem bytes21_no (w : World) (a0 a2 : Option Addr) (l0 c0 l2 c2 : Nat) (i : Int) (h : ¬ l0 + l2 ≤ 1048576) :
    Calls Try.prog 21 #[.slice a0 l0 c0, .int .i64 i, .slice a2 l2 c2] w fun e w' => e = .returned (.bool false) ∧ w = w' := by
  go_enter Try.func21, Try.ntmps21
  go_wp2
  all_goals
    go_ret
    exact ⟨rfl, rfl⟩

/-- Too much, or no number of a literal: true at once. -/
theorem literal_out (w : World) (a0 a2 : Option Addr) (l0 c0 l2 c2 : Nat) (k : Int) (h : ¬ (l0 + l2 ≤ 1048576 ∧ 0 ≤ k ∧ k ≤ 2)) :
    Calls Try.prog 8 #[.slice a0 l0 c0, .int .i64 k, .slice a2 l2 c2] w fun e w' => e = .returned (.bool true) ∧ Below w.heap.size w w' := by
  by_cases hs : l0 + l2 ≤ 1048576
  · by_cases hi : k < 0
    · go_enter Try.func8, Try.ntmps8
      go_wp2_with (go_at_call 21; refine (bytes21_yes _ _ _ _ _ _ _ _ hs).mono ?_; rintro e w' ⟨rfl, rfl⟩)
      go_ret
      exact ⟨rfl, Below.refl _ _⟩
    · have hi2 : 2 < k := by omega
      clear h
      go_enter Try.func8, Try.ntmps8
      go_wp2_with (go_at_call 21; refine (bytes21_yes _ _ _ _ _ _ _ _ hs).mono ?_; rintro e w' ⟨rfl, rfl⟩)
      go_ret
      exact ⟨rfl, Below.refl _ _⟩
  · go_enter Try.func8, Try.ntmps8
    go_wp2_with (go_at_call 21; refine (bytes21_no _ _ _ _ _ _ _ _ hs).mono ?_; rintro e w' ⟨rfl, rfl⟩)
    go_ret
    exact ⟨rfl, Below.refl _ _⟩

theorem drop_left (p r : List Int) (n : Nat) (h : p.length = n) : (p ++ r).drop n = r := by
  subst h; simp

set_option maxHeartbeats 1000000 in
theorem literal_in (w : World) (a0 a2 : Option Addr) (l0 c0 l2 c2 k : Nat) (z0 z2 : List Int) (hs : l0 + l2 ≤ 1048576) (hk : k ≤ 2)
    (r0 : Row w.heap.size w a0 l0 z0) (r2 : Row w.heap.size w a2 l2 z2) :
    Calls Try.prog 8 #[.slice a0 l0 c0, .int .i64 k, .slice a2 l2 c2] w fun e w' => e = .returned (.bool true) ∧ Below w.heap.size w w' := by
  have heql := fun (wx : World) => Lib.run_eql_slice_nil (P := Try.prog) wx 22 5 none 0 0 0 0 Try.underlying22
  have HLIT := zzLiteral_any w k hk
  have HV1 : Hid (∀ (w : World) (B b off n c i : Nat) (zs r : List Int), Row B w (some ⟨b, off, none⟩) n zs → n ≤ c → c ≤ 1099511627776 → i ≤ n → zs.drop i = litOf k ++ r →
      Calls Try.prog 17 #[.slice (some ⟨b, off, none⟩) n c, .int .i64 i] w fun e w' => e = .returned (.tuple #[.slice (some ⟨b, off + i, none⟩) (litOf k).length (c - i), .int .i64 ((i : Int) + ((litOf k).length : Int))]) ∧ Below w.heap.size w w') :=
    fun w B b off n c i zs r h1 h2 h3 h4 h5 => zz_of (pv_lit w b off n c i k hk zs r h1 h2 h3 h4 h5)
  have HV2 : Hid (∀ (w : World) (B b off n c i : Nat) (zs : List Int), Row B w (some ⟨b, off, none⟩) n zs → n ≤ c → c ≤ 1099511627776 → i ≤ n → zs.drop i = (litOf k).take ((litOf k).length - 1) →
      Calls Try.prog 17 #[.slice (some ⟨b, off, none⟩) n c, .int .i64 i] w fun e w' => e = .returned (.tuple #[.slice none 0 0, .int .i64 (-1)]) ∧ Below w.heap.size w w') :=
    fun w B b off n c i zs h1 h2 h3 h4 h5 => zz_of (pv_litshort w b off n c i k hk zs h1 h2 h3 h4 h5)
  have hL := lit_len k
  obtain ⟨lt, hlt⟩ : ∃ lt, lt = litOf k := ⟨_, rfl⟩
  rw [← hlt] at HLIT HV1 HV2 hL
  clear hlt
  obtain ⟨L, hLe⟩ : ∃ L, L = lt.length := ⟨_, rfl⟩
  rw [← hLe] at HLIT HV1 HV2 hL
  have HLE : Hid (L = lt.length) := hLe
  clear hLe
  obtain ⟨hL4, hL5⟩ := hL
  go_enter Try.func8, Try.ntmps8
  go_wp2_with (first | (go_at_call 21; refine (bytes21_yes _ _ _ _ _ _ _ _ hs).mono ?_; rintro e w' ⟨rfl, rfl⟩))
  refine HLIT.mono ?_
  rintro e w1 ⟨rfl, O1, B1⟩
  clear HLIT
  have hg1 : w.heap.size + 1 ≤ w1.heap.size := O1.lt
  -- 'line'
  go_wp2_with (at_make; refine wpList_mk rfl _ _ rfl _ (l0 + L + l2) rfl rfl (by omega) (by omega) ?_; intro w2 O2 B2)
  have s0 := (r0.below B1 (Nat.le_refl _)).mono B1.size
  have s2 := (r2.below B1 (Nat.le_refl _)).mono B1.size
  have s1 := O1.row.mono hg1
  clear r0 r2 O1
  refine (zzAppend_any w2 _ _ _ _ a0 l0 c0 z0 (s0.below B2 (Nat.le_refl _)) O2 (by omega) (by omega)).mono ?_
  rintro e w3 ⟨rfl, O3, B3⟩
  simp only [Nat.zero_add, List.nil_append] at O3 ⊢
  have D3 := B2.trans B3
  clear O2 B2 B3
  go_wp2_with fail
  refine (zzAppend_any w3 _ _ _ _ _ L L lt (s1.below D3 (Nat.le_refl _)) O3 (by omega) (by omega)).mono ?_
  rintro e w4 ⟨rfl, O4, B4⟩
  have D4 := D3.trans B4
  clear O3 D3 B4
  go_wp2_with fail
  refine (zzAppend_any w4 _ _ _ _ a2 l2 c2 z2 (s2.below D4 (Nat.le_refl _)) O4 (by omega) (by omega)).mono ?_
  rintro e w5 ⟨rfl, O5, B5⟩
  have D5 := D4.trans B5
  clear O4 D4 B5
  have R5 := O5.row
  have hd5 : Hid ((z0 ++ lt ++ z2).drop l0 = lt ++ z2) := by unfold Hid; rw [List.append_assoc]; exact drop_left _ _ _ s0.len
  have V1 := HV1.out w5 _ _ _ _ (l0 + L + l2) l0 _ z2 R5 (Nat.le_refl _) (by omega) (by omega) hd5.out
  simp only [Nat.zero_add] at V1
  have T5 := R5.sub l0 L (by omega)
  rw [hd5.out, Nat.zero_add, List.take_append_of_le_length (by rw [HLE.out]; exact Nat.le_refl _), List.take_of_length_le (by rw [HLE.out]; exact Nat.le_refl _)] at T5
  go_wp2_with fail
  refine V1.mono ?_
  rintro e w6 ⟨rfl, B6⟩
  clear V1 hd5
  have hg5 : w1.heap.size + 1 ≤ w5.heap.size := O5.lt
  have T6 := T5.below B6 hg5
  have D6 := D5.trans (B6.mono D5.size)
  clear T5 R5 O5 D5
  go_wp2_with fail
  refine (zzEq_any w6 _ _ L _ _ lt (by omega) T6 (s1.below D6 (Nat.le_refl _))).mono ?_
  rintro e w7 ⟨rfl, B7⟩
  have D7 := D6.trans (B7.mono D6.size)
  clear T6 D6 B6 B7 HV1
  -- 'short'
  go_wp2_with (at_make; refine wpList_mk rfl _ _ rfl _ (l0 + L) rfl rfl (by omega) (by omega) ?_; intro w8 O8 B8)
  have D8 := D7.trans (B8.mono D7.size)
  refine (zzAppend_any w8 _ _ _ _ a0 l0 c0 z0 ((s0.below D8 (Nat.le_refl _)).mono D7.size) O8 (by omega) (by omega)).mono ?_
  rintro e w9 ⟨rfl, O9, B9⟩
  simp only [Nat.zero_add, List.nil_append] at O9 ⊢
  have D9 := D8.trans (B9.mono D7.size)
  clear O8 B8 D8 B9
  have U := s1.sub 0 (L - 1) (by omega)
  simp only [Nat.zero_add, List.drop_zero] at U
  go_wp2_with fail
  refine (zzAppend_any w9 _ _ _ _ _ (L - 1) L (lt.take (L - 1)) ((U.below D9 (Nat.le_refl _)).mono D7.size) O9 (by omega) (by omega)).mono ?_
  rintro e w10 ⟨rfl, O10, B10⟩
  have D10 := D9.trans (B10.mono D7.size)
  clear O9 D9 B10
  have V2 := HV2.out w10 _ _ _ _ (l0 + L) l0 _ O10.row (by omega) (by omega) (by omega) (drop_left _ _ _ s0.len)
  go_wp2_with fail
  refine V2.mono ?_
  rintro e w11 ⟨rfl, B11⟩
  have D11 := (B1.trans (D10.mono B1.size)).trans (B11.mono (Nat.le_trans B1.size D10.size))
  clear V2
  go_wp2
  go_ret
  exact ⟨rfl, D11⟩

end Go.Proofs.Qxb6001223a
