/-
  SEAT b6001223a: the walk of 'FnPlainStringSoundAndLocal'.
-/
import Derived.Test.Qxb6001223aClone
import Derived.Test.Qxb6001223aRefuses
namespace Go.Proofs.Qxb6001223a
open Go.RowKit

theorem bytes15_yes (w : World) (a0 a2 : Option Addr) (l0 c0 l2 c2 : Nat) (i : Int) (h : l0 + l2 ≤ 1048576) :
    Calls Try.prog 15 #[.slice a0 l0 c0, .int .i64 i, .slice a2 l2 c2] w fun e w' => e = .returned (.bool true) ∧ w = w' := by
  go_enter Try.func15, Try.ntmps15
  go_wp2
  go_ret
  exact ⟨rfl, rfl⟩
theorem bytes15_no (w : World) (a0 a2 : Option Addr) (l0 c0 l2 c2 : Nat) (i : Int) (h : ¬ l0 + l2 ≤ 1048576) :
    Calls Try.prog 15 #[.slice a0 l0 c0, .int .i64 i, .slice a2 l2 c2] w fun e w' => e = .returned (.bool false) ∧ w = w' := by
  go_enter Try.func15, Try.ntmps15
  go_wp2
  all_goals
    go_ret
    exact ⟨rfl, rfl⟩

/-- Too much, or a place outside the line: true at once. -/
theorem sound_out (w : World) (a0 a2 : Option Addr) (l0 c0 l2 c2 : Nat) (i : Int) (h : ¬ (l0 + l2 ≤ 1048576 ∧ 0 ≤ i ∧ i ≤ l0)) :
    Calls Try.prog 5 #[.slice a0 l0 c0, .int .i64 i, .slice a2 l2 c2] w fun e w' => e = .returned (.bool true) ∧ Below w.heap.size w w' := by
  by_cases hs : l0 + l2 ≤ 1048576
  · by_cases hi : i < 0
    · go_enter Try.func5, Try.ntmps5
      go_wp2_with (go_at_call 15; refine (bytes15_yes _ _ _ _ _ _ _ _ hs).mono ?_; rintro e w' ⟨rfl, rfl⟩)
      go_ret
      exact ⟨rfl, Below.refl _ _⟩
    · have hi2 : (l0 : Int) < i := by omega
      clear h
      go_enter Try.func5, Try.ntmps5
      go_wp2_with (go_at_call 15; refine (bytes15_yes _ _ _ _ _ _ _ _ hs).mono ?_; rintro e w' ⟨rfl, rfl⟩)
      go_ret
      exact ⟨rfl, Below.refl _ _⟩
  · go_enter Try.func5, Try.ntmps5
    go_wp2_with (go_at_call 15; refine (bytes15_no _ _ _ _ _ _ _ _ hs).mono ?_; rintro e w' ⟨rfl, rfl⟩)
    go_ret
    exact ⟨rfl, Below.refl _ _⟩

set_option maxHeartbeats 1000000 in
/-- The nil line. -/
theorem sound_nil (w : World) (a2 : Option Addr) (l2 c2 : Nat) (hs : l2 ≤ 1048576) :
    Calls Try.prog 5 #[.slice none 0 0, .int .i64 0, .slice a2 l2 c2] w fun e w' => e = .returned (.bool true) ∧ Below w.heap.size w w' := by
  have hneq := fun (wx : World) => run_neq_slice_nil_any (P := Try.prog) wx 22 5 none 0 0 0 0 Try.underlying22
  have heql := fun (wx : World) => Lib.run_eql_slice_nil (P := Try.prog) wx 22 5 none 0 0 0 0 Try.underlying22
  go_enter Try.func5, Try.ntmps5
  go_wp2_with (first | (go_at_call 15; refine (bytes15_yes _ _ _ _ _ _ _ _ (by omega)).mono ?_; rintro e w' ⟨rfl, rfl⟩) | (go_at_call 12; refine (ps_end w none 0 0).mono ?_; rintro e w' ⟨rfl, rfl⟩))
  go_ret
  exact ⟨rfl, Below.refl _ _⟩

theorem cut_same (zs r : List Int) (i k : Nat) (h : i + 1 + k + 1 ≤ zs.length) : ((zs.take (i + 1 + k + 1) ++ r).drop (i + 1)).take k = (zs.drop (i + 1)).take k := by
  rw [List.drop_append_of_le_length (by simp; omega), List.drop_take, List.take_append_of_le_length (by simp; omega), List.take_take]
  congr 1
  omega

set_option maxHeartbeats 1000000 in
theorem sound_some (w : World) (x : Addr) (a2 : Option Addr) (l0 c0 l2 c2 i : Nat) (z0 z2 : List Int) (hs : l0 + l2 ≤ 1048576) (hi : i ≤ l0)
    (r0 : Row w.heap.size w (some x) l0 z0) (r2 : Row w.heap.size w a2 l2 z2) :
    Calls Try.prog 5 #[.slice (some x) l0 c0, .int .i64 i, .slice a2 l2 c2] w fun e w' => e = .returned (.bool true) ∧ Below w.heap.size w w' := by
  have hneq := fun (wx : World) => run_neq_slice_nil_any (P := Try.prog) wx 22 5 (some x) l0 c0 0 0 Try.underlying22
  have heql := fun (wx : World) => Lib.run_eql_slice_nil (P := Try.prog) wx 22 5 none 0 0 0 0 Try.underlying22
  go_enter Try.func5, Try.ntmps5
  go_wp2_with (first | (go_at_call 15; refine (bytes15_yes _ _ _ _ _ _ _ _ (by omega)).mono ?_; rintro e w' ⟨rfl, rfl⟩) | (at_make; refine wpList_mkfull rfl _ _ rfl _ _ l0 rfl rfl rfl rfl (by omega) ?_; intro w1 O1 B1) | (refine wpList_copyrow rfl (.tmp 48) (.tmp 49) rfl O1 (r0.below B1 (Nat.le_refl _)) rfl rfl ?_; intro w2 O2 B2))
  have C2 := B1.trans B2
  clear O1 B1 B2
  have R2 := O2.row
  cases hps : pstr z0 i with
  | none =>
    refine (ps_refuses w2 _ _ _ i _ rfl _ R2 (by omega) (by omega) (by omega) hps).mono ?_
    rintro e w' ⟨rfl, rfl⟩
    clear hps
    go_wp2
    go_ret
    exact ⟨rfl, C2⟩
  | some k =>
    obtain ⟨q1, q2, q3, q4, q5⟩ := pstr_spec hps
    have hl0 := r0.len
    have e1 : w2.cell? ⟨w.heap.size, i, none⟩ = some (.int .u8 34) := by
      rcases R2.cells with h0 | ⟨b, off, ha, _, hc⟩
      · omega
      · simp only [Option.some.injEq, Addr.mk.injEq, and_true] at ha
        obtain ⟨rfl, rfl⟩ := ha
        have := hc i (by omega)
        rwa [q1, Nat.zero_add] at this
    have e2 : w2.cell? ⟨w.heap.size, i + 1 + k, none⟩ = some (.int .u8 34) := by
      rcases R2.cells with h0 | ⟨b, off, ha, _, hc⟩
      · omega
      · simp only [Option.some.injEq, Addr.mk.injEq, and_true] at ha
        obtain ⟨rfl, rfl⟩ := ha
        have := hc (i + 1 + k) (by omega)
        rwa [q3, Nat.zero_add] at this
    refine (ps_accepts w2 _ _ _ _ i k (i + 1) _ rfl _ R2 (by omega) (by omega) hps (by omega)).mono ?_
    rintro e w' ⟨rfl, rfl⟩
    have HPS : Hid (pstr z0 i = some k) := hps
    have H4 : Hid (∀ z ∈ (z0.drop (i + 1)).take k, plainB z = true) := q4
    have H5 : Hid (∀ r, pstr (z0.take (i + 1 + k + 1) ++ r) i = some k) := q5
    have hk : i + 1 + k < l0 := by omega
    clear hps q1 q2 q3 q4 q5 hl0
    have RS2 := R2.sub (i + 1) k (by omega)
    rw [Nat.zero_add] at RS2
    obtain ⟨ss, hss⟩ : ∃ ss, ss = (z0.drop (i + 1)).take k := ⟨_, rfl⟩
    rw [← hss] at RS2
    have H4' : Hid (∀ z ∈ ss, plainB z = true) := by rw [hss]; exact H4.out
    have HSS : Hid (ss = (z0.drop (i + 1)).take k) := hss
    clear H4 hss
    go_wp2_with fail
    refine (zzEq_any w2 _ _ k _ _ ss (by omega) RS2 RS2).mono ?_
    rintro e w3 ⟨rfl, B3⟩
    have hg2 : w.heap.size + 1 ≤ w2.heap.size := O2.lt
    have RS3 := RS2.below B3 hg2
    have R3 := R2.below B3 hg2
    have C3 := C2.trans (B3.mono C2.size)
    clear RS2 R2 C2 O2 e1 e2
    go_wp2_with fail
    go_loop [10] (fun t => ∃ j : Nat, j ≤ k ∧ t = .int .i64 j) (fun t => k - (intOf t).toNat)
    case atStart => exact ⟨0, Nat.zero_le _, rfl⟩
    case round =>
      obtain ⟨j, hj, rfl⟩ := hrel
      by_cases hlt : j < k
      · obtain ⟨y, hy⟩ : ∃ y, y = ss.getD j 0 := ⟨_, rfl⟩
        have gy : w3.cell? ⟨w.heap.size, i + 1 + j, none⟩ = some (.int .u8 y) := by
          rw [hy]
          rcases RS3.cells with h0 | ⟨b, off, ha, _, hc⟩
          · omega
          · simp only [Option.some.injEq, Addr.mk.injEq, and_true] at ha
            obtain ⟨rfl, rfl⟩ := ha
            exact hc j hlt
        have hyb := RS3.getD j
        rw [← hy] at hyb
        have hyp : plainB y = true := by
          rw [hy]
          have hl := RS3.len
          exact H4'.out _ (by rw [List.getD_eq_getElem?_getD, List.getElem?_eq_getElem (by omega)]; exact List.getElem_mem _)
        clear hy
        go_wp2_with (go_at_call 10; refine (plainByte_any _ _ hyb.1 hyb.2).mono ?_; rintro e w' ⟨rfl, rfl⟩; rw [hyp])
        go_round
        case rel => exact ⟨j + 1, by omega, by go_num⟩
        case measure => simp [intOf]; omega
      · go_wp2_with (at_make; refine wpList_mk rfl _ _ rfl _ (i + 1 + k + 1 + l2) rfl rfl (by omega) (by omega) ?_; intro w4 O4 B4)
        have hg3 : w.heap.size + 1 ≤ w3.heap.size := Nat.le_trans hg2 B3.size
        have RL := (R3.sub 0 (i + 1 + k + 1) (by omega)).mono hg3
        simp only [Nat.zero_add, List.drop_zero] at RL
        have C4 := C3.trans (B4.mono C3.size)
        have RS4 := (RS3.mono hg3).below B4 (Nat.le_refl _)
        refine (zzAppend_any w4 _ _ _ _ _ _ _ _ (RL.below B4 (Nat.le_refl _)) O4 (by omega) (by omega)).mono ?_
        rintro e w5 ⟨rfl, O5, B5⟩
        simp only [Nat.zero_add, List.nil_append] at O5 ⊢
        have C5 := C4.trans (B5.mono C3.size)
        have RS5 := RS4.below B5 (Nat.le_refl _)
        clear O4 B4 C4 RS4 B5 RL
        go_wp2_with fail
        refine (zzAppend_any w5 _ _ _ _ a2 l2 c2 z2 ((r2.below C5 (Nat.le_refl _)).mono C3.size) O5 (by omega) (by omega)).mono ?_
        rintro e w6 ⟨rfl, O6, B6⟩
        have C6 := C5.trans (B6.mono C3.size)
        have RS6 := RS5.below B6 (Nat.le_refl _)
        clear O5 C5 RS5 B6
        have R6 := O6.row
        have RT6 := R6.sub (i + 1) k (by omega)
        rw [Nat.zero_add, cut_same z0 z2 i k (by have := r0.len; omega), ← HSS.out] at RT6
        go_wp2_with fail
        refine (ps_accepts w6 _ _ _ _ i k (i + 1) _ rfl _ R6 (by omega) (by omega) (H5.out z2) (by omega)).mono ?_
        rintro e w' ⟨rfl, rfl⟩
        go_wp2_with fail
        refine (zzEq_any w6 _ _ k _ _ ss (by omega) RT6 RS6).mono ?_
        rintro e w7 ⟨rfl, B7⟩
        have C7 := C6.trans (B7.mono C6.size)
        go_wp2
        go_ret
        exact ⟨rfl, C7⟩

end Go.Proofs.Qxb6001223a
