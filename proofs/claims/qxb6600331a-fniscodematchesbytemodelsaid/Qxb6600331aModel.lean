/-
  SEAT b6600331a: the walk of 'FnIsCodeMatchesByteModel'.
-/
import Derived.Test.Qxb6600331aCode
namespace Go.Proofs.Qxb6600331a
open Go.RowKit

theorem bytes6_yes (w : World) (s : ByteArray) (a b : Int) (h : s.size ≤ 1048576) :
    Calls Try.prog 6 #[.string s, .int .i64 a, .int .i64 b] w fun e w' => e = .returned (.bool true) ∧ w = w' := by
  go_enter Try.func6, Try.ntmps6
  go_wp2
  go_ret
  exact ⟨rfl, rfl⟩
theorem bytes6_no (w : World) (s : ByteArray) (a b : Int) (h : ¬ s.size ≤ 1048576) :
    Calls Try.prog 6 #[.string s, .int .i64 a, .int .i64 b] w fun e w' => e = .returned (.bool false) ∧ w = w' := by
  go_enter Try.func6, Try.ntmps6
  go_wp2
  all_goals
    go_ret
    exact ⟨rfl, rfl⟩

theorem model_out (w : World) (s : ByteArray) (a b : Int) (h : ¬ s.size ≤ 1048576) :
    Calls Try.prog 3 #[.string s, .int .i64 a, .int .i64 b] w fun e w' => e = .returned (.bool true) ∧ Grown w w' := by
  go_enter Try.func3, Try.ntmps3
  go_wp2_with (go_at_call 6; refine (bytes6_no _ _ _ _ h).mono ?_; rintro e w' ⟨rfl, rfl⟩)
  go_ret
  exact ⟨rfl, Grown.refl _⟩

set_option maxHeartbeats 1000000 in
theorem model_in (w : World) (s : ByteArray) (a b : Int) (h : s.size ≤ 1048576) :
    Calls Try.prog 3 #[.string s, .int .i64 a, .int .i64 b] w fun e w' => e = .returned (.bool true) ∧ Grown w w' := by
  have HZ := zzIsCode_any s a b w
  obtain ⟨inB, hin⟩ : ∃ inB, inB = decide (a ≤ s.size ∧ (s.size : Int) ≤ b) := ⟨_, rfl⟩
  rw [← hin] at HZ
  obtain ⟨q, hq⟩ : ∃ q, q = (inB && allc s.data.toList) := ⟨_, rfl⟩
  rw [← hq] at HZ
  have HQ : Hid (q = (inB && allc s.data.toList)) := hq
  clear hq
  rcases (show (Hid (inB = true) ∧ a ≤ s.size ∧ (s.size : Int) ≤ b) ∨ (Hid (inB = false) ∧ ¬ a ≤ s.size) ∨ (Hid (inB = false) ∧ a ≤ s.size ∧ ¬ (s.size : Int) ≤ b) by
    unfold Hid; rw [hin]; simp only [decide_eq_true_eq, decide_eq_false_iff_not]; omega) with ⟨HB, h1, h2⟩ | ⟨HB, h1⟩ | ⟨HB, h1, h2⟩
  all_goals
    clear hin
    go_enter Try.func3, Try.ntmps3
    go_wp2_with (go_at_call 6; refine (bytes6_yes _ _ _ _ h).mono ?_; rintro e w' ⟨rfl, rfl⟩)
    go_loop [7, 8] (fun want i => ∃ k : Nat, k ≤ s.size ∧ i = .int .i64 k ∧ want = .bool (inB && allc (s.data.toList.take k))) (fun _ i => s.size - (intOf i).toNat)
    case atStart => exact ⟨0, Nat.zero_le _, rfl, by rw [HB.out]; first | rfl | (rw [decide_eq_false (by omega)]; rfl)⟩
    case round =>
      obtain ⟨k, hk, rfl, rfl⟩ := hrel
      obtain ⟨y, hy⟩ : ∃ y, y = (inB && allc (s.data.toList.take k)) := ⟨_, rfl⟩
      rw [← hy]
      have HY : Hid (y = (inB && allc (s.data.toList.take k))) := hy
      clear hy
      by_cases hlt : k < s.size
      · have hc0 : 0 ≤ ((s[k]).toNat : Int) := by omega
        have hc1 : ((s[k]).toNat : Int) ≤ 255 := by have := (s[k]).toNat_lt; omega
        cases hc : codeB ((s[k]).toNat : Int)
        · have HS : Hid (false = (inB && allc (s.data.toList.take (k + 1)))) := by unfold Hid; rw [allc_snoc s k hlt, hc]; simp
          go_wp2_with (go_at_call 7; refine (codeByte_any _ _ hc0 hc1).mono ?_; rintro e w' ⟨rfl, rfl⟩; rw [hc])
          go_round
          case rel => exact ⟨k + 1, by omega, by go_num, by rw [← HS.out]⟩
          case measure => simp [intOf]; omega
        · have HS : Hid (y = (inB && allc (s.data.toList.take (k + 1)))) := by unfold Hid; rw [allc_snoc s k hlt, hc, HY.out]; simp
          go_wp2_with (go_at_call 7; refine (codeByte_any _ _ hc0 hc1).mono ?_; rintro e w' ⟨rfl, rfl⟩; rw [hc])
          go_round
          case rel => exact ⟨k + 1, by omega, by go_num, by rw [← HS.out]⟩
          case measure => simp [intOf]; omega
      · have HE : Hid (y = q) := by unfold Hid; rw [HY.out, HQ.out, allc_end s k (by omega)]
        clear HY HQ
        obtain rfl := HE.out
        go_wp2_with (go_at_call 8; refine HZ.mono ?_; rintro e w' ⟨rfl, hg⟩)
        go_ret
        exact ⟨rfl, hg⟩

end Go.Proofs.Qxb6600331a
