/-
  SEAT b6600374a: the plain law and the walk of 'FnIsIndexMatchesAutomaton'.
-/
import Derived.Test.Qxb6600374aIndex
namespace Go.Proofs.Qxb6600374a
open Go.RowKit

/-! ### The plain law -/
/-- The automaton's step. -/
def stp (q : Nat) (c : Int) : Nat :=
  if q = 0 then (if c = 48 then 1 else if 48 ≤ c ∧ c ≤ 57 then 2 else 3) else if q = 2 then (if 48 ≤ c ∧ c ≤ 57 then 2 else 3) else 3
/-- Its run, from state q on. -/
def runq (q : Nat) (l : List UInt8) : Nat := l.foldl (fun q b => stp q (b.toNat : Int)) q

theorem runq_snoc (s : ByteArray) (k : Nat) (h : k < s.size) : runq 0 (s.data.toList.take (k + 1)) = stp (runq 0 (s.data.toList.take k)) ((s[k]).toNat : Int) := by
  rw [take_snoc s k h]; simp [runq]

theorem run_three : ∀ l, runq 3 l = 3
  | [] => rfl
  | b :: l => by
    show runq (stp 3 _) l = 3
    have : stp 3 (b.toNat : Int) = 3 := rfl
    rw [this]; exact run_three l
theorem run_one : ∀ l, runq 1 l = if l.isEmpty then 1 else 3
  | [] => rfl
  | b :: l => by
    show runq (stp 1 _) l = _
    have : stp 1 (b.toNat : Int) = 3 := rfl
    rw [this, run_three]; rfl
theorem run_two : ∀ l, runq 2 l = if alld l then 2 else 3
  | [] => rfl
  | b :: l => by
    show runq (stp 2 _) l = _
    have e : alld (b :: l) = (digB (b.toNat : Int) && alld l) := rfl
    rw [e]
    by_cases h : 48 ≤ (b.toNat : Int) ∧ (b.toNat : Int) ≤ 57
    · have e1 : stp 2 (b.toNat : Int) = 2 := by unfold stp; rw [if_neg (by omega), if_pos rfl, if_pos h]
      have e2 : digB (b.toNat : Int) = true := decide_eq_true h
      rw [e1, e2, run_two l]; rfl
    · have e1 : stp 2 (b.toNat : Int) = 3 := by unfold stp; rw [if_neg (by omega), if_pos rfl, if_neg h]
      have e2 : digB (b.toNat : Int) = false := decide_eq_false h
      rw [e1, e2, run_three]; rfl

theorem idx_run (l : List UInt8) : idx l = (runq 0 l == 1 || runq 0 l == 2) := by
  cases l with
  | nil => rfl
  | cons b r =>
    have e0 : runq 0 (b :: r) = runq (stp 0 (b.toNat : Int)) r := rfl
    have ed : alld (b :: r) = (digB (b.toNat : Int) && alld r) := rfl
    rw [e0]
    unfold idx
    rw [ed]
    simp only [List.isEmpty_cons, List.getD_cons_zero, List.length_cons]
    by_cases h48 : (b.toNat : Int) = 48
    · have e1 : stp 0 (b.toNat : Int) = 1 := by unfold stp; rw [if_pos rfl, if_pos h48]
      have e2 : (b.toNat == 48) = true := by simp; omega
      have e3 : digB (b.toNat : Int) = true := decide_eq_true (by omega)
      rw [e1, e2, e3, run_one]
      cases r with
      | nil => rfl
      | cons => simp
    · have e2 : (b.toNat == 48) = false := by simp; omega
      rw [e2]
      by_cases h : 48 ≤ (b.toNat : Int) ∧ (b.toNat : Int) ≤ 57
      · have e1 : stp 0 (b.toNat : Int) = 2 := by unfold stp; rw [if_pos rfl, if_neg h48, if_pos h]
        have e3 : digB (b.toNat : Int) = true := decide_eq_true h
        rw [e1, e3, run_two]
        cases alld r <;> rfl
      · have e1 : stp 0 (b.toNat : Int) = 3 := by unfold stp; rw [if_pos rfl, if_neg h48, if_neg h]
        have e3 : digB (b.toNat : Int) = false := decide_eq_false h
        rw [e1, e3, run_three]
        rfl

theorem stp_le (q : Nat) (c : Int) : stp q c ≤ 3 := by
  unfold stp
  repeat' split
  all_goals omega
theorem runq_le (s : ByteArray) (k : Nat) (h : k ≤ s.size) : runq 0 (s.data.toList.take k) ≤ 3 := by
  match k with
  | 0 => simp [runq]
  | k + 1 => rw [runq_snoc s k (by omega)]; exact stp_le _ _

theorem stp_no (q : Nat) (c : Int) (h : ¬ (48 ≤ c ∧ c ≤ 57)) : stp q c = 3 := by
  unfold stp
  repeat' split
  all_goals omega
theorem stp_nought (q : Nat) (c : Int) (h : c = 48) : stp q c = if q = 0 then 1 else if q = 2 then 2 else 3 := by
  unfold stp
  repeat' split
  all_goals omega
theorem stp_digit (q : Nat) (c : Int) (h : 49 ≤ c ∧ c ≤ 57) : stp q c = if q = 0 then 2 else if q = 2 then 2 else 3 := by
  unfold stp
  repeat' split
  all_goals omega

/-! ### The walk -/
set_option maxHeartbeats 2000000 in
theorem automaton_any (s : ByteArray) (w : World) (hs : s.size ≤ 1048576) :
    Calls Try.prog 24 #[.string s] w fun e w' => e = .returned (.bool (idx s.data.toList)) ∧ w = w' := by
  go_enter Try.func24, Try.ntmps24
  go_wp2
  go_loop [3, 4] (fun st i => ∃ k q : Nat, k ≤ s.size ∧ i = .int .i64 k ∧ st = .int .i64 q ∧ q = runq 0 (s.data.toList.take k)) (fun _ i => s.size - (intOf i).toNat)
  case atStart => exact ⟨0, 0, Nat.zero_le _, rfl, rfl, by simp [runq]⟩
  case round =>
    obtain ⟨k, q, hk, rfl, rfl, hq⟩ := hrel
    have hq3 : q ≤ 3 := by rw [hq]; exact runq_le s k hk
    have HQ : Hid (q = runq 0 (s.data.toList.take k)) := hq
    clear hq
    by_cases hlt : k < s.size
    · have HS : Hid (runq 0 (s.data.toList.take (k + 1)) = stp q ((s[k]).toNat : Int)) := by unfold Hid; rw [runq_snoc s k hlt, ← HQ.out]
      clear HQ
      rcases (show ((s[k]).toNat : Int) < 48 ∨ ((s[k]).toNat : Int) = 48 ∨ (49 ≤ ((s[k]).toNat : Int) ∧ ((s[k]).toNat : Int) ≤ 57) ∨ 57 < ((s[k]).toNat : Int) by omega) with g | g | ⟨g, g'⟩ | g
      · have HV : Hid (runq 0 (s.data.toList.take (k + 1)) = 3) := by unfold Hid; rw [HS.out, stp_no q _ (by omega)]
        have g48 : (((s[k]).toNat : Int) == 48) = false := by simp; omega
        rcases (show q = 0 ∨ q = 1 ∨ q = 2 ∨ q = 3 by omega) with rfl | rfl | rfl | rfl
        all_goals
          go_wp2
          go_round
          case rel => exact ⟨k + 1, 3, by omega, by go_num, rfl, HV.out.symm⟩
          case measure => simp [intOf]; omega
      · have g48 : (((s[k]).toNat : Int) == 48) = true := by simp; omega
        have ga : 48 ≤ ((s[k]).toNat : Int) := by omega
        have gb : ((s[k]).toNat : Int) ≤ 57 := by omega
        have HV : Hid (runq 0 (s.data.toList.take (k + 1)) = if q = 0 then 1 else if q = 2 then 2 else 3) := by unfold Hid; rw [HS.out, stp_nought q _ g]
        clear g HS
        rcases (show q = 0 ∨ q = 1 ∨ q = 2 ∨ q = 3 by omega) with rfl | rfl | rfl | rfl
        all_goals
          go_wp2
          go_round
          case rel => first | exact ⟨k + 1, 1, by omega, by go_num, by rfl, HV.out.symm⟩ | exact ⟨k + 1, 2, by omega, by go_num, by rfl, HV.out.symm⟩ | exact ⟨k + 1, 3, by omega, by go_num, by rfl, HV.out.symm⟩
          case measure => simp [intOf]; omega
      · have g48 : (((s[k]).toNat : Int) == 48) = false := by simp; omega
        have ga : 48 ≤ ((s[k]).toNat : Int) := by omega
        have HV : Hid (runq 0 (s.data.toList.take (k + 1)) = if q = 0 then 2 else if q = 2 then 2 else 3) := by unfold Hid; rw [HS.out, stp_digit q _ ⟨g, g'⟩]
        rcases (show q = 0 ∨ q = 1 ∨ q = 2 ∨ q = 3 by omega) with rfl | rfl | rfl | rfl
        all_goals
          go_wp2
          go_round
          case rel => first | exact ⟨k + 1, 2, by omega, by go_num, by rfl, HV.out.symm⟩ | exact ⟨k + 1, 3, by omega, by go_num, by rfl, HV.out.symm⟩
          case measure => simp [intOf]; omega
      · have HV : Hid (runq 0 (s.data.toList.take (k + 1)) = 3) := by unfold Hid; rw [HS.out, stp_no q _ (by omega)]
        have g48 : (((s[k]).toNat : Int) == 48) = false := by simp; omega
        have ga : 48 ≤ ((s[k]).toNat : Int) := by omega
        have gd : decide (((s[k]).toNat : Int) ≤ 57) = false := decide_eq_false (by omega)
        rcases (show q = 0 ∨ q = 1 ∨ q = 2 ∨ q = 3 by omega) with rfl | rfl | rfl | rfl
        all_goals
          go_wp2
          go_round
          case rel => exact ⟨k + 1, 3, by omega, by go_num, rfl, HV.out.symm⟩
          case measure => simp [intOf]; omega
    · have HE : Hid (idx s.data.toList = (q == 1 || q == 2)) := by unfold Hid; rw [idx_run, HQ.out, take_end s k (by omega)]
      clear HQ
      rcases (show q = 0 ∨ q = 1 ∨ q = 2 ∨ q = 3 by omega) with rfl | rfl | rfl | rfl
      all_goals
        go_wp2
        go_ret
        exact ⟨by rw [HE.out]; rfl, rfl⟩

end Go.Proofs.Qxb6600374a
