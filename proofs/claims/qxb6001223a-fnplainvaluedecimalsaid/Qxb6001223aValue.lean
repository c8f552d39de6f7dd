/-
  SEAT b6001223a: 'plainValue' at a quote, at a nought, at a digit; 'ZZPlainValue', which hands it on.
-/
import Derived.Test.Qxb6001223aClone
namespace Go.Proofs.Qxb6001223a
open Go.RowKit

/-- 'ZZPlainValue' is 'plainValue'. -/
theorem zz_of {w : World} {v i s t : Value} {P : World → Prop} (h : Calls Try.prog 23 #[v, i] w fun e w' => e = .returned (.tuple #[s, t]) ∧ P w') :
    Calls Try.prog 17 #[v, i] w fun e w' => e = .returned (.tuple #[s, t]) ∧ P w' := by
  have H : Hid (Calls Try.prog 23 #[v, i] w fun e w' => e = .returned (.tuple #[s, t]) ∧ P w') := h
  clear h
  go_enter Try.func17, Try.ntmps17
  go_wp2_with fail
  refine (Hid.out H).mono ?_
  rintro e w' ⟨rfl, hp⟩
  go_wp2
  go_ret2
  exact ⟨rfl, hp⟩

theorem pv_quote_none (w : World) {B : Nat} (b off n c i : Nat) (zs : List Int) (hr : Row B w (some ⟨b, off, none⟩) n zs) (hnc : n ≤ c) (hbig : c ≤ 1099511627776) (hi : i < n)
    (hq : w.cell? ⟨b, off + i, none⟩ = some (.int .u8 34)) (h : pstr zs i = none) :
    Calls Try.prog 23 #[.slice (some ⟨b, off, none⟩) n c, .int .i64 i] w fun e w' => e = .returned (.tuple #[.slice none 0 0, .int .i64 (-1)]) ∧ w = w' := by
  have hne : ((i : Int) == (n : Int)) = false := by simp; omega
  have HN : Hid (pstr zs i = none) := h
  clear h
  go_enter Try.func23, Try.ntmps23
  go_wp2_with (go_at_call 12; refine (ps_refuses w _ _ _ i _ rfl _ hr hnc hbig (by omega) HN.out).mono ?_; rintro e w' ⟨rfl, rfl⟩)
  go_ret2
  exact ⟨rfl, rfl⟩

theorem pv_quote_some (w : World) {B : Nat} (b off n c i k : Nat) (zs : List Int) (hr : Row B w (some ⟨b, off, none⟩) n zs) (hnc : n ≤ c) (hbig : c ≤ 1099511627776) (hi : i < n)
    (hq : w.cell? ⟨b, off + i, none⟩ = some (.int .u8 34)) (h : pstr zs i = some k) :
    Calls Try.prog 23 #[.slice (some ⟨b, off, none⟩) n c, .int .i64 i] w fun e w' => e = .returned (.tuple #[.slice (some ⟨b, off + i, none⟩) (k + 2) (c - i), .int .i64 ((i : Int) + 1 + (k : Int) + 1)]) ∧ w = w' := by
  have hne : ((i : Int) == (n : Int)) = false := by simp; omega
  have hk : i + 1 + k < n := by have := (pstr_spec h).2.1; have := hr.len; omega
  have HN : Hid (pstr zs i = some k) := h
  clear h
  go_enter Try.func23, Try.ntmps23
  go_wp2_with (go_at_call 12; refine (ps_accepts w _ _ _ _ i k _ _ rfl _ hr hnc hbig HN.out rfl).mono ?_; rintro e w' ⟨rfl, rfl⟩)
  go_ret2
  refine ⟨?_, rfl⟩
  have e : i + 1 + k + 1 - i = k + 2 := by omega
  show Ending.returned (.tuple #[.slice (some ⟨b, off + i, none⟩) (i + 1 + k + 1 - i) (c - i), .int .i64 ((i : Int) + 1 + (k : Int) + 1)]) = _
  rw [e]

/-- At a nought: the nought alone. -/
theorem pv_zero (w : World) (b off n c i : Nat) (hnc : n ≤ c) (hbig : c ≤ 1099511627776) (hi : i < n) (hq : w.cell? ⟨b, off + i, none⟩ = some (.int .u8 48)) :
    Calls Try.prog 23 #[.slice (some ⟨b, off, none⟩) n c, .int .i64 i] w fun e w' => e = .returned (.tuple #[.slice (some ⟨b, off + i, none⟩) 1 (c - i), .int .i64 ((i : Int) + 1)]) ∧ w = w' := by
  have hne : ((i : Int) == (n : Int)) = false := by simp; omega
  go_enter Try.func23, Try.ntmps23
  go_wp2
  go_ret2
  refine ⟨?_, rfl⟩
  have e : i + 1 - i = 1 := by omega
  first | rfl | (show Ending.returned (.tuple #[.slice (some ⟨b, off + i, none⟩) (i + 1 - i) (c - i), .int .i64 ((i : Int) + 1)]) = _; rw [e])

def digB (c : Int) : Bool := decide (48 ≤ c ∧ c ≤ 57)

set_option maxHeartbeats 400000 in
/-- At a digit that is no nought: the digits that stand there, 'm' in all. -/
theorem pv_digits (w : World) {B : Nat} (b off n c i m : Nat) (zs : List Int) (hr : Row B w (some ⟨b, off, none⟩) n zs) (hnc : n ≤ c) (hbig : c ≤ 1099511627776) (hm : 0 < m) (hi : i + m ≤ n)
    (h1 : 49 ≤ zs.getD i 0) (h2 : zs.getD i 0 ≤ 57) (hd : ∀ j, 0 < j → j < m → digB (zs.getD (i + j) 0) = true) (he : i + m < n → digB (zs.getD (i + m) 0) = false) :
    Calls Try.prog 23 #[.slice (some ⟨b, off, none⟩) n c, .int .i64 i] w fun e w' => e = .returned (.tuple #[.slice (some ⟨b, off + i, none⟩) m (c - i), .int .i64 ((i : Int) + (m : Int))]) ∧ w = w' := by
  have hne : ((i : Int) == (n : Int)) = false := by simp; omega
  obtain ⟨q, hq⟩ : ∃ q, q = zs.getD i 0 := ⟨_, rfl⟩
  rcases hr.cells with h0 | ⟨b', off', ha, _, hc⟩
  · omega
  simp only [Option.some.injEq, Addr.mk.injEq, and_true] at ha
  obtain ⟨rfl, rfl⟩ := ha
  have hci : w.cell? ⟨b, off + i, none⟩ = some (.int .u8 q) := by rw [hq]; exact hc i (by omega)
  rw [← hq] at h1 h2
  have HC : Hid (∀ j, j < n → w.cell? ⟨b, off + j, none⟩ = some (.int .u8 (zs.getD j 0))) := hc
  have HD : Hid (∀ j, 0 < j → j < m → digB (zs.getD (i + j) 0) = true) := hd
  have HE : Hid (i + m < n → digB (zs.getD (i + m) 0) = false) := he
  clear hc hq hd he
  have q34 : (q == 34) = false := by simp; omega
  have q48 : (q == 48) = false := by simp; omega
  go_enter Try.func23, Try.ntmps23
  go_wp2
  go_loop [5] (fun t => ∃ j : Nat, 0 < j ∧ j ≤ m ∧ t = .int .i64 ((i + j : Nat) : Int)) (fun t => n - (intOf t).toNat)
  case atStart => exact ⟨1, by omega, by omega, by go_num⟩
  case round =>
    obtain ⟨j, hj0, hj, rfl⟩ := hrel
    by_cases hlt : j < m
    · obtain ⟨x, hx⟩ : ∃ x, x = zs.getD (i + j) 0 := ⟨_, rfl⟩
      have hcx : w.cell? ⟨b, off + (i + j), none⟩ = some (.int .u8 x) := by rw [hx]; exact HC.out _ (by omega)
      have hxd : 48 ≤ x ∧ x ≤ 57 := by have := HD.out j hj0 hlt; rw [← hx] at this; simpa [digB] using this
      obtain ⟨x0, x1⟩ := hxd
      clear hx
      have hin : i + j < n := by omega
      go_wp2
      go_round
      case rel => exact ⟨j + 1, by omega, by omega, by go_num⟩
      case measure => simp [intOf]; omega
    · obtain rfl : j = m := by omega
      by_cases hin : i + j < n
      · obtain ⟨x, hx⟩ : ∃ x, x = zs.getD (i + j) 0 := ⟨_, rfl⟩
        have hcx : w.cell? ⟨b, off + (i + j), none⟩ = some (.int .u8 x) := by rw [hx]; exact HC.out _ (by omega)
        have hxd : ¬ (48 ≤ x ∧ x ≤ 57) := by have := HE.out hin; rw [← hx] at this; simpa [digB] using this
        clear hx
        by_cases x0 : 48 ≤ x
        · have x1 : ¬ x ≤ 57 := by omega
          clear hxd
          go_wp2
          go_ret2
          exact ⟨rfl, rfl⟩
        · clear hxd
          go_wp2
          go_ret2
          exact ⟨rfl, rfl⟩
      · go_wp2
        go_ret2
        exact ⟨rfl, rfl⟩

end Go.Proofs.Qxb6001223a
