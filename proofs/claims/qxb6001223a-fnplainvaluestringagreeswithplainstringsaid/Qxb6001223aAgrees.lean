/-
  SEAT b6001223a: the walk of 'FnPlainValueStringAgreesWithPlainString'.
-/
import Derived.Test.Qxb6001223aValue
namespace Go.Proofs.Qxb6001223a
open Go.RowKit

theorem bytes16_yes (w : World) (a0 : Option Addr) (l0 c0 : Nat) (i : Int) (h : l0 ≤ 1048576) :
    Calls Try.prog 16 #[.slice a0 l0 c0, .int .i64 i] w fun e w' => e = .returned (.bool true) ∧ w = w' := by
  go_enter Try.func16, Try.ntmps16
  go_wp2
  go_ret
  exact ⟨rfl, rfl⟩
theorem bytes16_no (w : World) (a0 : Option Addr) (l0 c0 : Nat) (i : Int) (h : ¬ l0 ≤ 1048576) :
    Calls Try.prog 16 #[.slice a0 l0 c0, .int .i64 i] w fun e w' => e = .returned (.bool false) ∧ w = w' := by
  go_enter Try.func16, Try.ntmps16
  go_wp2
  go_ret
  exact ⟨rfl, rfl⟩

/-- Too much, or a place outside the line: true at once. -/
theorem agrees_out (w : World) (a0 : Option Addr) (l0 c0 : Nat) (i : Int) (h : ¬ (l0 ≤ 1048576 ∧ 0 ≤ i ∧ i < l0)) :
    Calls Try.prog 6 #[.slice a0 l0 c0, .int .i64 i] w fun e w' => e = .returned (.bool true) ∧ Below w.heap.size w w' := by
  by_cases hs : l0 ≤ 1048576
  · by_cases hi : i < 0
    · go_enter Try.func6, Try.ntmps6
      go_wp2_with (go_at_call 16; refine (bytes16_yes _ _ _ _ _ hs).mono ?_; rintro e w' ⟨rfl, rfl⟩)
      go_ret
      exact ⟨rfl, Below.refl _ _⟩
    · have hi2 : (l0 : Int) ≤ i := by omega
      clear h
      go_enter Try.func6, Try.ntmps6
      go_wp2_with (go_at_call 16; refine (bytes16_yes _ _ _ _ _ hs).mono ?_; rintro e w' ⟨rfl, rfl⟩)
      go_ret
      exact ⟨rfl, Below.refl _ _⟩
  · go_enter Try.func6, Try.ntmps6
    go_wp2_with (go_at_call 16; refine (bytes16_no _ _ _ _ _ hs).mono ?_; rintro e w' ⟨rfl, rfl⟩)
    go_ret
    exact ⟨rfl, Below.refl _ _⟩

set_option maxHeartbeats 1000000 in
theorem agrees_in (w : World) (b off l0 c0 i : Nat) (z0 : List Int) (hs : l0 ≤ 1048576) (hi : i < l0) (r0 : Row w.heap.size w (some ⟨b, off, none⟩) l0 z0)
    (hc : ∀ j, j < l0 → w.cell? ⟨b, off + j, none⟩ = some (.int .u8 (z0.getD j 0))) :
    Calls Try.prog 6 #[.slice (some ⟨b, off, none⟩) l0 c0, .int .i64 i] w fun e w' => e = .returned (.bool true) ∧ Below w.heap.size w w' := by
  have hneq := fun (wx : World) => run_neq_slice_nil_any (P := Try.prog) wx 22 5 (some ⟨b, off, none⟩) l0 c0 0 0 Try.underlying22
  have heql := fun (wx : World) => Lib.run_eql_slice_nil (P := Try.prog) wx 22 5 none 0 0 0 0 Try.underlying22
  obtain ⟨q, hq⟩ : ∃ q, q = z0.getD i 0 := ⟨_, rfl⟩
  have hci : w.cell? ⟨b, off + i, none⟩ = some (.int .u8 q) := by rw [hq]; exact hc i hi
  have HQ : Hid (q = z0.getD i 0) := hq
  clear hq hc
  by_cases h34 : q = 34
  · subst h34
    go_enter Try.func6, Try.ntmps6
    go_wp2_with (first | (go_at_call 16; refine (bytes16_yes _ _ _ _ _ (by omega)).mono ?_; rintro e w' ⟨rfl, rfl⟩) | (at_make; refine wpList_mkfull rfl _ _ rfl _ _ l0 rfl rfl rfl rfl (by omega) ?_; intro w1 O1 B1) | (refine wpList_copyrow rfl (.tmp 35) (.tmp 36) rfl O1 (r0.below B1 (Nat.le_refl _)) rfl rfl ?_; intro w2 O2 B2))
    have C2 := B1.trans B2
    clear O1 B1 B2
    have R2 := O2.row
    have hl0 := r0.len
    have e1 : w2.cell? ⟨w.heap.size, 0 + i, none⟩ = some (.int .u8 34) := by
      rcases R2.cells with h0 | ⟨b', off', ha, _, hc⟩
      · omega
      · simp only [Option.some.injEq, Addr.mk.injEq, and_true] at ha
        obtain ⟨rfl, rfl⟩ := ha
        have := hc i (by omega)
        rwa [← HQ.out] at this
    cases hps : pstr z0 i with
    | none =>
      have HV := zz_of (pv_quote_none w2 _ _ _ _ i _ R2 (Nat.le_refl _) (by omega) hi e1 hps)
      refine (ps_refuses w2 _ _ _ i _ rfl _ R2 (by omega) (by omega) (by omega) hps).mono ?_
      rintro e w' ⟨rfl, rfl⟩
      clear hps
      go_wp2_with fail
      refine HV.mono ?_
      rintro e w' ⟨rfl, rfl⟩
      clear HV
      go_wp2
      go_ret
      exact ⟨rfl, C2⟩
    | some k =>
      obtain ⟨q1, q2, q3, q4, q5⟩ := pstr_spec hps
      have HV := zz_of (pv_quote_some w2 _ _ _ _ i k _ R2 (Nat.le_refl _) (by omega) hi e1 hps)
      simp only [Nat.zero_add] at HV e1
      have e2 : w2.cell? ⟨w.heap.size, i + (k + 1), none⟩ = some (.int .u8 34) := by
        rcases R2.cells with h0 | ⟨b, off, ha, _, hc⟩
        · omega
        · simp only [Option.some.injEq, Addr.mk.injEq, and_true] at ha
          obtain ⟨rfl, rfl⟩ := ha
          have := hc (i + 1 + k) (by omega)
          rw [q3, Nat.zero_add] at this
          rw [show i + (k + 1) = i + 1 + k by omega]
          exact this
      have RS := R2.sub (i + 1) k (by omega)
      rw [Nat.zero_add] at RS
      refine (ps_accepts w2 _ _ _ _ i k (i + 1) _ rfl _ R2 (by omega) (by omega) hps (by omega)).mono ?_
      rintro e w' ⟨rfl, rfl⟩
      have hk : i + 1 + k < l0 := by omega
      clear hps q1 q2 q3 q4 q5 hl0 HQ
      go_wp2_with fail
      refine HV.mono ?_
      rintro e w' ⟨rfl, rfl⟩
      clear HV
      go_wp2_with fail
      refine (zzEq_any w2 _ _ k _ _ _ (by omega) RS RS).mono ?_
      rintro e w3 ⟨rfl, B3⟩
      have C3 := C2.trans (B3.mono C2.size)
      go_wp2
      go_ret
      exact ⟨rfl, C3⟩
  · have hqb : (q != 34) = true := by simpa using h34
    go_enter Try.func6, Try.ntmps6
    go_wp2_with (go_at_call 16; refine (bytes16_yes _ _ _ _ _ (by omega)).mono ?_; rintro e w' ⟨rfl, rfl⟩)
    go_ret
    exact ⟨rfl, Below.refl _ _⟩

end Go.Proofs.Qxb6001223a
