/-
  SEAT b6001223a: the walk of 'FnPlainStringRefusesBadOrOpen', and the plain law behind it.
-/
import Derived.Test.Qxb6001223aStr
namespace Go.Proofs.Qxb6001223a
open Go.RowKit

/-! ### The plain law -/
theorem pscan_clean : ∀ (cl : List Int) (r : List Int), (∀ z ∈ cl, plainB z = true) → pscan (cl ++ r) = (pscan r).map (· + cl.length)
  | [], r, _ => by simp
  | c :: cl, r, h => by
    have hc := h c (by simp)
    have h34 : c ≠ 34 := by
      intro e; subst e; simp [plainB] at hc
    rw [List.cons_append, pscan, if_neg h34, if_pos hc, pscan_clean cl r (fun z hz => h z (by simp [hz])), Option.map_map]
    congr 1

theorem pstr_quote (p r : List Int) : pstr (p ++ 34 :: r) p.length = pscan r := by
  unfold pstr
  rw [if_pos (by simp)]
  congr 1
  rw [List.drop_append]
  simp

theorem law_bad (p cl r : List Int) (bad : Int) (h : ∀ z ∈ cl, plainB z = true) (hb : plainB bad = false) (hq : bad ≠ 34) : pstr (p ++ [34] ++ cl ++ [bad] ++ r) p.length = none := by
  rw [show p ++ [34] ++ cl ++ [bad] ++ r = p ++ 34 :: (cl ++ bad :: r) by simp, pstr_quote, pscan_clean _ _ h, pscan, if_neg hq, if_neg (by rw [hb]; decide)]
  rfl

theorem law_bad2 (p cl r : List Int) (bad : Int) (hq : bad ≠ 34) : pstr (p ++ [34] ++ cl ++ [bad] ++ r) (p.length + 1 + cl.length) = none := by
  unfold pstr
  rw [if_neg]
  have e : (p ++ [34] ++ cl ++ [bad] ++ r)[p.length + 1 + cl.length]? = some bad := by
    rw [List.append_assoc (p ++ [34] ++ cl), List.getElem?_append_right (by simp; omega)]
    have e2 : p.length + 1 + cl.length - (p ++ [34] ++ cl).length = 0 := by simp; omega
    rw [e2]
    rfl
  rw [e]
  simpa using hq

theorem law_open (p cl : List Int) (h : ∀ z ∈ cl, plainB z = true) : pstr (p ++ [34] ++ cl) p.length = none := by
  rw [show p ++ [34] ++ cl = p ++ 34 :: (cl ++ []) by simp, pstr_quote, pscan_clean _ _ h]
  rfl

theorem law_end (zs : List Int) (n : Nat) (h : zs.length ≤ n) : pstr zs n = none := by
  unfold pstr
  rw [if_neg]
  rw [List.getElem?_eq_none h]
  simp

/-! ### The walk -/
theorem bytes14_yes (w : World) (a0 a1 a3 : Option Addr) (l0 c0 l1 c1 l3 c3 : Nat) (b : Int) (h : l0 + l1 + l3 ≤ 1048576) :
    Calls Try.prog 14 #[.slice a0 l0 c0, .slice a1 l1 c1, .int .u8 b, .slice a3 l3 c3] w fun e w' => e = .returned (.bool true) ∧ w = w' := by
  go_enter Try.func14, Try.ntmps14
  go_wp2
  go_ret
  exact ⟨rfl, rfl⟩
theorem bytes14_no (w : World) (a0 a1 a3 : Option Addr) (l0 c0 l1 c1 l3 c3 : Nat) (b : Int) (h : ¬ l0 + l1 + l3 ≤ 1048576) :
    Calls Try.prog 14 #[.slice a0 l0 c0, .slice a1 l1 c1, .int .u8 b, .slice a3 l3 c3] w fun e w' => e = .returned (.bool false) ∧ w = w' := by
  go_enter Try.func14, Try.ntmps14
  go_wp2
  all_goals
    go_ret
    exact ⟨rfl, rfl⟩

set_option maxHeartbeats 1000000 in
set_option maxRecDepth 1000000 in
theorem refuses_walk (w : World) (a0 a1 a3 : Option Addr) (l0 c0 l1 c1 l3 c3 : Nat) (z0 z1 z3 : List Int) (bad : Int) (hb0 : 0 ≤ bad) (hb1 : bad ≤ 255)
    (r0 : Row w.heap.size w a0 l0 z0) (r1 : Row w.heap.size w a1 l1 z1) (r3 : Row w.heap.size w a3 l3 z3) :
    Calls Try.prog 4 #[.slice a0 l0 c0, .slice a1 l1 c1, .int .u8 bad, .slice a3 l3 c3] w fun e w' => e = .returned (.bool true) ∧ Below w.heap.size w w' := by
  by_cases hs : l0 + l1 + l3 ≤ 1048576
  · go_enter Try.func4, Try.ntmps4
    go_wp2_with (go_at_call 14; refine (bytes14_yes _ _ _ _ _ _ _ _ _ _ _ hs).mono ?_; rintro e w' ⟨rfl, rfl⟩)
    go_loop [9] (fun i => ∃ k : Nat, k ≤ l1 ∧ i = .int .i64 k ∧ ∀ j, j < k → plainB (z1.getD j 0) = true) (fun i => l1 - (intOf i).toNat)
    case atStart => exact ⟨0, Nat.zero_le _, rfl, fun j hj => by omega⟩
    case round =>
      obtain ⟨k, hk, rfl, hpl⟩ := hrel
      have HPL : Hid (∀ j, j < k → plainB (z1.getD j 0) = true) := hpl
      clear hpl
      by_cases hlt : k < l1
      · rcases r1.cells with h0 | ⟨b1, o1, rfl, hb1', hc1⟩
        · omega
        · obtain ⟨x, hx⟩ : ∃ x, x = z1.getD k 0 := ⟨_, rfl⟩
          have g1 : w.cell? ⟨b1, o1 + k, none⟩ = some (.int .u8 x) := by rw [hx]; exact hc1 k hlt
          have hxb := r1.getD k
          rw [← hx] at hxb
          obtain ⟨x0, x1⟩ := hxb
          have HX : Hid (x = z1.getD k 0) := hx
          clear hx hc1
          cases hp : plainB x
          · go_wp2_with (go_at_call 10; refine (plainByte_any _ _ x0 x1).mono ?_; rintro e w' ⟨rfl, rfl⟩; rw [hp])
            go_ret
            exact ⟨rfl, Below.refl _ _⟩
          · go_wp2_with (go_at_call 10; refine (plainByte_any _ _ x0 x1).mono ?_; rintro e w' ⟨rfl, rfl⟩; rw [hp])
            go_round
            case rel =>
              refine ⟨k + 1, by omega, by go_num, fun j hj => ?_⟩
              by_cases e : j = k
              · subst e; rw [← HX.out]; exact hp
              · exact HPL.out j (by omega)
            case measure => simp [intOf]; omega
      · have HALL : Hid (∀ z ∈ z1, plainB z = true) := by
          intro z hz
          obtain ⟨j, hj, rfl⟩ := List.mem_iff_getElem.1 hz
          have hl := r1.len
          have := HPL.out j (by omega)
          rwa [List.getD_eq_getElem?_getD, List.getElem?_eq_getElem hj] at this
        clear HPL
        cases hp : plainB bad
        · by_cases hq : bad = 34
          · subst hq
            go_wp2_with (go_at_call 10; refine (plainByte_any _ _ hb0 hb1).mono ?_; rintro e w' ⟨rfl, rfl⟩; rw [hp])
            go_ret
            exact ⟨rfl, Below.refl _ _⟩
          · have hqb : (bad == 34) = false := by simpa using hq
            go_wp2_with (first | (go_at_call 10; refine (plainByte_any _ _ hb0 hb1).mono ?_; rintro e w' ⟨rfl, rfl⟩; rw [hp]) | (at_make; refine wpList_mk rfl _ _ rfl _ (l0 + l1 + l3 + 2) rfl rfl (by omega) (by omega) ?_; intro w1 O1 B1))
            -- the first piece of 'line'
            refine (zzAppend_any w1 _ _ _ _ a0 l0 c0 z0 (r0.below B1 (Nat.le_refl _)) O1 (by omega) (by omega)).mono ?_
            rintro e w2 ⟨rfl, O2, B2⟩
            simp only [Nat.zero_add, List.nil_append] at O2 ⊢
            have C2 := B1.trans B2
            clear O1 B1 B2
            -- the quote, then the second piece
            go_wp2_with (at_builtin; refine wpList_push rfl _ _ rfl O2 rfl rfl (by omega) (by omega) ?_; intro w3 O3 B3)
            have C3 := C2.trans B3
            clear O2 C2 B3
            refine (zzAppend_any w3 _ _ _ _ a1 l1 c1 z1 (r1.below C3 (Nat.le_refl _)) O3 (by omega) (by omega)).mono ?_
            rintro e w4 ⟨rfl, O4, B4⟩
            have C4 := C3.trans B4
            clear O3 C3 B4
            go_wp2_with (at_builtin; refine wpList_push rfl _ _ rfl O4 rfl rfl ⟨hb0, hb1⟩ (by omega) ?_; intro w5 O5 B5)
            have C5 := C4.trans B5
            clear O4 C4 B5
            refine (zzAppend_any w5 _ _ _ _ a3 l3 c3 z3 (r3.below C5 (Nat.le_refl _)) O5 (by omega) (by omega)).mono ?_
            rintro e w6 ⟨rfl, O6, B6⟩
            have C6 := C5.trans B6
            clear O5 C5 B6
            have P1 := law_bad z0 z1 z3 bad HALL.out hp hq
            have P2 := law_bad2 z0 z1 z3 bad hq
            rw [r0.len] at P1 P2
            rw [r1.len] at P2
            have HP1 := show Hid _ from P1
            have HP2 := show Hid _ from P2
            clear P1 P2
            have R6 := O6.row
            have hl6 := O6.len
            have hneq := fun (wx : World) => run_neq_slice_nil_any (P := Try.prog) wx 22 5 none 0 0 0 0 Try.underlying22
            have heql := fun (wx : World) => Lib.run_eql_slice_nil (P := Try.prog) wx 22 5 none 0 0 0 0 Try.underlying22
            go_wp2_with fail
            refine (ps_refuses w6 _ _ _ l0 _ rfl _ R6 (by omega) (by omega) (by omega) HP1.out).mono ?_
            rintro e w' ⟨rfl, rfl⟩
            go_wp2_with fail
            refine (ps_refuses w6 _ _ _ (l0 + 1 + l1) _ (by omega) _ R6 (by omega) (by omega) (by omega) HP2.out).mono ?_
            rintro e w' ⟨rfl, rfl⟩
            clear R6 hl6 O6 HP1 HP2
            -- 'open'
            go_wp2_with (at_make; refine wpList_mk rfl _ _ rfl _ (l0 + l1 + 1) rfl rfl (by omega) (by omega) ?_; intro w7 O7 B7)
            have hg : w.heap.size ≤ w6.heap.size := C6.size
            have C7 := C6.trans (B7.mono hg)
            clear C6 B7
            refine (zzAppend_any w7 _ _ _ _ a0 l0 c0 z0 ((r0.below C7 (Nat.le_refl _)).mono hg) O7 (by omega) (by omega)).mono ?_
            rintro e w8 ⟨rfl, O8, B8⟩
            simp only [Nat.zero_add, List.nil_append] at O8 ⊢
            have C8 := C7.trans (B8.mono hg)
            clear O7 C7 B8
            go_wp2_with (at_builtin; refine wpList_push rfl _ _ rfl O8 rfl rfl (by omega) (by omega) ?_; intro w9 O9 B9)
            have C9 := C8.trans (B9.mono hg)
            clear O8 C8 B9
            refine (zzAppend_any w9 _ _ _ _ a1 l1 c1 z1 ((r1.below C9 (Nat.le_refl _)).mono hg) O9 (by omega) (by omega)).mono ?_
            rintro e w10 ⟨rfl, O10, B10⟩
            have C10 := C9.trans (B10.mono hg)
            clear O9 C9 B10
            have R10 := O10.row
            have hl10 := O10.len
            have P3 := law_open z0 z1 HALL.out
            have P4 := law_end (z0 ++ [34] ++ z1) (l0 + 1 + l1) (by omega)
            rw [r0.len] at P3
            have HP3 := show Hid _ from P3
            have HP4 := show Hid _ from P4
            clear P3 P4
            go_wp2_with fail
            refine (ps_refuses w10 _ _ _ l0 _ rfl _ R10 (by omega) (by omega) (by omega) HP3.out).mono ?_
            rintro e w' ⟨rfl, rfl⟩
            go_wp2_with fail
            refine (ps_refuses w10 _ _ _ (l0 + 1 + l1) _ (by omega) _ R10 (by omega) (by omega) (by omega) HP4.out).mono ?_
            rintro e w' ⟨rfl, rfl⟩
            go_wp2
            go_ret
            exact ⟨rfl, C10⟩
        · go_wp2_with (go_at_call 10; refine (plainByte_any _ _ hb0 hb1).mono ?_; rintro e w' ⟨rfl, rfl⟩; rw [hp])
          go_ret
          exact ⟨rfl, Below.refl _ _⟩
  · go_enter Try.func4, Try.ntmps4
    go_wp2_with (go_at_call 14; refine (bytes14_no _ _ _ _ _ _ _ _ _ _ _ hs).mono ?_; rintro e w' ⟨rfl, rfl⟩)
    go_ret
    exact ⟨rfl, Below.refl _ _⟩

end Go.Proofs.Qxb6001223a
