/-
  SEAT b6001223a: 'PlainString' and 'zzEq' by their contracts.
-/
import Derived.Test.Qxb6001223aAppend
import Derived.WalkSpells
import Derived.WalkLawsBesides
namespace Go.Proofs.Qxb6001223a
open Go.RowKit

/-- Behind an opening quote: how many bytes stand ahead of the closing one, where all of them are plain. -/
def pscan : List Int → Option Nat
  | [] => none
  | c :: r => if c = 34 then some 0 else if plainB c then (pscan r).map (· + 1) else none

/-- The plain string at place i: how long is what it holds. -/
def pstr (zs : List Int) (i : Nat) : Option Nat := if zs[i]? = some 34 then pscan (zs.drop (i + 1)) else none

theorem pscan_at (zs : List Int) (j : Nat) (h : j < zs.length) :
    pscan (zs.drop j) = if zs.getD j 0 = 34 then some 0 else if plainB (zs.getD j 0) then (pscan (zs.drop (j + 1))).map (· + 1) else none := by
  rw [List.drop_eq_getElem_cons h, pscan]
  simp [List.getD_eq_getElem?_getD, h]

theorem pscan_end (zs : List Int) (j : Nat) (h : zs.length ≤ j) : pscan (zs.drop j) = none := by
  rw [List.drop_of_length_le h]; rfl

theorem pscan_lt : ∀ (zs : List Int) (k : Nat), pscan zs = some k → k < zs.length
  | [], _, h => by cases h
  | c :: r, k, h => by
    rw [pscan] at h
    split at h
    · cases h; simp
    · split at h
      · obtain ⟨m, hm, rfl⟩ := Option.map_eq_some_iff.1 h
        have := pscan_lt r m hm
        simp; omega
      · cases h

/-- What the walk has learnt behind t plain bytes. -/
def Went (zs : List Int) (i t : Nat) : Prop := pscan (zs.drop (i + 1)) = (pscan (zs.drop (i + 1 + t))).map (· + t)

theorem went_zero (zs : List Int) (i : Nat) : Went zs i 0 := by simp [Went]
theorem went_succ {zs : List Int} {i t : Nat} (h : Went zs i t) (hl : i + 1 + t < zs.length) (h1 : zs.getD (i + 1 + t) 0 ≠ 34) (h2 : plainB (zs.getD (i + 1 + t) 0) = true) : Went zs i (t + 1) := by
  unfold Went at *
  rw [h, pscan_at _ _ hl, if_neg h1, if_pos h2, Option.map_map]
  congr 1
  funext x
  simp; omega
theorem went_stop {zs : List Int} {i t : Nat} (h : Went zs i t) (hl : i + 1 + t < zs.length) (h1 : zs.getD (i + 1 + t) 0 = 34) : pscan (zs.drop (i + 1)) = some t := by
  unfold Went at h
  rw [h, pscan_at _ _ hl, if_pos h1]
  simp
theorem went_bad {zs : List Int} {i t : Nat} (h : Went zs i t) (hl : i + 1 + t < zs.length) (h1 : zs.getD (i + 1 + t) 0 ≠ 34) (h2 : plainB (zs.getD (i + 1 + t) 0) = false) : pscan (zs.drop (i + 1)) = none := by
  unfold Went at h
  rw [h, pscan_at _ _ hl, if_neg h1, if_neg (by rw [h2]; decide)]
  simp
theorem went_end {zs : List Int} {i t : Nat} (h : Went zs i t) (hl : zs.length ≤ i + 1 + t) : pscan (zs.drop (i + 1)) = none := by
  unfold Went at h
  rw [h, pscan_end _ _ hl]
  simp

/-- What 'PlainString' hands back of the row at ⟨b, off⟩. -/
def strOf (b off i c : Nat) : Option Nat → Value
  | none => .tuple #[.slice none 0 0, .int .i64 (-1)]
  | some k => .tuple #[.slice (some ⟨b, off + (i + 1), none⟩) k (c - (i + 1)), .int .i64 ((i + 1 + k + 1 : Nat) : Int)]

theorem str_eq (b off i c t : Nat) : Ending.returned (.tuple #[.slice (some ⟨b, off + (i + 1), none⟩) t (c - (i + 1)), .int .i64 ((i : Int) + 1 + (t : Int) + 1)]) = .returned (strOf b off i c (some t)) := by
  simp [strOf]

theorem ps_end (w : World) (a : Option Addr) (n c : Nat) :
    Calls Try.prog 12 #[.slice a n c, .int .i64 n] w fun e w' => e = .returned (.tuple #[.slice none 0 0, .int .i64 (-1)]) ∧ w = w' := by
  go_enter Try.func12, Try.ntmps12
  go_wp2
  go_ret2
  exact ⟨rfl, rfl⟩

set_option maxHeartbeats 400000 in
theorem ps_some (w : World) (b off n c i : Nat) (zs : List Int) (hz : zs.length = n) (hbd : ∀ z ∈ zs, 0 ≤ z ∧ z ≤ 255) (hnc : n ≤ c) (hbig : c ≤ 1099511627776) (hi : i < n)
    (hc : ∀ j, j < n → w.cell? ⟨b, off + j, none⟩ = some (.int .u8 (zs.getD j 0))) :
    Calls Try.prog 12 #[.slice (some ⟨b, off, none⟩) n c, .int .i64 i] w fun e w' => e = .returned (strOf b off i c (pstr zs i)) ∧ w = w' := by
  obtain ⟨q, hq⟩ : ∃ q, q = zs.getD i 0 := ⟨_, rfl⟩
  have hci : w.cell? ⟨b, off + i, none⟩ = some (.int .u8 q) := by rw [hq]; exact hc i hi
  have hqz : zs[i]? = some q := by rw [hq, List.getElem?_eq_getElem (by omega)]; simp [List.getD_eq_getElem?_getD, show i < zs.length by omega]
  have HC : Hid (∀ j, j < n → w.cell? ⟨b, off + j, none⟩ = some (.int .u8 (zs.getD j 0))) := hc
  clear hc
  have hne : ((i : Int) == (n : Int)) = false := by simp; omega
  by_cases h34 : q = 34
  · subst h34
    have HP : Hid (pstr zs i = pscan (zs.drop (i + 1))) := by unfold Hid pstr; rw [if_pos hqz]
    clear hq hqz
    go_enter Try.func12, Try.ntmps12
    go_wp2
    go_loop [6] (fun j => ∃ t : Nat, i + 1 + t ≤ n ∧ j = .int .i64 ((i + 1 + t : Nat) : Int) ∧ Went zs i t) (fun j => n - (intOf j).toNat)
    case atStart => exact ⟨0, by omega, by go_num, went_zero _ _⟩
    case round =>
      obtain ⟨t, ht, rfl, hw⟩ := hrel
      have HW : Hid (Went zs i t) := hw
      clear hw
      by_cases hlt : i + 1 + t < n
      · obtain ⟨x, hx⟩ : ∃ x, x = zs.getD (i + 1 + t) 0 := ⟨_, rfl⟩
        have hcx : w.cell? ⟨b, off + (i + 1 + t), none⟩ = some (.int .u8 x) := by rw [hx]; exact HC.out _ hlt
        have HX : Hid (x = zs.getD (i + 1 + t) 0) := hx
        have hxb : 0 ≤ x ∧ x ≤ 255 := by rw [hx, List.getD_eq_getElem?_getD, List.getElem?_eq_getElem (by omega)]; exact hbd _ (List.getElem_mem _)
        clear hx
        obtain ⟨x0, x1⟩ := hxb
        by_cases hq : x = 34
        · subst hq
          go_wp2
          go_ret2
          refine ⟨?_, rfl⟩
          rw [HP.out, went_stop HW.out (by omega) HX.out.symm]
          exact str_eq b off i c t
        · have hqb : (x == 34) = false := by simpa using hq
          by_cases hp : plainB x = true
          · have hp' : 32 ≤ x ∧ x ≤ 126 ∧ x ≠ 92 ∧ x ≠ 34 := by simpa [plainB] using hp
            obtain ⟨p1, p2, p3, _⟩ := hp'
            have hqc : (x == 92) = false := by simpa using p3
            go_wp2
            go_round
            case rel => exact ⟨t + 1, by omega, by go_num, went_succ HW.out (by omega) (by rw [← HX.out]; exact hq) (by rw [← HX.out]; exact hp)⟩
            case measure => simp [intOf]; omega
          · have hp0 : plainB x = false := by simpa using hp
            have hp' : x < 32 ∨ 126 < x ∨ x = 92 := by
              have : ¬ (32 ≤ x ∧ x ≤ 126 ∧ x ≠ 92 ∧ x ≠ 34) := by simpa [plainB] using hp
              omega
            have HN : Hid (pstr zs i = none) := by unfold Hid; rw [HP.out]; exact went_bad HW.out (by omega) (by rw [← HX.out]; exact hq) (by rw [← HX.out]; exact hp0)
            clear hp hp0
            by_cases p1 : x < 32
            · go_wp2
              go_ret2
              exact ⟨by rw [HN.out]; rfl, rfl⟩
            · by_cases p2 : 126 < x
              · go_wp2
                go_ret2
                exact ⟨by rw [HN.out]; rfl, rfl⟩
              · have p3 : x = 92 := by omega
                subst p3
                go_wp2
                go_ret2
                exact ⟨by rw [HN.out]; rfl, rfl⟩
      · have HN : Hid (pstr zs i = none) := by unfold Hid; rw [HP.out]; exact went_end HW.out (by omega)
        go_wp2
        go_ret2
        exact ⟨by rw [HN.out]; rfl, rfl⟩
  · have hqb : (q != 34) = true := by simpa using h34
    have HN : Hid (pstr zs i = none) := by unfold Hid pstr; rw [if_neg (by rw [hqz]; simpa using h34)]
    clear hq hqz
    go_enter Try.func12, Try.ntmps12
    go_wp2
    go_ret2
    exact ⟨by rw [HN.out]; rfl, rfl⟩

/-- 'PlainString' refuses: whatever the row is. -/
theorem ps_refuses (w : World) {B : Nat} (a : Option Addr) (n c i : Nat) (I : Int) (hI : I = (i : Int)) (zs : List Int) (hr : Row B w a n zs) (hnc : n ≤ c) (hbig : c ≤ 1099511627776) (hi : i ≤ n) (h : pstr zs i = none) :
    Calls Try.prog 12 #[.slice a n c, .int .i64 I] w fun e w' => e = .returned (.tuple #[.slice none 0 0, .int .i64 (-1)]) ∧ w = w' := by
  subst hI
  by_cases hin : i = n
  · subst hin; exact ps_end w a i c
  · rcases hr.cells with rfl | ⟨b, off, rfl, hb, hc⟩
    · omega
    · refine (ps_some w b off n c i zs hr.len hr.bd hnc hbig (by omega) hc).mono ?_
      rintro e w' ⟨rfl, rfl⟩
      exact ⟨by rw [h]; rfl, rfl⟩

/-! ### 'zzEq' -/
theorem zzEq_none (w : World) (a1 a2 : Option Addr) (c1 c2 : Nat) :
    Calls Try.prog 13 #[.slice a1 0 c1, .slice a2 0 c2] w fun e w' => e = .returned (.bool true) ∧ w = w' := by
  go_enter Try.func13, Try.ntmps13
  go_wp2
  refine wp_loop_rounds 1 ?_
  rw [rounds_succ]
  go_wp2
  go_ret
  exact ⟨rfl, rfl⟩

set_option maxHeartbeats 400000 in
theorem zzEq_some (w : World) (b1 o1 c1 b2 o2 c2 n : Nat) (zs : List Int) (hz : zs.length = n) (hbig : n ≤ 1099511627776)
    (h1 : ∀ j, j < n → w.cell? ⟨b1, o1 + j, none⟩ = some (.int .u8 (zs.getD j 0))) (h2 : ∀ j, j < n → w.cell? ⟨b2, o2 + j, none⟩ = some (.int .u8 (zs.getD j 0))) :
    Calls Try.prog 13 #[.slice (some ⟨b1, o1, none⟩) n c1, .slice (some ⟨b2, o2, none⟩) n c2] w fun e w' => e = .returned (.bool true) ∧ Below w.heap.size w w' := by
  have H1 : Hid (∀ j, j < n → w.cell? ⟨b1, o1 + j, none⟩ = some (.int .u8 (zs.getD j 0))) := h1
  have H2 : Hid (∀ j, j < n → w.cell? ⟨b2, o2 + j, none⟩ = some (.int .u8 (zs.getD j 0))) := h2
  have b1w : 0 < n → b1 < w.heap.size := fun h => World.block_lt_of_cell? w ⟨b1, o1 + 0, none⟩ (h1 0 h)
  have b2w : 0 < n → b2 < w.heap.size := fun h => World.block_lt_of_cell? w ⟨b2, o2 + 0, none⟩ (h2 0 h)
  clear h1 h2
  go_enter Try.func13, Try.ntmps13
  go_wp2
  go_loopw [5] (fun i wr => ∃ k : Nat, k ≤ n ∧ i = .int .i64 k ∧ Below w.heap.size w wr) (fun i _ => n - (intOf i).toNat)
  case atStart => exact ⟨0, Nat.zero_le _, rfl, Below.refl _ _⟩
  case round =>
    obtain ⟨k, hk, rfl, hB⟩ := hrel
    by_cases hlt : k < n
    · obtain ⟨x, hx⟩ : ∃ x, x = zs.getD k 0 := ⟨_, rfl⟩
      have g1 : wr.cell? ⟨b1, o1 + k, none⟩ = some (.int .u8 x) := by rw [hx]; exact (hB.cell (by exact b1w (by omega))).trans (H1.out _ hlt)
      have g2 : wr.cell? ⟨b2, o2 + k, none⟩ = some (.int .u8 x) := by rw [hx]; exact (hB.cell (by exact b2w (by omega))).trans (H2.out _ hlt)
      clear hx b1w b2w
      go_wp2
      go_region
      all_goals
        go_wp2
        go_roundw
        case rel => exact ⟨k + 1, by omega, by go_num, hB.drew⟩
        case measure => simp [intOf]; omega
    · go_wp2
      go_ret
      exact ⟨rfl, hB⟩

/-- Two rows that read alike. -/
theorem zzEq_any (w : World) {B1 B2 : Nat} (a1 a2 : Option Addr) (n c1 c2 : Nat) (zs : List Int) (hbig : n ≤ 1099511627776) (h1 : Row B1 w a1 n zs) (h2 : Row B2 w a2 n zs) :
    Calls Try.prog 13 #[.slice a1 n c1, .slice a2 n c2] w fun e w' => e = .returned (.bool true) ∧ Below w.heap.size w w' := by
  rcases h1.cells with rfl | ⟨b1, o1, rfl, hb1, hc1⟩
  · refine (zzEq_none w a1 a2 c1 c2).mono ?_
    rintro e w' ⟨rfl, rfl⟩
    exact ⟨rfl, Below.refl _ _⟩
  · rcases h2.cells with rfl | ⟨b2, o2, rfl, hb2, hc2⟩
    · refine (zzEq_none w _ a2 c1 c2).mono ?_
      rintro e w' ⟨rfl, rfl⟩
      exact ⟨rfl, Below.refl _ _⟩
    · exact zzEq_some w b1 o1 c1 b2 o2 c2 n zs h1.len hbig hc1 hc2

end Go.Proofs.Qxb6001223a
