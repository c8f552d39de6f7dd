/-
  SEAT b6600374a: the plain law and the walk of 'FnIsIndexOnPaddedDecimal'.
-/
import Derived.Test.Qxb6600374aOwn
namespace Go.Proofs.Qxb6600374a
open Go.RowKit

/-! ### The plain law -/
/-- 'idx' over numbers. -/
def idxI (l : List Int) : Bool := !l.isEmpty && !(l.getD 0 0 == 48 && decide (1 < l.length)) && l.all digB

theorem ofNat_toNat (z : Int) (h : 0 ≤ z ∧ z ≤ 255) : ((UInt8.ofNat z.toNat).toNat : Int) = z := by
  rw [UInt8.toNat_ofNat']
  omega

theorem all_nums : ∀ l : List Int, (∀ z ∈ l, 0 ≤ z ∧ z ≤ 255) → ((l.map fun n => UInt8.ofNat n.toNat).all fun b => digB (b.toNat : Int)) = l.all digB
  | [], _ => rfl
  | a :: r, h => by
    rw [List.map_cons, List.all_cons, List.all_cons, ofNat_toNat a (h a (by simp)), all_nums r (fun z hz => h z (by simp [hz]))]

theorem idx_nums (l : List Int) (h : ∀ z ∈ l, 0 ≤ z ∧ z ≤ 255) : idx (strOfNums l).data.toList = idxI l := by
  rw [strOfNums_data]
  unfold idx idxI alld
  rw [all_nums l h]
  cases l with
  | nil => rfl
  | cons a r =>
    have e := ofNat_toNat a (h a (by simp))
    have e1 : ((UInt8.ofNat a.toNat).toNat == 48) = (a == 48) := by
      rw [Bool.eq_iff_iff]
      simp only [beq_iff_eq]
      omega
    simp only [List.map_cons, List.getD_cons_zero, e1, List.length_cons, List.length_map, List.isEmpty_cons]

theorem law_zeros (Z : Nat) (ds t : List Int) (hZ : 0 < Z) (hd : 0 < ds.length) : idxI (List.replicate Z 48 ++ ds ++ t) = false := by
  obtain ⟨k, rfl⟩ : ∃ k, Z = k + 1 := ⟨Z - 1, by omega⟩
  unfold idxI
  simp only [List.replicate_succ, List.cons_append, List.getD_cons_zero, List.length_cons, List.length_append, List.length_replicate]
  rw [decide_eq_true (by omega)]
  simp

theorem law_zeros' (Z : Nat) (ds : List Int) (hZ : 0 < Z) (hd : 0 < ds.length) : idxI (List.replicate Z 48 ++ ds) = false := by
  have := law_zeros Z ds [] hZ hd
  rwa [List.append_nil] at this

theorem all_dig (ds : List Int) (h : ∀ z ∈ ds, 48 ≤ z ∧ z ≤ 57) : ds.all digB = true := by
  rw [List.all_eq_true]
  intro z hz
  exact decide_eq_true (h z hz)

theorem law_plain (n Z : Nat) (ds : List Int) (hZ : Z = 0) (h : DecOf n ds) : idxI (List.replicate Z 48 ++ ds) = true := by
  subst hZ
  unfold idxI
  simp only [List.replicate_zero, List.nil_append]
  rw [all_dig ds h.dig]
  rcases h.head with ⟨_, rfl⟩ | ⟨_, hh⟩
  · decide
  · have hp := h.pos
    cases ds with
    | nil => simp at hp
    | cons a r =>
      simp at hh
      rw [show (List.getD (a :: r) 0 0 == 48) = false by simp; omega]
      rfl

theorem law_tail (n Z : Nat) (ds : List Int) (t : Int) (hZ : Z = 0) (h : DecOf n ds) : idxI (List.replicate Z 48 ++ ds ++ [t]) = (digB t && decide (n ≠ 0)) := by
  subst hZ
  unfold idxI
  simp only [List.replicate_zero, List.nil_append]
  rw [List.all_append, all_dig ds h.dig]
  rcases h.head with ⟨rfl, rfl⟩ | ⟨hn, hh⟩
  · simp
  · have hp := h.pos
    cases ds with
    | nil => simp at hp
    | cons a r =>
      simp at hh
      rw [show (List.getD (a :: r ++ [t]) 0 0 == 48) = false by simp; omega]
      simp [hn]

/-! ### The walk -/
theorem conv_own {w : World} {g n cap : Nat} {xs : List Int} (h : Own w g n cap xs) : (convert 38 9 (.slice (some ⟨g, 0, none⟩) n cap)).run Try.prog w = .ok (.string (strOfNums xs)) w :=
  run_convert_bytes_arg w 38 5 Try.underlying38 Try.underlying5 g 0 n cap xs h.len (fun i hi => by rw [Nat.zero_add]; exact h.cellAt i hi) 9 Try.underlying9

theorem padded_out (w : World) (n z t : Int) (wt : Bool) (h : ¬ (0 ≤ z ∧ z ≤ 65536)) :
    Calls Try.prog 8 #[.int .u64 n, .int .i64 z, .int .u8 t, .bool wt] w fun e w' => e = .returned (.bool true) ∧ Below w.heap.size w w' := by
  by_cases h0 : z < 0
  · go_enter Try.func8, Try.ntmps8
    go_wp2
    go_ret
    exact ⟨rfl, Below.refl _ _⟩
  · have h1 : 65536 < z := by omega
    clear h
    go_enter Try.func8, Try.ntmps8
    go_wp2
    go_ret
    exact ⟨rfl, Below.refl _ _⟩

set_option maxHeartbeats 1000000 in
theorem padded_plain (w : World) (n Z : Nat) (t : Int) (hn : n ≤ 18446744073709551615) (hZ : Z ≤ 65536) :
    Calls Try.prog 8 #[.int .u64 n, .int .i64 Z, .int .u8 t, .bool false] w fun e w' => e = .returned (.bool true) ∧ Below w.heap.size w w' := by
  have HU := utoa_any w n hn
  rcases (show (Hid (Z = 0) ∧ ((Z : Int) == 0) = true) ∨ (Hid (0 < Z) ∧ ((Z : Int) == 0) = false) by
    by_cases e : Z = 0
    · exact .inl ⟨e, by simp [e]⟩
    · exact .inr ⟨(by show 0 < Z; omega), by simp [e]⟩) with ⟨HZ, hz⟩ | ⟨HZ, hz⟩
  all_goals
    go_enter Try.func8, Try.ntmps8
    go_wp2_with fail
    refine HU.mono ?_
    rintro e w1 ⟨g, ds, hg, rfl, O1, B1, hD⟩
    clear HU
    have hDp := hD.pos
    have hDl := hD.le
    have HD : Hid (DecOf n ds) := hD
    obtain ⟨m, hm⟩ : ∃ m, m = ds.length := ⟨_, rfl⟩
    rw [← hm] at O1 hDp hDl ⊢
    clear hD
    have HM : Hid (m = ds.length) := hm
    clear hm
    have hg1 := O1.lt
    go_wp2_with (at_make; refine wpList_mk rfl _ _ rfl _ (Z + m + 1) rfl rfl (by omega) (by omega) ?_; intro w2 O2 B2)
    go_loopw [10, 11] (fun v i wr => ∃ k : Nat, k ≤ Z ∧ i = .int .i64 k ∧ v = .slice (some ⟨w1.heap.size, 0, none⟩) k (Z + m + 1) ∧ Own wr w1.heap.size k (Z + m + 1) (List.replicate k 48) ∧ Below w1.heap.size w1 wr) (fun _ i _ => Z - (intOf i).toNat)
    case atStart => exact ⟨0, Nat.zero_le _, rfl, rfl, by simpa using O2, B2⟩
    case round =>
      obtain ⟨k, hk, rfl, rfl, hO, hB⟩ := hrel
      by_cases hlt : k < Z
      · go_wp2_with (at_builtin; refine wpList_push (B := w1.heap.size) rfl _ _ rfl hO (Nat.le_refl _) rfl rfl (by omega) (by omega) ?_; intro w3 O3 B3)
        have O3' : Own w3 w1.heap.size (k + 1) (Z + m + 1) (List.replicate (k + 1) 48) := by rw [List.replicate_succ']; exact O3
        go_roundw
        case rel => exact ⟨k + 1, by omega, by go_num, rfl, O3', hB.trans B3⟩
        case measure => simp [intOf]; omega
      · obtain rfl : k = Z := by omega
        have O1' := O1.below hB hg1
        have HC : Hid (∀ j, j < m → wr.cell? ⟨g, 0 + j, none⟩ = some (.int .u8 (ds.getD j 0))) := fun j hj => by rw [Nat.zero_add]; exact O1'.cellAt j hj
        go_wp2_with (at_builtin; refine wpList_cat (B := w1.heap.size) (zs := ds) rfl _ _ rfl hO (Nat.le_refl _) HM.out.symm O1'.bd HC.out rfl rfl (by omega) ?_; intro w4 O4 B4; have hcv := conv_own O4)
        have hsz : (strOfNums (List.replicate k 48 ++ ds)).size ≤ 1048576 := by rw [strOfNums_size, O4.len]; omega
        have HI := zzIsIndex_any (strOfNums (List.replicate k 48 ++ ds)) w4 hsz
        rw [idx_nums _ O4.bd] at HI
        first | rw [law_plain n k ds HZ.out HD.out] at HI | rw [law_zeros' k ds HZ.out (by rw [← HM.out]; exact hDp)] at HI
        refine HI.mono ?_
        rintro e w6 ⟨rfl, B6⟩
        have D := (hB.trans B4)
        have E := B1.trans ((D.trans (B6.mono D.size)).mono B1.size)
        clear HI
        go_wp2
        go_ret
        exact ⟨rfl, E⟩

set_option maxHeartbeats 3000000 in
theorem padded_tail (w : World) (n Z : Nat) (t : Int) (hn : n ≤ 18446744073709551615) (hZ : Z ≤ 65536) (ht0 : 0 ≤ t) (ht1 : t ≤ 255) :
    Calls Try.prog 8 #[.int .u64 n, .int .i64 Z, .int .u8 t, .bool true] w fun e w' => e = .returned (.bool true) ∧ Below w.heap.size w w' := by
  have HU := utoa_any w n hn
  rcases (show (Hid (0 < Z) ∧ ((Z : Int) == 0) = false) ∨ (Hid (Z = 0) ∧ ((Z : Int) == 0) = true) by
    by_cases e : Z = 0
    · exact .inr ⟨e, by simp [e]⟩
    · exact .inl ⟨(by show 0 < Z; omega), by simp [e]⟩) with ⟨HZ, hz⟩ | ⟨HZ, hz⟩
  · have HT : Hid (∀ ds : List Int, 0 < ds.length → DecOf n ds → idxI (List.replicate Z 48 ++ ds ++ [t]) = false) := fun ds h _ => law_zeros Z ds [t] HZ.out h
    clear HZ
    go_enter Try.func8, Try.ntmps8
    go_wp2_with fail
    refine HU.mono ?_
    rintro e w1 ⟨g, ds, hg, rfl, O1, B1, hD⟩
    clear HU
    have hDp := hD.pos
    have hDl := hD.le
    have HD : Hid (DecOf n ds) := hD
    obtain ⟨m, hm⟩ : ∃ m, m = ds.length := ⟨_, rfl⟩
    rw [← hm] at O1 hDp hDl ⊢
    clear hD
    have HM : Hid (m = ds.length) := hm
    clear hm
    have hg1 := O1.lt
    go_wp2_with (at_make; refine wpList_mk rfl _ _ rfl _ (Z + m + 1) rfl rfl (by omega) (by omega) ?_; intro w2 O2 B2)
    go_loopw [10, 11] (fun v i wr => ∃ k : Nat, k ≤ Z ∧ i = .int .i64 k ∧ v = .slice (some ⟨w1.heap.size, 0, none⟩) k (Z + m + 1) ∧ Own wr w1.heap.size k (Z + m + 1) (List.replicate k 48) ∧ Below w1.heap.size w1 wr) (fun _ i _ => Z - (intOf i).toNat)
    case atStart => exact ⟨0, Nat.zero_le _, rfl, rfl, by simpa using O2, B2⟩
    case round =>
      obtain ⟨k, hk, rfl, rfl, hO, hB⟩ := hrel
      by_cases hlt : k < Z
      · go_wp2_with (at_builtin; refine wpList_push (B := w1.heap.size) rfl _ _ rfl hO (Nat.le_refl _) rfl rfl (by omega) (by omega) ?_; intro w3 O3 B3)
        have O3' : Own w3 w1.heap.size (k + 1) (Z + m + 1) (List.replicate (k + 1) 48) := by rw [List.replicate_succ']; exact O3
        go_roundw
        case rel => exact ⟨k + 1, by omega, by go_num, rfl, O3', hB.trans B3⟩
        case measure => simp [intOf]; omega
      · obtain rfl : k = Z := by omega
        have O1' := O1.below hB hg1
        have HC : Hid (∀ j, j < m → wr.cell? ⟨g, 0 + j, none⟩ = some (.int .u8 (ds.getD j 0))) := fun j hj => by rw [Nat.zero_add]; exact O1'.cellAt j hj
        go_wp2_with (at_builtin; first | (refine wpList_cat (B := w1.heap.size) (zs := ds) rfl (.tmp 36) (.tmp 37) rfl hO (Nat.le_refl _) HM.out.symm O1'.bd HC.out rfl rfl (by omega) ?_; intro w4 O4 B4) | (refine wpList_push (B := w1.heap.size) rfl (.tmp 40) (.tmp 42) rfl O4 (Nat.le_refl _) rfl rfl ⟨ht0, ht1⟩ (by omega) ?_; intro w5 O5 B5; have hcv := conv_own O5))
        have hsz : (strOfNums (List.replicate k 48 ++ ds ++ [t])).size ≤ 1048576 := by rw [strOfNums_size, O5.len]; omega
        have HI := zzIsIndex_any (strOfNums (List.replicate k 48 ++ ds ++ [t])) w5 hsz
        rw [idx_nums _ O5.bd] at HI
        rw [HT.out ds (by rw [← HM.out]; exact hDp) HD.out] at HI
        rw [List.append_assoc] at HI
        refine HI.mono ?_
        rintro e w6 ⟨rfl, B6⟩
        have D := (hB.trans B4).trans B5
        have E := B1.trans ((D.trans (B6.mono D.size)).mono B1.size)
        clear HI
        go_wp2
        go_ret
        exact ⟨rfl, E⟩
  · rcases (show t < 48 ∨ (48 ≤ t ∧ 57 < t) ∨ (48 ≤ t ∧ t ≤ 57) by omega) with g1 | ⟨g1, g2⟩ | ⟨g1, g2⟩
    · have HT : Hid (∀ ds : List Int, 0 < ds.length → DecOf n ds → idxI (List.replicate Z 48 ++ ds ++ [t]) = false) := fun ds _ h => by rw [law_tail n Z ds t HZ.out h, show digB t = false from decide_eq_false (by omega)]; rfl
      clear HZ
      go_enter Try.func8, Try.ntmps8
      go_wp2_with fail
      refine HU.mono ?_
      rintro e w1 ⟨g, ds, hg, rfl, O1, B1, hD⟩
      clear HU
      have hDp := hD.pos
      have hDl := hD.le
      have HD : Hid (DecOf n ds) := hD
      obtain ⟨m, hm⟩ : ∃ m, m = ds.length := ⟨_, rfl⟩
      rw [← hm] at O1 hDp hDl ⊢
      clear hD
      have HM : Hid (m = ds.length) := hm
      clear hm
      have hg1 := O1.lt
      go_wp2_with (at_make; refine wpList_mk rfl _ _ rfl _ (Z + m + 1) rfl rfl (by omega) (by omega) ?_; intro w2 O2 B2)
      go_loopw [10, 11] (fun v i wr => ∃ k : Nat, k ≤ Z ∧ i = .int .i64 k ∧ v = .slice (some ⟨w1.heap.size, 0, none⟩) k (Z + m + 1) ∧ Own wr w1.heap.size k (Z + m + 1) (List.replicate k 48) ∧ Below w1.heap.size w1 wr) (fun _ i _ => Z - (intOf i).toNat)
      case atStart => exact ⟨0, Nat.zero_le _, rfl, rfl, by simpa using O2, B2⟩
      case round =>
        obtain ⟨k, hk, rfl, rfl, hO, hB⟩ := hrel
        by_cases hlt : k < Z
        · go_wp2_with (at_builtin; refine wpList_push (B := w1.heap.size) rfl _ _ rfl hO (Nat.le_refl _) rfl rfl (by omega) (by omega) ?_; intro w3 O3 B3)
          have O3' : Own w3 w1.heap.size (k + 1) (Z + m + 1) (List.replicate (k + 1) 48) := by rw [List.replicate_succ']; exact O3
          go_roundw
          case rel => exact ⟨k + 1, by omega, by go_num, rfl, O3', hB.trans B3⟩
          case measure => simp [intOf]; omega
        · obtain rfl : k = Z := by omega
          have O1' := O1.below hB hg1
          have HC : Hid (∀ j, j < m → wr.cell? ⟨g, 0 + j, none⟩ = some (.int .u8 (ds.getD j 0))) := fun j hj => by rw [Nat.zero_add]; exact O1'.cellAt j hj
          go_wp2_with (at_builtin; first | (refine wpList_cat (B := w1.heap.size) (zs := ds) rfl (.tmp 36) (.tmp 37) rfl hO (Nat.le_refl _) HM.out.symm O1'.bd HC.out rfl rfl (by omega) ?_; intro w4 O4 B4) | (refine wpList_push (B := w1.heap.size) rfl (.tmp 40) (.tmp 42) rfl O4 (Nat.le_refl _) rfl rfl ⟨ht0, ht1⟩ (by omega) ?_; intro w5 O5 B5; have hcv := conv_own O5))
          have hsz : (strOfNums (List.replicate k 48 ++ ds ++ [t])).size ≤ 1048576 := by rw [strOfNums_size, O5.len]; omega
          have HI := zzIsIndex_any (strOfNums (List.replicate k 48 ++ ds ++ [t])) w5 hsz
          rw [idx_nums _ O5.bd] at HI
          rw [HT.out ds (by rw [← HM.out]; exact hDp) HD.out] at HI
          rw [List.append_assoc] at HI
          refine HI.mono ?_
          rintro e w6 ⟨rfl, B6⟩
          have D := (hB.trans B4).trans B5
          have E := B1.trans ((D.trans (B6.mono D.size)).mono B1.size)
          clear HI
          go_wp2
          go_ret
          exact ⟨rfl, E⟩
    · have HT : Hid (∀ ds : List Int, 0 < ds.length → DecOf n ds → idxI (List.replicate Z 48 ++ ds ++ [t]) = false) := fun ds _ h => by rw [law_tail n Z ds t HZ.out h, show digB t = false from decide_eq_false (by omega)]; rfl
      clear HZ
      go_enter Try.func8, Try.ntmps8
      go_wp2_with fail
      refine HU.mono ?_
      rintro e w1 ⟨g, ds, hg, rfl, O1, B1, hD⟩
      clear HU
      have hDp := hD.pos
      have hDl := hD.le
      have HD : Hid (DecOf n ds) := hD
      obtain ⟨m, hm⟩ : ∃ m, m = ds.length := ⟨_, rfl⟩
      rw [← hm] at O1 hDp hDl ⊢
      clear hD
      have HM : Hid (m = ds.length) := hm
      clear hm
      have hg1 := O1.lt
      go_wp2_with (at_make; refine wpList_mk rfl _ _ rfl _ (Z + m + 1) rfl rfl (by omega) (by omega) ?_; intro w2 O2 B2)
      go_loopw [10, 11] (fun v i wr => ∃ k : Nat, k ≤ Z ∧ i = .int .i64 k ∧ v = .slice (some ⟨w1.heap.size, 0, none⟩) k (Z + m + 1) ∧ Own wr w1.heap.size k (Z + m + 1) (List.replicate k 48) ∧ Below w1.heap.size w1 wr) (fun _ i _ => Z - (intOf i).toNat)
      case atStart => exact ⟨0, Nat.zero_le _, rfl, rfl, by simpa using O2, B2⟩
      case round =>
        obtain ⟨k, hk, rfl, rfl, hO, hB⟩ := hrel
        by_cases hlt : k < Z
        · go_wp2_with (at_builtin; refine wpList_push (B := w1.heap.size) rfl _ _ rfl hO (Nat.le_refl _) rfl rfl (by omega) (by omega) ?_; intro w3 O3 B3)
          have O3' : Own w3 w1.heap.size (k + 1) (Z + m + 1) (List.replicate (k + 1) 48) := by rw [List.replicate_succ']; exact O3
          go_roundw
          case rel => exact ⟨k + 1, by omega, by go_num, rfl, O3', hB.trans B3⟩
          case measure => simp [intOf]; omega
        · obtain rfl : k = Z := by omega
          have O1' := O1.below hB hg1
          have HC : Hid (∀ j, j < m → wr.cell? ⟨g, 0 + j, none⟩ = some (.int .u8 (ds.getD j 0))) := fun j hj => by rw [Nat.zero_add]; exact O1'.cellAt j hj
          go_wp2_with (at_builtin; first | (refine wpList_cat (B := w1.heap.size) (zs := ds) rfl (.tmp 36) (.tmp 37) rfl hO (Nat.le_refl _) HM.out.symm O1'.bd HC.out rfl rfl (by omega) ?_; intro w4 O4 B4) | (refine wpList_push (B := w1.heap.size) rfl (.tmp 40) (.tmp 42) rfl O4 (Nat.le_refl _) rfl rfl ⟨ht0, ht1⟩ (by omega) ?_; intro w5 O5 B5; have hcv := conv_own O5))
          have hsz : (strOfNums (List.replicate k 48 ++ ds ++ [t])).size ≤ 1048576 := by rw [strOfNums_size, O5.len]; omega
          have HI := zzIsIndex_any (strOfNums (List.replicate k 48 ++ ds ++ [t])) w5 hsz
          rw [idx_nums _ O5.bd] at HI
          rw [HT.out ds (by rw [← HM.out]; exact hDp) HD.out] at HI
          rw [List.append_assoc] at HI
          refine HI.mono ?_
          rintro e w6 ⟨rfl, B6⟩
          have D := (hB.trans B4).trans B5
          have E := B1.trans ((D.trans (B6.mono D.size)).mono B1.size)
          clear HI
          go_wp2
          go_ret
          exact ⟨rfl, E⟩
    · by_cases hn0 : n = 0
      · have hnz : ((n : Int) != 0) = false := by simp [hn0]
        have HT : Hid (∀ ds : List Int, 0 < ds.length → DecOf n ds → idxI (List.replicate Z 48 ++ ds ++ [t]) = false) := fun ds _ h => by rw [law_tail n Z ds t HZ.out h, decide_eq_false (by omega), Bool.and_false]
        clear HZ hn0
        go_enter Try.func8, Try.ntmps8
        go_wp2_with fail
        refine HU.mono ?_
        rintro e w1 ⟨g, ds, hg, rfl, O1, B1, hD⟩
        clear HU
        have hDp := hD.pos
        have hDl := hD.le
        have HD : Hid (DecOf n ds) := hD
        obtain ⟨m, hm⟩ : ∃ m, m = ds.length := ⟨_, rfl⟩
        rw [← hm] at O1 hDp hDl ⊢
        clear hD
        have HM : Hid (m = ds.length) := hm
        clear hm
        have hg1 := O1.lt
        go_wp2_with (at_make; refine wpList_mk rfl _ _ rfl _ (Z + m + 1) rfl rfl (by omega) (by omega) ?_; intro w2 O2 B2)
        go_loopw [10, 11] (fun v i wr => ∃ k : Nat, k ≤ Z ∧ i = .int .i64 k ∧ v = .slice (some ⟨w1.heap.size, 0, none⟩) k (Z + m + 1) ∧ Own wr w1.heap.size k (Z + m + 1) (List.replicate k 48) ∧ Below w1.heap.size w1 wr) (fun _ i _ => Z - (intOf i).toNat)
        case atStart => exact ⟨0, Nat.zero_le _, rfl, rfl, by simpa using O2, B2⟩
        case round =>
          obtain ⟨k, hk, rfl, rfl, hO, hB⟩ := hrel
          by_cases hlt : k < Z
          · go_wp2_with (at_builtin; refine wpList_push (B := w1.heap.size) rfl _ _ rfl hO (Nat.le_refl _) rfl rfl (by omega) (by omega) ?_; intro w3 O3 B3)
            have O3' : Own w3 w1.heap.size (k + 1) (Z + m + 1) (List.replicate (k + 1) 48) := by rw [List.replicate_succ']; exact O3
            go_roundw
            case rel => exact ⟨k + 1, by omega, by go_num, rfl, O3', hB.trans B3⟩
            case measure => simp [intOf]; omega
          · obtain rfl : k = Z := by omega
            have O1' := O1.below hB hg1
            have HC : Hid (∀ j, j < m → wr.cell? ⟨g, 0 + j, none⟩ = some (.int .u8 (ds.getD j 0))) := fun j hj => by rw [Nat.zero_add]; exact O1'.cellAt j hj
            go_wp2_with (at_builtin; first | (refine wpList_cat (B := w1.heap.size) (zs := ds) rfl (.tmp 36) (.tmp 37) rfl hO (Nat.le_refl _) HM.out.symm O1'.bd HC.out rfl rfl (by omega) ?_; intro w4 O4 B4) | (refine wpList_push (B := w1.heap.size) rfl (.tmp 40) (.tmp 42) rfl O4 (Nat.le_refl _) rfl rfl ⟨ht0, ht1⟩ (by omega) ?_; intro w5 O5 B5; have hcv := conv_own O5))
            have hsz : (strOfNums (List.replicate k 48 ++ ds ++ [t])).size ≤ 1048576 := by rw [strOfNums_size, O5.len]; omega
            have HI := zzIsIndex_any (strOfNums (List.replicate k 48 ++ ds ++ [t])) w5 hsz
            rw [idx_nums _ O5.bd] at HI
            rw [HT.out ds (by rw [← HM.out]; exact hDp) HD.out] at HI
            rw [List.append_assoc] at HI
            refine HI.mono ?_
            rintro e w6 ⟨rfl, B6⟩
            have D := (hB.trans B4).trans B5
            have E := B1.trans ((D.trans (B6.mono D.size)).mono B1.size)
            clear HI
            go_wp2
            go_ret
            exact ⟨rfl, E⟩
      · have hnz : ((n : Int) != 0) = true := by simp [hn0]
        have HT : Hid (∀ ds : List Int, 0 < ds.length → DecOf n ds → idxI (List.replicate Z 48 ++ ds ++ [t]) = true) := fun ds _ h => by rw [law_tail n Z ds t HZ.out h, decide_eq_true (by omega), show digB t = true from decide_eq_true (by omega)]; rfl
        clear HZ hn0
        go_enter Try.func8, Try.ntmps8
        go_wp2_with fail
        refine HU.mono ?_
        rintro e w1 ⟨g, ds, hg, rfl, O1, B1, hD⟩
        clear HU
        have hDp := hD.pos
        have hDl := hD.le
        have HD : Hid (DecOf n ds) := hD
        obtain ⟨m, hm⟩ : ∃ m, m = ds.length := ⟨_, rfl⟩
        rw [← hm] at O1 hDp hDl ⊢
        clear hD
        have HM : Hid (m = ds.length) := hm
        clear hm
        have hg1 := O1.lt
        go_wp2_with (at_make; refine wpList_mk rfl _ _ rfl _ (Z + m + 1) rfl rfl (by omega) (by omega) ?_; intro w2 O2 B2)
        go_loopw [10, 11] (fun v i wr => ∃ k : Nat, k ≤ Z ∧ i = .int .i64 k ∧ v = .slice (some ⟨w1.heap.size, 0, none⟩) k (Z + m + 1) ∧ Own wr w1.heap.size k (Z + m + 1) (List.replicate k 48) ∧ Below w1.heap.size w1 wr) (fun _ i _ => Z - (intOf i).toNat)
        case atStart => exact ⟨0, Nat.zero_le _, rfl, rfl, by simpa using O2, B2⟩
        case round =>
          obtain ⟨k, hk, rfl, rfl, hO, hB⟩ := hrel
          by_cases hlt : k < Z
          · go_wp2_with (at_builtin; refine wpList_push (B := w1.heap.size) rfl _ _ rfl hO (Nat.le_refl _) rfl rfl (by omega) (by omega) ?_; intro w3 O3 B3)
            have O3' : Own w3 w1.heap.size (k + 1) (Z + m + 1) (List.replicate (k + 1) 48) := by rw [List.replicate_succ']; exact O3
            go_roundw
            case rel => exact ⟨k + 1, by omega, by go_num, rfl, O3', hB.trans B3⟩
            case measure => simp [intOf]; omega
          · obtain rfl : k = Z := by omega
            have O1' := O1.below hB hg1
            have HC : Hid (∀ j, j < m → wr.cell? ⟨g, 0 + j, none⟩ = some (.int .u8 (ds.getD j 0))) := fun j hj => by rw [Nat.zero_add]; exact O1'.cellAt j hj
            go_wp2_with (at_builtin; first | (refine wpList_cat (B := w1.heap.size) (zs := ds) rfl (.tmp 36) (.tmp 37) rfl hO (Nat.le_refl _) HM.out.symm O1'.bd HC.out rfl rfl (by omega) ?_; intro w4 O4 B4) | (refine wpList_push (B := w1.heap.size) rfl (.tmp 40) (.tmp 42) rfl O4 (Nat.le_refl _) rfl rfl ⟨ht0, ht1⟩ (by omega) ?_; intro w5 O5 B5; have hcv := conv_own O5))
            have hsz : (strOfNums (List.replicate k 48 ++ ds ++ [t])).size ≤ 1048576 := by rw [strOfNums_size, O5.len]; omega
            have HI := zzIsIndex_any (strOfNums (List.replicate k 48 ++ ds ++ [t])) w5 hsz
            rw [idx_nums _ O5.bd] at HI
            rw [HT.out ds (by rw [← HM.out]; exact hDp) HD.out] at HI
            rw [List.append_assoc] at HI
            refine HI.mono ?_
            rintro e w6 ⟨rfl, B6⟩
            have D := (hB.trans B4).trans B5
            have E := B1.trans ((D.trans (B6.mono D.size)).mono B1.size)
            clear HI
            go_wp2
            go_ret
            exact ⟨rfl, E⟩

end Go.Proofs.Qxb6600374a
