/-
  SEAT b6001223a: 'zzUtoa' by its contract: what it hands back are digits, the first no nought but for the number nought.
-/
import Derived.Test.Qxb6001223aLiteral
namespace Go.Proofs.Qxb6001223a
open Go.RowKit

/-- Digits, at most twenty, the first no nought where there are others. -/
structure Dec (ds : List Int) : Prop where
  pos : 0 < ds.length
  le : ds.length ≤ 20
  dig : ∀ z ∈ ds, 48 ≤ z ∧ z ≤ 57
  head : ds = [48] ∨ 49 ≤ ds.getD 0 0

/-- The buffer of twenty bytes in the call's own block: noughts up to p, then the digits ds. -/
structure Buf (w wr : World) (p : Nat) (ds : List Int) : Prop where
  size : wr.heap.size = w.heap.size + 1
  below : Below w.heap.size w wr
  len : p + ds.length = 20
  cells : ∀ j, j < 20 → wr.cell? ⟨w.heap.size, j, none⟩ = some (.int .u8 ((List.replicate p (0 : Int) ++ ds).getD j 0))
  free : ∀ j, wr.frozen? ⟨w.heap.size, j, none⟩ = false

/-- What the digits written so far say: what is left is below 10^p; the digits are digits; where nothing is left the first is no nought. -/
structure Going (N p : Nat) (ds : List Int) : Prop where
  small : N < 10 ^ p
  dig : ∀ z ∈ ds, 48 ≤ z ∧ z ≤ 57
  head : N = 0 → 0 < ds.length ∧ 49 ≤ ds.getD 0 0

theorem going_step {N p : Nat} {ds : List Int} (h : Going N (p + 1) ds) (hN : 0 < N) : Going (N / 10) p ((48 + (N : Int) % 10) :: ds) := by
  refine ⟨?_, ?_, ?_⟩
  · have := h.small
    rw [Nat.pow_succ] at this
    exact Nat.div_lt_of_lt_mul (by rw [Nat.mul_comm]; exact this)
  · intro z hz
    rcases List.mem_cons.1 hz with rfl | hz
    · omega
    · exact h.dig z hz
  · intro h0
    refine ⟨by simp, ?_⟩
    simp
    omega

theorem buf_step {w wr : World} {p : Nat} {ds : List Int} (h : Buf w wr (p + 1) ds) (d : Int) : Buf w (wr.setCell ⟨w.heap.size, p, none⟩ (.int .u8 d)) p (d :: ds) := by
  have hl := h.len
  refine ⟨by simp [World.setCell, h.size], h.below.setCell (Nat.le_refl _) _, by simp; omega, ?_, fun j => (World.frozen?_setCell _ _ _ _).trans (h.free j)⟩
  intro j hj
  by_cases e : j = p
  · subst e
    rw [World.cell?_setCell_same _ _ _ (h.cells j hj)]
    simp [List.getD_eq_getElem?_getD]
  · rw [World.cell?_setCell_other _ _ _ _ (by intro h'; simp at h'), h.cells j hj]
    congr 2
    rw [List.getD_eq_getElem?_getD, List.getD_eq_getElem?_getD]
    rcases Nat.lt_or_gt_of_ne e with hlt | hgt
    · rw [List.getElem?_append_left (by simp; omega), List.getElem?_append_left (by simp; omega)]
      simp [hlt, show j < p + 1 by omega]
    · rw [List.getElem?_append_right (by simp; omega), List.getElem?_append_right (by simp; omega)]
      simp
      rw [show j - p = (j - (p + 1)) + 1 by omega, List.getElem?_cons_succ]

theorem buf_start (w : World) : Buf w (w.alloc (.cells (List.replicate 20 (Value.int .u8 0)).toArray 36)) 20 [] := by
  refine ⟨by simp, (Below.refl _ _).alloc (Nat.le_refl _) _, rfl, fun j hj => ?_, fun j => World.frozen?_alloc_at _ _ _ _ rfl⟩
  rw [World.cell?_alloc_at _ _ _ _ rfl]
  rw [List.getElem?_toArray, List.getElem?_replicate, if_pos hj, List.append_nil, List.getD_eq_getElem?_getD, List.getElem?_replicate, if_pos hj]
  rfl

theorem utoa_zero (w : World) :
    Calls Try.prog 20 #[.int .u64 0] w fun e w' => ∃ g ds, w.heap.size ≤ g ∧ e = .returned (.slice (some ⟨g, 0, none⟩) ds.length ds.length) ∧ Own w' g ds.length ds.length ds ∧ Below w.heap.size w w' ∧ Dec ds := by
  go_enter Try.func20, Try.ntmps20
  go_wp2
  go_ret
  have := lit_of_own (w := w) [48] (by decide) (by decide) rfl
  exact ⟨w.heap.size, [48], Nat.le_refl _, rfl, this.1, this.2, ⟨by decide, by decide, by decide, .inl rfl⟩⟩

set_option maxHeartbeats 400000 in
theorem utoa_pos (w : World) (n : Nat) (h0 : 0 < n) (hn : n ≤ 18446744073709551615) :
    Calls Try.prog 20 #[.int .u64 n] w fun e w' => ∃ g ds, w.heap.size ≤ g ∧ e = .returned (.slice (some ⟨g, 0, none⟩) ds.length ds.length) ∧ Own w' g ds.length ds.length ds ∧ Below w.heap.size w w' ∧ Dec ds := by
  have hne : ((n : Int) == 0) = false := by simp; omega
  go_enter Try.func20, Try.ntmps20
  go_wp2
  go_loopw [0, 4] (fun s0 s4 wr => ∃ (N p : Nat) (ds : List Int), N ≤ 18446744073709551615 ∧ s0 = .int .u64 (N : Int) ∧ s4 = .int .i64 (p : Int) ∧ Buf w wr p ds ∧ Going N p ds) (fun _ s4 _ => (intOf s4).toNat)
  case atStart => exact ⟨n, 20, [], hn, rfl, rfl, buf_start w, ⟨by omega, by simp, fun h => by omega⟩⟩
  case round =>
    obtain ⟨N, p, ds, hN, rfl, rfl, hB, hG⟩ := hrel
    have HG : Hid (Going N p ds) := hG
    clear hG
    by_cases hpos : 0 < N
    · obtain ⟨p, rfl⟩ : ∃ q, p = q + 1 := by
        match p with
        | 0 => have := HG.out.small; simp at this; omega
        | q + 1 => exact ⟨q, rfl⟩
      have hl := hB.len
      have hp : p < 20 := by omega
      have hf := hB.free p
      obtain ⟨v, hv⟩ : ∃ v, wr.cell? ⟨w.heap.size, p, none⟩ = some v := ⟨_, hB.cells p hp⟩
      go_wp2
      go_roundw
      case rel => exact ⟨N / 10, p, _, by omega, by go_num, rfl, buf_step hB _, going_step HG.out hpos⟩
      case measure => simp [intOf]
    · obtain rfl : N = 0 := by omega
      obtain ⟨wA, rfl⟩ : ∃ wA, wA = wr := ⟨_, rfl⟩
      have hl := hB.len
      obtain ⟨hd0, hd1⟩ := HG.out.head rfl
      have hdig := HG.out.dig
      have HD : Hid (Dec ds) := ⟨hd0, by omega, hdig, .inr hd1⟩
      have HDG : Hid (∀ z ∈ ds, 48 ≤ z ∧ z ≤ 57) := hdig
      have HBC : Hid (∀ j, j < ds.length → wA.cell? ⟨w.heap.size, p + j, none⟩ = some (.int .u8 (ds.getD j 0))) := by
        intro j hj
        rw [hB.cells (p + j) (by omega)]
        congr 2
        rw [List.getD_eq_getElem?_getD, List.getD_eq_getElem?_getD, List.getElem?_append_right (by simp)]
        simp
      have hsz : w.heap.size < wA.heap.size := by have := hB.size; omega
      have hBel := hB.below
      obtain ⟨m, hm⟩ : ∃ m, m = ds.length := ⟨_, rfl⟩
      rw [← hm] at hl hd0 HBC
      have HM : Hid (m = ds.length) := hm
      clear hB HG hdig hd1 hm
      go_wp2_with (at_make; refine wpList_mk rfl _ _ rfl _ m rfl rfl (by omega) (by omega) ?_; intro w2 O2 B2)
      go_loopw [5, 6] (fun s5 s6 wx => ∃ t : Nat, t ≤ m ∧ s6 = .int .i64 ((p + t : Nat) : Int) ∧ s5 = .slice (some ⟨wA.heap.size, 0, none⟩) t m ∧ Own wx wA.heap.size t m (ds.take t) ∧ Below wA.heap.size wA wx) (fun _ s6 _ => 20 - (intOf s6).toNat)
      case atStart => exact ⟨0, by omega, by go_num, rfl, by simpa using O2, B2⟩
      case round =>
        obtain ⟨t, ht, rfl, rfl, hO, hBx⟩ := hrel
        by_cases hlt : t < m
        · obtain ⟨cb, hcb⟩ : ∃ cb, cb = ds.getD t 0 := ⟨_, rfl⟩
          have hcx : wr.cell? ⟨w.heap.size, p + t, none⟩ = some (.int .u8 cb) := by rw [hcb]; exact (hBx.cell (by exact hsz)).trans (HBC.out t hlt)
          have HP : Hid (∀ w' : World, Own w' wA.heap.size (t + 1) m (ds.take t ++ [cb]) → Below wA.heap.size wr w' → Own w' wA.heap.size (t + 1) m (ds.take (t + 1)) ∧ Below wA.heap.size wA w') := by
            intro w' h1 h2
            rw [take_snoc ds t (by have := HM.out; omega), ← hcb]
            exact ⟨h1, hBx.trans h2⟩
          have hc0 : 0 ≤ cb ∧ cb ≤ 255 := by
            have := HDG.out cb (by rw [hcb, List.getD_eq_getElem?_getD, List.getElem?_eq_getElem (by have := HM.out; omega)]; exact List.getElem_mem _)
            omega
          clear hcb
          go_wp2_with (at_builtin; refine wpList_push rfl _ _ rfl hO rfl rfl hc0 (by omega) ?_; intro w3 O3 B3)
          have hp := HP.out _ O3 B3
          go_roundw
          case rel => exact ⟨t + 1, by omega, by go_num, rfl, hp.1, hp.2⟩
          case measure => simp [intOf]; omega
        · obtain rfl : t = m := by omega
          go_wp2
          go_ret
          have hb : Below w.heap.size w wr := hBel.trans (hBx.mono (by omega))
          have hm := HM.out
          rw [List.take_of_length_le (by omega)] at hO
          subst hm
          exact ⟨wA.heap.size, ds, by omega, rfl, hO, hb, HD.out⟩

end Go.Proofs.Qxb6001223a
