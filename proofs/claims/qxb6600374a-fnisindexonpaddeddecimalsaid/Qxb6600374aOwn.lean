/-
  SEAT b6600374a: a row of bytes that the call made itself ('Own'), make and append on it; 'zzUtoa_b1' by its contract.
-/
import Derived.Test.Qxb6600374aIndex
namespace Go.Proofs.Qxb6600374a
open Go.RowKit

theorem Try.info5 : (Try.prog.info? 5).map (fun i => (i.zero, i.size, i.bytes)) = some (some (.int .u8 0), 1, 1) := by kernel_rfl

/-- The slice of length 'n' at the head of the call's own block 'g' holds the bytes 'xs'. -/
structure Own (w : World) (g n cap : Nat) (xs : List Int) : Prop where
  own : w.ownsRow g 5 1 (.slice (some ⟨g, 0, none⟩) n cap) n (xs.map (Value.int .u8))
  bd : ∀ z ∈ xs, 0 ≤ z ∧ z ≤ 255

theorem Own.len {w : World} {g n cap : Nat} {xs : List Int} (h : Own w g n cap xs) : xs.length = n := by simpa using h.own.1
theorem Own.lt {w : World} {g n cap : Nat} {xs : List Int} (h : Own w g n cap xs) : g < w.heap.size := (h.own.lt g rfl).2
theorem Own.below {w w' : World} {B g n cap : Nat} {xs : List Int} (h : Own w g n cap xs) (hb : Below B w w') (hB : g < B) : Own w' g n cap xs := by
  refine ⟨⟨h.own.1, ?_⟩, h.bd⟩
  rcases h.own.2 with h' | ⟨g', cap', cur, h', h1, h2, r⟩
  · exact .inl h'
  · simp only [Value.slice.injEq, Option.some.injEq, Addr.mk.injEq, and_true, true_and] at h'
    obtain ⟨rfl, rfl⟩ := h'
    exact .inr ⟨g, cap, cur, rfl, h1, (hb.block g hB).trans h2, r⟩
theorem Own.cellAt {w : World} {g n cap : Nat} {xs : List Int} (h : Own w g n cap xs) (j : Nat) (hj : j < n) : w.cell? ⟨g, j, none⟩ = some (.int .u8 (xs.getD j 0)) := by
  have hl := h.len
  rw [h.own.cellAt j (by omega)]
  simp [List.getD_eq_getElem?_getD, show j < xs.length by omega]

theorem wpList_mk {w : World} {ops : Array Oper} {rest : List Oper} {o : Oper} {a : Act} {Q : Exit → Act → World → Prop} (hgd : o.guard = none) (l c : Operand)
    (hop : o.op = Op.makeSlice 38 l c) (C : Int) (n : Nat) (hl : a.eval l = .int .i64 0) (hc : a.eval c = .int .i64 C) (hC : C = (n : Int)) (hn : n ≤ 1099511627776)
    (hK : ∀ w', Own w' w.heap.size 0 n [] → Below w.heap.size w w' → wpList Try.prog ops Q rest (a.put o.dst (.slice (some ⟨w.heap.size, 0, none⟩) 0 n)) w') :
    wpList Try.prog ops Q (o :: rest) a w := by
  obtain ⟨i0, hi, hz0, hz1, hz2⟩ := info_parts Try.info5
  refine wpList_make_own w hgd l c 38 hop w.heap.size 5 i0 (.int .u8 0) 1 Try.underlying38 hi hz0 hz1 .i64 .i64 C n hl hc hC (by rw [hz2]; omega) (by unfold maxLen; omega) (Nat.le_refl _) ?_
  intro w' h1 h2
  exact hK w' ⟨by simpa using h1, by simp⟩ ((Below.refl _ _).grown h2 (Nat.le_refl _) (fun k h => by cases h))

/-- 'append(dst, src...)', dst the call's own with room, src a row of bytes that lies anywhere. -/
theorem wpList_cat {w : World} {ops : Array Oper} {rest : List Oper} {o : Oper} {a : Act} {Q : Exit → Act → World → Prop} (hgd : o.guard = none) (s x : Operand)
    (hop : o.op = Op.call { callee := Callee.builtin Builtin.append, args := #[s, x], argTypes := #[38, 38] }) {g n cap : Nat} {xs : List Int} {B b off m c : Nat} {zs : List Int}
    (hO : Own w g n cap xs) (hB : B ≤ g) (hz : zs.length = m) (hbd : ∀ z ∈ zs, 0 ≤ z ∧ z ≤ 255) (hc : ∀ j, j < m → w.cell? ⟨b, off + j, none⟩ = some (.int .u8 (zs.getD j 0)))
    (hs : a.eval s = .slice (some ⟨g, 0, none⟩) n cap) (hx : a.eval x = .slice (some ⟨b, off, none⟩) m c) (hcap : n + m ≤ cap)
    (hK : ∀ w', Own w' g (n + m) cap (xs ++ zs) → Below B w w' → wpList Try.prog ops Q rest (a.put o.dst (.slice (some ⟨g, 0, none⟩) (n + m) cap)) w') :
    wpList Try.prog ops Q (o :: rest) a w := by
  obtain ⟨i0, hi, hz0, hz1, hz2⟩ := info_parts Try.info5
  refine wpList_append_fits _ hgd s x 38 hop g 5 i0 1 Try.underlying38 hi hz1 g n cap _ hs hO.own ⟨b, off, none⟩ m c (zs.map (Value.int .u8)) hx (by simp [hz]) ?_ (ints_oneCell _ _) hcap ?_
  · intro t u ht
    have htl : t < m := by
      have := (List.getElem?_eq_some_iff.1 ht).1
      simpa [hz] using this
    rw [Addr.add_lit, hc t htl]
    simpa [List.getD_eq_getElem?_getD, show t < zs.length by omega] using ht
  · intro w' h1 h2
    refine hK w' ⟨by simpa using h1, ?_⟩ ((Below.refl B w).grown h2 (by have := hO.lt; omega) (fun k hk => by cases hk; exact hB))
    intro z hz'
    rcases List.mem_append.1 hz' with hz' | hz'
    · exact hO.bd z hz'
    · exact hbd z hz'

/-- 'append(dst, c)'. -/
theorem wpList_push {w : World} {ops : Array Oper} {rest : List Oper} {o : Oper} {a : Act} {Q : Exit → Act → World → Prop} (hgd : o.guard = none) (s x : Operand)
    (hop : o.op = Op.call { callee := Callee.builtin Builtin.append, args := #[s, x], argTypes := #[38, 38] }) {g n cap : Nat} {xs : List Int} {B : Nat} {c : Int}
    (hO : Own w g n cap xs) (hB : B ≤ g) (hs : a.eval s = .slice (some ⟨g, 0, none⟩) n cap) (hx : a.eval x = .slice (some ⟨w.heap.size, 0, none⟩) 1 1) (hc : 0 ≤ c ∧ c ≤ 255) (hcap : n + 1 ≤ cap)
    (hK : ∀ w', Own w' g (n + 1) cap (xs ++ [c]) → Below B w w' → wpList Try.prog ops Q rest (a.put o.dst (.slice (some ⟨g, 0, none⟩) (n + 1) cap)) w') :
    wpList Try.prog ops Q (o :: rest) a (w.alloc (.cells #[.int .u8 c] 5)) := by
  have hg := hO.lt
  have hb : Below w.heap.size w (w.alloc (.cells #[.int .u8 c] 5)) := (Below.refl _ _).alloc (Nat.le_refl _) _
  refine wpList_cat hgd s x hop (B := B) (zs := [c]) (hO.below hb hg) hB rfl (by intro z hz; simp at hz; subst hz; exact hc) ?_ hs hx hcap ?_
  · intro j hj
    obtain rfl : j = 0 := by simpa using hj
    rw [World.cell?_alloc_at _ _ _ _ rfl]
    rfl
  · intro w' h1 h2
    exact hK w' h1 ((hb.mono (by omega)).trans h2)

/-! ### 'zzUtoa_b1' -/

/-- The digits of n as the law needs them: digits, at most twenty; of nought the nought alone, else the first is no nought. -/
structure DecOf (n : Nat) (ds : List Int) : Prop where
  pos : 0 < ds.length
  le : ds.length ≤ 20
  dig : ∀ z ∈ ds, 48 ≤ z ∧ z ≤ 57
  head : (n = 0 ∧ ds = [48]) ∨ (n ≠ 0 ∧ 49 ≤ ds.getD 0 0)

/-- The buffer of twenty bytes in the call's own block: noughts up to p, then the digits ds. -/
structure Buf (w wr : World) (p : Nat) (ds : List Int) : Prop where
  size : wr.heap.size = w.heap.size + 1
  below : Below w.heap.size w wr
  len : p + ds.length = 20
  cells : ∀ j, j < 20 → wr.cell? ⟨w.heap.size, j, none⟩ = some (.int .u8 ((List.replicate p (0 : Int) ++ ds).getD j 0))
  free : ∀ j, wr.frozen? ⟨w.heap.size, j, none⟩ = false

/-- At the loop's head, what is left being N: something is left, or n is nought and nothing is written yet. -/
structure Going (n N p : Nat) (ds : List Int) : Prop where
  small : N < 10 ^ (p + 1)
  dig : ∀ z ∈ ds, 48 ≤ z ∧ z ≤ 57
  left : 0 < N ∨ (N = 0 ∧ ds = [])
  same : N = 0 ↔ n = 0

theorem going_step {n N p : Nat} {ds : List Int} (h : Going n N (p + 1) ds) (hN : N / 10 ≠ 0) : Going n (N / 10) p ((48 + (N : Int) % 10) :: ds) := by
  refine ⟨?_, ?_, ?_, ?_⟩
  · have := h.small
    rw [Nat.pow_succ] at this
    exact Nat.div_lt_of_lt_mul (by rw [Nat.mul_comm]; exact this)
  · intro z hz
    rcases List.mem_cons.1 hz with rfl | hz
    · omega
    · exact h.dig z hz
  · left; omega
  · have := h.same
    omega

theorem going_end {n N p : Nat} {ds : List Int} (h : Going n N p ds) (hl : p + 1 + ds.length = 20) (hN : N / 10 = 0) : DecOf n ((48 + (N : Int) % 10) :: ds) := by
  refine ⟨by simp, by simp; omega, ?_, ?_⟩
  · intro z hz
    rcases List.mem_cons.1 hz with rfl | hz
    · omega
    · exact h.dig z hz
  · have hs := h.same
    rcases h.left with hp | ⟨rfl, rfl⟩
    · right
      refine ⟨by omega, ?_⟩
      simp
      omega
    · left
      exact ⟨by omega, by simp⟩

/-- One byte more can be written: there is room for what is left. -/
theorem going_room {n N p : Nat} {ds : List Int} (h : Going n N p ds) (hN : N / 10 ≠ 0) : 0 < p := by
  match p with
  | 0 => have := h.small; simp at this; omega
  | _ + 1 => omega

theorem buf_step {w wr : World} {p : Nat} {ds : List Int} (h : Buf w wr (p + 1) ds) (d : Int) : Buf w (wr.setCell ⟨w.heap.size, p, none⟩ (.int .u8 d)) p (d :: ds) := by
  have hl := h.len
  refine ⟨by simp [World.setCell, h.size], h.below.setCell (Nat.le_refl _) _, by simp; omega, ?_, fun j => (World.frozen?_setCell _ _ _ _).trans (h.free j)⟩
  intro j hj
  by_cases e : j = p
  · subst e
    rw [World.cell?_setCell_same _ _ _ (h.cells j hj)]
    simp [List.getD_eq_getElem?_getD]
  · rw [World.cell?_setCell_other _ _ _ _ (by intro h'; simp at h'), h.cells j hj]
    congr 2
    rw [List.getD_eq_getElem?_getD, List.getD_eq_getElem?_getD]
    rcases Nat.lt_or_gt_of_ne e with hlt | hgt
    · rw [List.getElem?_append_left (by simp; omega), List.getElem?_append_left (by simp; omega)]
      simp [hlt, show j < p + 1 by omega]
    · rw [List.getElem?_append_right (by simp; omega), List.getElem?_append_right (by simp; omega)]
      simp
      rw [show j - p = (j - (p + 1)) + 1 by omega, List.getElem?_cons_succ]

theorem buf_start (w : World) : Buf w (w.alloc (.cells (List.replicate 20 (Value.int .u8 0)).toArray 54)) 20 [] := by
  refine ⟨by simp, (Below.refl _ _).alloc (Nat.le_refl _) _, rfl, fun j hj => ?_, fun j => World.frozen?_alloc_at _ _ _ _ rfl⟩
  rw [World.cell?_alloc_at _ _ _ _ rfl]
  rw [List.getElem?_toArray, List.getElem?_replicate, if_pos hj, List.append_nil, List.getD_eq_getElem?_getD, List.getElem?_replicate, if_pos hj]
  rfl

theorem Try.under54 : Try.prog.underlying 54 = some (.array (Try.prog.arrayLen 54) (Try.prog.elem 54)) := by kernel_rfl
theorem Try.len54 : Try.prog.arrayLen 54 = 20 := by kernel_rfl
theorem Try.elem54 : Try.prog.elem 54 = 5 := by kernel_rfl

theorem cut_buf (wx : World) (g p : Nat) (hp : p < 20) :
    (Instr.sliceAt 54 (.pointer (some ⟨g, 0, none⟩)) (some (.int .i64 (p : Int))) none none).run Try.prog wx = .ok (.slice (some ⟨g, p, none⟩) (20 - p) (20 - p)) wx := by
  obtain ⟨i0, hi, hz0, hz1, hz2⟩ := info_parts Try.info5
  rw [run_sliceAt_array_l wx 54 ⟨g, 0, none⟩ Try.under54 .i64 (p : Int) (by omega) (by rw [Try.len54]; omega), Try.len54, Try.elem54]
  simp [sizeOf, typeInfo, hi, hz1, slicedAt]
  rw [if_neg (by omega), Addr.add_lit]
  simp

set_option maxHeartbeats 400000 in
theorem utoa_any (w : World) (n : Nat) (hn : n ≤ 18446744073709551615) :
    Calls Try.prog 25 #[.int .u64 n] w fun e w' => ∃ g ds, w.heap.size ≤ g ∧ e = .returned (.slice (some ⟨g, 0, none⟩) ds.length ds.length) ∧ Own w' g ds.length ds.length ds ∧ Below w.heap.size w w' ∧ DecOf n ds := by
  go_enter Try.func25, Try.ntmps25
  go_wp2
  go_loopw [0, 4] (fun s0 s4 wr => ∃ (N p : Nat) (ds : List Int), N ≤ 18446744073709551615 ∧ s0 = .int .u64 (N : Int) ∧ s4 = .int .i64 ((p + 1 : Nat) : Int) ∧ Buf w wr (p + 1) ds ∧ Going n N p ds) (fun _ s4 _ => (intOf s4).toNat)
  case atStart => exact ⟨n, 19, [], hn, rfl, rfl, buf_start w, ⟨by omega, by simp, by by_cases h : n = 0; exact .inr ⟨h, rfl⟩; exact .inl (by omega), Iff.rfl⟩⟩
  case round =>
    obtain ⟨N, p, ds, hN, rfl, rfl, hB, hG⟩ := hrel
    have HG : Hid (Going n N p ds) := hG
    clear hG
    have hl := hB.len
    have hp : p < 20 := by omega
    have hf := hB.free p
    obtain ⟨v, hv⟩ : ∃ v, wr.cell? ⟨w.heap.size, p, none⟩ = some v := ⟨_, hB.cells p hp⟩
    by_cases hq : N / 10 = 0
    · have hq' : ((N : Int) / 10 == 0) = true := by simp; omega
      have hB' := buf_step hB (48 + (N : Int) % 10)
      have hD := going_end HG.out hl hq
      obtain ⟨m, hm⟩ : ∃ m, m = 20 - p := ⟨_, rfl⟩
      have hm1 : p + m = 20 := by omega
      have hsl : ∀ wx : World, (Instr.sliceAt 54 (.pointer (some ⟨w.heap.size, 0, none⟩)) (some (.int .i64 (p : Int))) none none).run Try.prog wx = .ok (.slice (some ⟨w.heap.size, p, none⟩) m m) wx := fun wx => by rw [hm]; exact cut_buf wx _ p hp
      clear hm HG hq
      have hlen : ((48 + (N : Int) % 10) :: ds).length = m := by simp; omega
      have hsz : w.heap.size + 1 = wr.heap.size := hB.size.symm
      have HS : Hid (w.heap.size + 1 = wr.heap.size) := hsz
      clear hsz
      have HCL : Hid (∀ j, j < m → (wr.setCell ⟨w.heap.size, p, none⟩ (.int .u8 (48 + (N : Int) % 10))).cell? ⟨w.heap.size, p + j, none⟩ = some (.int .u8 (((48 + (N : Int) % 10) :: ds).getD j 0))) := by
        intro j hj
        rw [hB'.cells (p + j) (by omega)]
        congr 2
        rw [List.getD_eq_getElem?_getD, List.getD_eq_getElem?_getD, List.getElem?_append_right (by simp)]
        simp
      have HBB : Hid (Below w.heap.size w (wr.setCell ⟨w.heap.size, p, none⟩ (.int .u8 (48 + (N : Int) % 10)))) := hB'.below
      obtain ⟨dd, hdd⟩ : ∃ dd, dd = (48 + (N : Int) % 10) :: ds := ⟨_, rfl⟩
      rw [← hdd] at hD hlen HCL
      clear hdd hB'
      have HL : Hid (dd.length = m) := hlen
      clear hlen
      go_wp2_with (first | (at_make; refine wpList_mk rfl _ _ rfl _ m rfl rfl (by omega) (by omega) ?_; intro w2 O2 B2; replace O2 : Own w2 wr.heap.size 0 m [] := (by simpa using O2); replace B2 : Below wr.heap.size (wr.setCell ⟨w.heap.size, p, none⟩ (.int .u8 (48 + (N : Int) % 10))) w2 := (by simpa using B2)) | (at_builtin; refine wpList_cat (B := wr.heap.size) (zs := dd) rfl _ _ rfl O2 ?_ HL.out ?_ ?_ rfl rfl ?_ ?_))
      · exact Nat.le_refl _
      · intro z hz
        have := hD.dig z hz
        omega
      · intro j hj
        exact (B2.cell (by show w.heap.size < wr.heap.size; have := HS.out; omega)).trans (HCL.out j hj)
      · omega
      · intro w3 O3 B3
        go_wp2
        go_ret
        have hL := HL.out
        subst hL
        have hS := HS.out
        exact ⟨wr.heap.size, dd, by omega, rfl, O3, HBB.out.trans ((B2.trans B3).mono (by omega)), hD⟩
    · have hq' : ((N : Int) / 10 == 0) = false := by simp; omega
      obtain ⟨p, rfl⟩ : ∃ q, p = q + 1 := ⟨p - 1, by have := going_room HG.out hq; omega⟩
      go_wp2
      go_roundw
      case rel => exact ⟨N / 10, p, _, by omega, by go_num, rfl, buf_step hB _, going_step HG.out hq⟩
      case measure => simp [intOf]; omega

end Go.Proofs.Qxb6600374a
