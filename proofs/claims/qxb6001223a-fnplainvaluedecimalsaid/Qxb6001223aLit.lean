/-
  SEAT b6001223a: 'plainValue' at a letter: the three literals.
-/
import Derived.Test.Qxb6001223aValue
namespace Go.Proofs.Qxb6001223a
open Go.RowKit

theorem nums_list (xs : List Int) : (strOfNums xs).toList = xs.map (fun n => UInt8.ofNat n.toNat) := by
  rw [ByteArray.toList_eq, strOfNums_data]

/-- 'string(line[i:i+m])' behind whatever new block. -/
theorem conv_at (w : World) {B : Nat} (b off n c i m : Nat) (zs : List Int) (hr : Row B w (some ⟨b, off, none⟩) n zs) (him : i + m ≤ n) (o : Obj) :
    (convert 22 9 (.slice (some ⟨b, off + i, none⟩) m (c - i))).run Try.prog (w.alloc o) = .ok (.string (strOfNums ((zs.drop i).take m))) (w.alloc o) := by
  have hs := hr.sub i m him
  refine run_convert_bytes_arg (w.alloc o) 22 5 Try.underlying22 Try.underlying5 b (off + i) m (c - i) _ hs.len ?_ 9 Try.underlying9
  intro j hj
  rcases hs.cells with h0 | ⟨b', off', ha, _, hc⟩
  · omega
  · simp only [Option.some.injEq, Addr.mk.injEq, and_true] at ha
    obtain ⟨rfl, rfl⟩ := ha
    have h := hc j hj
    have hb := World.block_lt_of_cell? w _ h
    exact ((Below.refl w.heap.size w).alloc (Nat.le_refl _) o).cell (p := ⟨b, off + i + j, none⟩) hb |>.trans h

theorem lit_eq4 (b off i c : Nat) : Ending.returned (.tuple #[.slice (some ⟨b, off + i, none⟩) (i + 4 - i) (c - i), .int .i64 ((i : Int) + 4)]) = .returned (.tuple #[.slice (some ⟨b, off + i, none⟩) 4 (c - i), .int .i64 ((i : Int) + 4)]) := by
  rw [Nat.add_sub_cancel_left]

theorem lit_eq5 (b off i c : Nat) : Ending.returned (.tuple #[.slice (some ⟨b, off + i, none⟩) (i + 5 - i) (c - i), .int .i64 ((i : Int) + 5)]) = .returned (.tuple #[.slice (some ⟨b, off + i, none⟩) 5 (c - i), .int .i64 ((i : Int) + 5)]) := by
  rw [Nat.add_sub_cancel_left]

/-- Fewer than four bytes are left. -/
theorem pv_short3 (w : World) (b off n c i : Nat) (x : Int) (hi : i < n) (hs : n < i + 4) (hq : w.cell? ⟨b, off + i, none⟩ = some (.int .u8 x)) (hx : 97 ≤ x) :
    Calls Try.prog 23 #[.slice (some ⟨b, off, none⟩) n c, .int .i64 i] w fun e w' => e = .returned (.tuple #[.slice none 0 0, .int .i64 (-1)]) ∧ Below w.heap.size w w' := by
  have hne : ((i : Int) == (n : Int)) = false := by simp; omega
  have q34 : (x == 34) = false := by simp; omega
  have q48 : (x == 48) = false := by simp; omega
  have q57 : ¬ x ≤ 57 := by omega
  go_enter Try.func23, Try.ntmps23
  go_wp2
  refine wp_loop_rounds 4 ?_
  rw [rounds_succ]
  go_wp2
  rw [rounds_succ]
  go_wp2
  rw [rounds_succ]
  go_wp2
  rw [rounds_succ]
  go_wp2
  go_ret2
  exact ⟨rfl, (Below.refl _ _).alloc (Nat.le_refl _) _⟩

/-- The bytes at i read true. -/
theorem pv_true (w : World) (b off n c i : Nat) (x : Int) (S4 : ByteArray) (hnc : n ≤ c) (hbig : c ≤ 1099511627776) (hs : i + 4 ≤ n) (hq : w.cell? ⟨b, off + i, none⟩ = some (.int .u8 x)) (hx : 97 ≤ x)
    (h4 : ∀ o, (convert 22 9 (.slice (some ⟨b, off + i, none⟩) 4 (c - i))).run Try.prog (w.alloc o) = .ok (.string S4) (w.alloc o))
    (t4 : (S4.toList == [116, 114, 117, 101]) = true) :
    Calls Try.prog 23 #[.slice (some ⟨b, off, none⟩) n c, .int .i64 i] w fun e w' => e = .returned (.tuple #[.slice (some ⟨b, off + i, none⟩) 4 (c - i), .int .i64 ((i : Int) + 4)]) ∧ Below w.heap.size w w' := by
  have hne : ((i : Int) == (n : Int)) = false := by simp; omega
  have q34 : (x == 34) = false := by simp; omega
  have q48 : (x == 48) = false := by simp; omega
  have q57 : ¬ x ≤ 57 := by omega
  go_enter Try.func23, Try.ntmps23
  go_wp2
  refine wp_loop_rounds 4 ?_
  rw [rounds_succ]
  go_wp2
  go_ret2
  exact ⟨lit_eq4 b off i c, (Below.refl _ _).alloc (Nat.le_refl _) _⟩

/-- The bytes at i read false. -/
theorem pv_false (w : World) (b off n c i : Nat) (x : Int) (S4 S5 : ByteArray) (hnc : n ≤ c) (hbig : c ≤ 1099511627776) (hs : i + 5 ≤ n) (hq : w.cell? ⟨b, off + i, none⟩ = some (.int .u8 x)) (hx : 97 ≤ x)
    (h4 : ∀ o, (convert 22 9 (.slice (some ⟨b, off + i, none⟩) 4 (c - i))).run Try.prog (w.alloc o) = .ok (.string S4) (w.alloc o))
    (h5 : ∀ o, (convert 22 9 (.slice (some ⟨b, off + i, none⟩) 5 (c - i))).run Try.prog (w.alloc o) = .ok (.string S5) (w.alloc o))
    (t4 : (S4.toList == [116, 114, 117, 101]) = false) (f5 : (S5.toList == [102, 97, 108, 115, 101]) = true) :
    Calls Try.prog 23 #[.slice (some ⟨b, off, none⟩) n c, .int .i64 i] w fun e w' => e = .returned (.tuple #[.slice (some ⟨b, off + i, none⟩) 5 (c - i), .int .i64 ((i : Int) + 5)]) ∧ Below w.heap.size w w' := by
  have hne : ((i : Int) == (n : Int)) = false := by simp; omega
  have q34 : (x == 34) = false := by simp; omega
  have q48 : (x == 48) = false := by simp; omega
  have q57 : ¬ x ≤ 57 := by omega
  go_enter Try.func23, Try.ntmps23
  go_wp2
  refine wp_loop_rounds 4 ?_
  rw [rounds_succ]
  go_wp2
  rw [rounds_succ]
  go_wp2
  go_ret2
  exact ⟨lit_eq5 b off i c, (Below.refl _ _).alloc (Nat.le_refl _) _⟩

/-- The bytes at i read null. -/
theorem pv_null (w : World) (b off n c i : Nat) (x : Int) (S4 S5 : ByteArray) (hnc : n ≤ c) (hbig : c ≤ 1099511627776) (hs : i + 4 ≤ n) (hq : w.cell? ⟨b, off + i, none⟩ = some (.int .u8 x)) (hx : 97 ≤ x)
    (h4 : ∀ o, (convert 22 9 (.slice (some ⟨b, off + i, none⟩) 4 (c - i))).run Try.prog (w.alloc o) = .ok (.string S4) (w.alloc o))
    (h5 : i + 5 ≤ n → ∀ o, (convert 22 9 (.slice (some ⟨b, off + i, none⟩) 5 (c - i))).run Try.prog (w.alloc o) = .ok (.string S5) (w.alloc o))
    (t4 : (S4.toList == [116, 114, 117, 101]) = false) (f5 : i + 5 ≤ n → (S5.toList == [102, 97, 108, 115, 101]) = false) (u4 : (S4.toList == [110, 117, 108, 108]) = true) :
    Calls Try.prog 23 #[.slice (some ⟨b, off, none⟩) n c, .int .i64 i] w fun e w' => e = .returned (.tuple #[.slice (some ⟨b, off + i, none⟩) 4 (c - i), .int .i64 ((i : Int) + 4)]) ∧ Below w.heap.size w w' := by
  by_cases hn5 : i + 5 ≤ n
  · have h5' := h5 hn5
    have f5' := f5 hn5
    clear h5 f5
    have hne : ((i : Int) == (n : Int)) = false := by simp; omega
    have q34 : (x == 34) = false := by simp; omega
    have q48 : (x == 48) = false := by simp; omega
    have q57 : ¬ x ≤ 57 := by omega
    go_enter Try.func23, Try.ntmps23
    go_wp2
    refine wp_loop_rounds 4 ?_
    rw [rounds_succ]
    go_wp2
    rw [rounds_succ]
    go_wp2
    rw [rounds_succ]
    go_wp2
    go_ret2
    exact ⟨lit_eq4 b off i c, (Below.refl _ _).alloc (Nat.le_refl _) _⟩
  · clear h5 f5
    have hne : ((i : Int) == (n : Int)) = false := by simp; omega
    have q34 : (x == 34) = false := by simp; omega
    have q48 : (x == 48) = false := by simp; omega
    have q57 : ¬ x ≤ 57 := by omega
    go_enter Try.func23, Try.ntmps23
    go_wp2
    refine wp_loop_rounds 4 ?_
    rw [rounds_succ]
    go_wp2
    rw [rounds_succ]
    go_wp2
    rw [rounds_succ]
    go_wp2
    go_ret2
    exact ⟨lit_eq4 b off i c, (Below.refl _ _).alloc (Nat.le_refl _) _⟩

/-- Four bytes are left, and they are no literal. -/
theorem pv_short4 (w : World) (b off n c i : Nat) (x : Int) (S4 : ByteArray) (hnc : n ≤ c) (hbig : c ≤ 1099511627776) (hs : n = i + 4) (hq : w.cell? ⟨b, off + i, none⟩ = some (.int .u8 x)) (hx : 97 ≤ x)
    (h4 : ∀ o, (convert 22 9 (.slice (some ⟨b, off + i, none⟩) 4 (c - i))).run Try.prog (w.alloc o) = .ok (.string S4) (w.alloc o))
    (t4 : (S4.toList == [116, 114, 117, 101]) = false) (u4 : (S4.toList == [110, 117, 108, 108]) = false) :
    Calls Try.prog 23 #[.slice (some ⟨b, off, none⟩) n c, .int .i64 i] w fun e w' => e = .returned (.tuple #[.slice none 0 0, .int .i64 (-1)]) ∧ Below w.heap.size w w' := by
  have hne : ((i : Int) == (n : Int)) = false := by simp; omega
  have q34 : (x == 34) = false := by simp; omega
  have q48 : (x == 48) = false := by simp; omega
  have q57 : ¬ x ≤ 57 := by omega
  go_enter Try.func23, Try.ntmps23
  go_wp2
  refine wp_loop_rounds 4 ?_
  rw [rounds_succ]
  go_wp2
  rw [rounds_succ]
  go_wp2
  rw [rounds_succ]
  go_wp2
  rw [rounds_succ]
  go_wp2
  go_ret2
  exact ⟨rfl, (Below.refl _ _).alloc (Nat.le_refl _) _⟩

end Go.Proofs.Qxb6001223a
