/-
  SEAT b6600374a: 'isIndex' by its contract.
-/
import Derived.Test.Qxb6600374aRows
import Derived.WalkKit
import Derived.ProofKit
import Derived.OpenShut
import Derived.WalkSpells
import Derived.WalkLawsBesides
import Derived.Laws.IdiomStrings
namespace Go.Proofs.Qxb6600374a
open Go.RowKit

/-- A digit. -/
def digB (c : Int) : Bool := decide (48 ≤ c ∧ c ≤ 57)
/-- Each byte is a digit. -/
def alld (l : List UInt8) : Bool := l.all fun b => digB (b.toNat : Int)
/-- How an array index is written: a nought alone, or digits that do not start with a nought. -/
def idx (l : List UInt8) : Bool := !l.isEmpty && !((l.getD 0 0).toNat == 48 && decide (1 < l.length)) && alld l

theorem take_snoc (s : ByteArray) (k : Nat) (h : k < s.size) : s.data.toList.take (k + 1) = s.data.toList.take k ++ [s[k]] := by
  rw [List.take_succ_eq_append_getElem (by simpa using h)]; rfl
theorem alld_snoc (s : ByteArray) (k : Nat) (h : k < s.size) : alld (s.data.toList.take (k + 1)) = (alld (s.data.toList.take k) && digB ((s[k]).toNat : Int)) := by
  rw [take_snoc s k h]; simp [alld]
theorem take_end (s : ByteArray) (k : Nat) (h : s.size ≤ k) : s.data.toList.take k = s.data.toList := List.take_of_length_le (by simpa using h)
theorem alld_bad (s : ByteArray) (k : Nat) (h : k < s.size) (hb : digB ((s[k]).toNat : Int) = false) : alld s.data.toList = false := by
  unfold alld
  rw [List.all_eq_false]
  refine ⟨s[k], ?_, by simp [hb]⟩
  have : s.data.toList[k]'(by simpa using h) = s[k] := rfl
  rw [← this]
  exact List.getElem_mem _
theorem len_size (s : ByteArray) : s.data.toList.length = s.size := by simp
theorem get_zero (s : ByteArray) (h : 0 < s.size) : s.data.toList.getD 0 0 = s[0] := by
  rw [List.getD_eq_getElem?_getD, List.getElem?_eq_getElem (by simpa using h)]; rfl

/-- '[]byte(s)': a new block that reads the bytes. -/
theorem bytes_made (w : World) (s : ByteArray) : ∃ C W1, (convert 9 38 (.string s)).run Try.prog w = .ok (.slice (some ⟨w.heap.size, 0, none⟩) s.size C) W1 ∧ Below w.heap.size w W1 ∧
    ∀ k (h : k < s.size), W1.cell? ⟨w.heap.size, k, none⟩ = some (.int .u8 ((s[k]).toNat : Int)) := by
  refine ⟨_, _, run_bytes_of_string (P := Try.prog) w 9 38 5 s Try.underlying9 Try.underlying38 Try.underlying5, (Below.refl _ _).drew.alloc (Nat.le_refl _) _, fun k h => ?_⟩
  refine (cell_of_row _ w.heap.size k _ _ _ (heap_alloc_new w.drew _)).trans ?_
  have h' : k < s.data.size := h
  rw [bytesRow, Array.getElem?_append_left (by simpa using h'), Array.getElem?_map, Array.getElem?_eq_getElem h']
  rfl

set_option maxHeartbeats 1000000 in
theorem isIndex_any (s : ByteArray) (w : World) (hs : s.size ≤ 1048576) :
    Calls Try.prog 32 #[.string s] w fun e w' => e = .returned (.bool (idx s.data.toList)) ∧ Below w.heap.size w w' := by
  by_cases h0 : s.size = 0
  · have hnil : s.data.toList = [] := List.eq_nil_of_length_eq_zero (by rw [len_size]; exact h0)
    have he : s.toList.isEmpty = true := by rw [ByteArray.toList_eq, hnil]; rfl
    have HN : Hid (idx s.data.toList = false) := by unfold Hid; rw [hnil]; rfl
    clear hnil
    go_enter Try.func32, Try.ntmps32
    go_wp2
    go_ret
    exact ⟨by rw [HN.out]; rfl, Below.refl _ _⟩
  · have hp : 0 < s.size := by omega
    have hne : s.data.toList.isEmpty = false := by
      cases hl : s.data.toList with
      | nil => have := len_size s; rw [hl] at this; simp at this; omega
      | cons => rfl
    have he : s.toList.isEmpty = false := by rw [ByteArray.toList_eq]; exact hne
    obtain ⟨b0, hb0⟩ : ∃ b0, b0 = (s[0]).toNat := ⟨_, rfl⟩
    have HI : Hid (idx s.data.toList = (!(b0 == 48 && decide (1 < s.size)) && alld s.data.toList)) := by
      unfold Hid idx; rw [hne, get_zero s hp, len_size, ← hb0]; rfl
    clear hne
    by_cases hlead : (s[0]).toNat = 48 ∧ 1 < s.size
    · obtain ⟨hl0, hl1⟩ := hlead
      have hq : (((s[0]).toNat : Int) == 48) = true := by simp [hl0]
      have HN : Hid (idx s.data.toList = false) := by unfold Hid; rw [HI.out, hb0, hl0]; simp [hl1]
      clear HI hb0 hl0
      go_enter Try.func32, Try.ntmps32
      go_wp2
      go_ret
      exact ⟨by rw [HN.out]; rfl, Below.refl _ _⟩
    · have HN : Hid (idx s.data.toList = alld s.data.toList) := by
        unfold Hid; rw [HI.out, hb0]
        rw [show ((s[0]).toNat == 48 && decide (1 < s.size)) = false by simp; omega]
        rfl
      clear HI hb0
      obtain ⟨C, W1, hcv, hB, hcell⟩ := bytes_made w s
      have HC : Hid (∀ k (h : k < s.size), W1.cell? ⟨w.heap.size, k, none⟩ = some (.int .u8 ((s[k]).toNat : Int))) := hcell
      clear hcell
      rcases (show ((((s[0]).toNat : Int) == 48) = true ∧ ¬ 1 < s.size) ∨ (((s[0]).toNat : Int) == 48) = false by
        by_cases e : (s[0]).toNat = 48
        · left; exact ⟨by simp [e], by omega⟩
        · right; simp; omega) with ⟨hq, hq1⟩ | hq
      all_goals
        go_enter Try.func32, Try.ntmps32
        go_wp2
        go_loop [20] (fun i => ∃ k : Nat, k ≤ s.size ∧ i = .int .i64 k ∧ alld (s.data.toList.take k) = true) (fun i => s.size - (intOf i).toNat)
        case atStart => exact ⟨0, Nat.zero_le _, rfl, by simp [alld]⟩
        case round =>
          obtain ⟨k, hk, rfl, ha⟩ := hrel
          have HA : Hid (alld (s.data.toList.take k) = true) := ha
          clear ha
          by_cases hlt : k < s.size
          · have hcx := HC.out k hlt
            obtain ⟨x, hx⟩ : ∃ x : Int, x = ((s[k]).toNat : Int) := ⟨_, rfl⟩
            rw [← hx] at hcx
            have HX : Hid (x = ((s[k]).toNat : Int)) := hx
            have x0 : 0 ≤ x := by omega
            clear hx
            cases hd : digB x
            · have hd' : ¬ (48 ≤ x ∧ x ≤ 57) := of_decide_eq_false hd
              have HF : Hid (idx s.data.toList = false) := by unfold Hid; rw [HN.out]; exact alld_bad s k hlt (by rw [← HX.out]; exact hd)
              rcases (show x < 48 ∨ (48 ≤ x ∧ 57 < x) by omega) with g | ⟨g, g'⟩
              all_goals
                clear hd hd'
                go_wp2
                go_ret
                exact ⟨by rw [HF.out]; rfl, hB⟩
            · have hd' : 48 ≤ x ∧ x ≤ 57 := of_decide_eq_true hd
              obtain ⟨g, g'⟩ := hd'
              have HS : Hid (alld (s.data.toList.take (k + 1)) = true) := by unfold Hid; rw [alld_snoc s k hlt, HA.out, ← HX.out, hd]; rfl
              clear hd
              go_wp2
              go_round
              case rel => exact ⟨k + 1, by omega, by go_num, HS.out⟩
              case measure => simp [intOf]; omega
          · have HT : Hid (idx s.data.toList = true) := by
              unfold Hid; rw [HN.out]
              have := HA.out
              rwa [take_end s k (by omega)] at this
            go_wp2
            go_ret
            exact ⟨by rw [HT.out]; rfl, hB⟩

/-- 'ZZIsIndex_b1' is 'isIndex'. -/
theorem zzIsIndex_any (s : ByteArray) (w : World) (hs : s.size ≤ 1048576) :
    Calls Try.prog 23 #[.string s] w fun e w' => e = .returned (.bool (idx s.data.toList)) ∧ Below w.heap.size w w' := by
  have HI := isIndex_any s w hs
  obtain ⟨q, hq⟩ : ∃ q, q = idx s.data.toList := ⟨_, rfl⟩
  rw [← hq] at HI ⊢
  clear hq
  go_enter Try.func23, Try.ntmps23
  go_wp2_with fail
  refine HI.mono ?_
  rintro e w' ⟨rfl, hB⟩
  go_wp2
  go_ret
  exact ⟨rfl, hB⟩

end Go.Proofs.Qxb6600374a
