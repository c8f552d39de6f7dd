/-
  SEAT b6600331a: 'codeByte' and 'isCode' by their contracts.
-/
import Derived.Test.Qxb6600331aRows
import Derived.WalkKit
import Derived.ProofKit
import Derived.OpenShut
namespace Go.Proofs.Qxb6600331a
open Go.RowKit

/-- An ASCII digit or letter. -/
def codeB (c : Int) : Bool := decide ((48 ≤ c ∧ c ≤ 57) ∨ (65 ≤ c ∧ c ≤ 90) ∨ (97 ≤ c ∧ c ≤ 122))

theorem letters : ∀ i : Fin 256, decide ((bits BinOp.or IntKind.u8 ((i.val : Nat) : Int) 32 - 97) % 256 < 26) = decide ((65 ≤ (i.val : Int) ∧ (i.val : Int) ≤ 90) ∨ (97 ≤ (i.val : Int) ∧ (i.val : Int) ≤ 122)) := by
  decide +kernel

theorem codeByte_any (c : Int) (w : World) (h0 : 0 ≤ c) (h1 : c ≤ 255) :
    Calls Try.prog 7 #[.int .u8 c] w fun e w' => e = .returned (.bool (codeB c)) ∧ w = w' := by
  have HL : Hid (decide ((bits BinOp.or IntKind.u8 c 32 - 97) % 256 < 26) = decide ((65 ≤ c ∧ c ≤ 90) ∨ (97 ≤ c ∧ c ≤ 122))) := by
    have := letters ⟨c.toNat, by omega⟩
    simp only [Int.toNat_of_nonneg h0] at this
    exact this
  by_cases hd : 48 ≤ c ∧ c ≤ 57
  · have e : codeB c = true := by simp [codeB]; omega
    rw [e]
    have h48 : (c - 48) % 256 < 10 := by omega
    go_enter Try.func7, Try.ntmps7
    go_wp2
    go_ret
    exact ⟨rfl, rfl⟩
  · have h48 : ¬ (c - 48) % 256 < 10 := by omega
    have HE : Hid (codeB c = decide ((65 ≤ c ∧ c ≤ 90) ∨ (97 ≤ c ∧ c ≤ 122))) := by
      unfold Hid codeB
      rw [Bool.eq_iff_iff]
      simp
      omega
    go_enter Try.func7, Try.ntmps7
    go_wp2
    go_ret
    refine ⟨?_, rfl⟩
    rw [HE.out, ← HL.out]
    rfl

/-- Each byte is a digit or a letter. -/
def allc (l : List UInt8) : Bool := l.all fun b => codeB (b.toNat : Int)

theorem take_snoc (s : ByteArray) (k : Nat) (h : k < s.size) : s.data.toList.take (k + 1) = s.data.toList.take k ++ [s[k]] := by
  rw [List.take_succ_eq_append_getElem (by simpa using h)]; rfl
theorem allc_snoc (s : ByteArray) (k : Nat) (h : k < s.size) : allc (s.data.toList.take (k + 1)) = (allc (s.data.toList.take k) && codeB ((s[k]).toNat : Int)) := by
  rw [take_snoc s k h]; simp [allc]
theorem allc_end (s : ByteArray) (k : Nat) (h : s.size ≤ k) : s.data.toList.take k = s.data.toList := List.take_of_length_le (by simpa using h)
theorem allc_bad (s : ByteArray) (k : Nat) (h : k < s.size) (hb : codeB ((s[k]).toNat : Int) = false) : allc s.data.toList = false := by
  unfold allc
  rw [List.all_eq_false]
  refine ⟨s[k], ?_, by simp [hb]⟩
  have : s.data.toList[k]'(by simpa using h) = s[k] := rfl
  rw [← this]
  exact List.getElem_mem _

theorem isCode_out (s : ByteArray) (least most : Int) (w : World) (h : ¬ (least ≤ s.size ∧ (s.size : Int) ≤ most)) :
    Calls Try.prog 14 #[.string s, .int .i64 least, .int .i64 most] w fun e w' => e = .returned (.bool false) ∧ w = w' := by
  by_cases h1 : (s.size : Int) < least
  · go_enter Try.func14, Try.ntmps14
    go_wp2
    go_ret
    exact ⟨rfl, rfl⟩
  · have h2 : most < (s.size : Int) := by omega
    clear h
    go_enter Try.func14, Try.ntmps14
    go_wp2
    go_ret
    exact ⟨rfl, rfl⟩

set_option maxHeartbeats 1000000 in
theorem isCode_in (s : ByteArray) (least most : Int) (w : World) (h1 : least ≤ s.size) (h2 : (s.size : Int) ≤ most) :
    Calls Try.prog 14 #[.string s, .int .i64 least, .int .i64 most] w fun e w' => e = .returned (.bool (allc s.data.toList)) ∧ ∃ pos, w' = w.iter s pos := by
  go_enter Try.func14, Try.ntmps14
  go_wp2
  go_loopw [8] (fun _ w' => ∃ pos : Nat, pos ≤ s.size ∧ w' = w.iter s pos ∧ allc (s.data.toList.take pos) = true) (fun _ w' => s.size - w'.iterPos w.heap.size)
  case atStart => exact ⟨0, Nat.zero_le _, rfl, by simp [allc]⟩
  case round =>
    obtain ⟨pos, hpl, rfl, hall⟩ := hrel
    have HA : Hid (allc (s.data.toList.take pos) = true) := hall
    clear hall
    by_cases hp : pos < s.size
    · by_cases ha : (s[pos]).toNat < 128
      · obtain ⟨x, hx⟩ : ∃ x, x = (s[pos]).toNat := ⟨_, rfl⟩
        have hnx : ∀ ty, (Instr.next (.pointer (some ⟨w.heap.size, 0, none⟩)) true ty).run Try.prog (w.iter s pos) = .ok (.tuple #[.bool true, .int .i64 pos, .int .i32 (x : Int)]) (w.iter s (pos + 1)) := fun ty => by rw [hx]; exact run_next_ascii w s pos ty hp ha
        have HX : Hid (x = (s[pos]).toNat) := hx
        rw [← hx] at ha
        clear hx
        cases hc : codeB (x : Int)
        · have hc' : ¬ ((48 ≤ (x : Int) ∧ (x : Int) ≤ 57) ∨ (65 ≤ (x : Int) ∧ (x : Int) ≤ 90) ∨ (97 ≤ (x : Int) ∧ (x : Int) ≤ 122)) := of_decide_eq_false hc
          have HN : Hid (allc s.data.toList = false) := allc_bad s pos hp (by rw [← HX.out]; exact hc)
          rcases (show (x : Int) < 48 ∨ (57 < (x : Int) ∧ (x : Int) < 65) ∨ (90 < (x : Int) ∧ (x : Int) < 97) ∨ 122 < (x : Int) by omega) with g | ⟨g, g'⟩ | ⟨g, g'⟩ | g
          all_goals
            clear hc' hc
            go_wp2
            all_goals first | (go_ret; exact ⟨by rw [HN.out]; rfl, _, rfl⟩) | (exfalso; rename_i hz; simp at hz; omega)
        · have hc' : (48 ≤ (x : Int) ∧ (x : Int) ≤ 57) ∨ (65 ≤ (x : Int) ∧ (x : Int) ≤ 90) ∨ (97 ≤ (x : Int) ∧ (x : Int) ≤ 122) := of_decide_eq_true hc
          have HS : Hid (allc (s.data.toList.take (pos + 1)) = true) := by unfold Hid; rw [allc_snoc s pos hp, HA.out, ← HX.out, hc]; rfl
          rcases hc' with ⟨g, g'⟩ | ⟨g, g'⟩ | ⟨g, g'⟩
          all_goals
            clear hc
            go_wp2
            go_roundw
            case rel => exact ⟨pos + 1, by omega, rfl, HS.out⟩
            case measure => simp; omega
      · have hd := decode_high s pos hp (by omega)
        have hl := decode_le s pos
        obtain ⟨r, hr⟩ : ∃ r, r = (Utf8.decode s pos).1 := ⟨_, rfl⟩
        obtain ⟨wd, hwd⟩ : ∃ wd, wd = (Utf8.decode s pos).2 := ⟨_, rfl⟩
        have hnx : ∀ ty, (Instr.next (.pointer (some ⟨w.heap.size, 0, none⟩)) true ty).run Try.prog (w.iter s pos) = .ok (.tuple #[.bool true, .int .i64 pos, .int .i32 (r : Int)]) (w.iter s (pos + wd)) := fun ty => by rw [hr, hwd]; exact run_next_any w s pos ty hp
        rw [← hr] at hd hl
        have HN : Hid (allc s.data.toList = false) := allc_bad s pos hp (by
          unfold codeB
          exact decide_eq_false (by omega))
        have g1 : 122 < (r : Int) := by omega
        clear hd hr hwd ha
        go_wp2
        all_goals first | (go_ret; exact ⟨by rw [HN.out]; rfl, _, rfl⟩) | (exfalso; rename_i hz; simp at hz; omega)
    · have hnx : ∀ ty, (Instr.next (.pointer (some ⟨w.heap.size, 0, none⟩)) true ty).run Try.prog (w.iter s pos) = .ok (.tuple #[.bool false]) (w.iter s pos) := fun ty => run_next_end w s pos ty hp
      go_wp2
      go_ret
      have := HA.out
      rw [allc_end s pos (by omega)] at this
      exact ⟨by rw [this]; rfl, _, rfl⟩

theorem grown_iter (w : World) (s : ByteArray) (pos : Nat) : Grown w (w.iter s pos) := by
  refine ⟨World.keptBut_alloc _ _ _, fun a => ?_, by show w.heap.size ≤ (w.heap.push _).size; simp⟩
  by_cases h : a.block = w.heap.size
  · have e1 : (w.iter s pos).heap[a.block]? = some (.stringIter s pos) := by rw [h]; exact World.iter_heap w s pos
    have e2 : w.heap[a.block]? = none := by rw [h]; simp
    simp [World.frozen?, e1, e2]
  · exact World.frozen?_alloc_old w _ _ h

/-- 'ZZIsCode' is 'isCode'. -/
theorem zzIsCode_any (s : ByteArray) (least most : Int) (w : World) :
    Calls Try.prog 8 #[.string s, .int .i64 least, .int .i64 most] w fun e w' => e = .returned (.bool (decide (least ≤ s.size ∧ (s.size : Int) ≤ most) && allc s.data.toList)) ∧ Grown w w' := by
  by_cases h : least ≤ s.size ∧ (s.size : Int) ≤ most
  · rw [decide_eq_true h, Bool.true_and]
    obtain ⟨h1, h2⟩ := h
    obtain ⟨al, hal⟩ : ∃ al, al = allc s.data.toList := ⟨_, rfl⟩
    rw [← hal]
    have HI := isCode_in s least most w h1 h2
    rw [← hal] at HI
    clear hal
    go_enter Try.func8, Try.ntmps8
    go_wp2_with fail
    refine HI.mono ?_
    rintro e w' ⟨rfl, pos, rfl⟩
    go_wp2
    go_ret
    exact ⟨rfl, grown_iter _ _ _⟩
  · rw [decide_eq_false h, Bool.false_and]
    go_enter Try.func8, Try.ntmps8
    go_wp2_with fail
    refine (isCode_out s least most w h).mono ?_
    rintro e w' ⟨rfl, rfl⟩
    go_wp2
    go_ret
    exact ⟨rfl, Grown.refl _⟩

end Go.Proofs.Qxb6600331a
