/-
  SEAT b6600374a: the walk of 'FnIsIndexMatchesAutomaton'.
-/
import Derived.Test.Qxb6600374aAutomaton
namespace Go.Proofs.Qxb6600374a
open Go.RowKit

theorem bytes22_yes (w : World) (s : ByteArray) (h : s.size ≤ 1048576) :
    Calls Try.prog 22 #[.string s] w fun e w' => e = .returned (.bool true) ∧ w = w' := by
  go_enter Try.func22, Try.ntmps22
  go_wp2
  go_ret
  exact ⟨rfl, rfl⟩
theorem bytes22_no (w : World) (s : ByteArray) (h : ¬ s.size ≤ 1048576) :
    Calls Try.prog 22 #[.string s] w fun e w' => e = .returned (.bool false) ∧ w = w' := by
  go_enter Try.func22, Try.ntmps22
  go_wp2
  all_goals
    go_ret
    exact ⟨rfl, rfl⟩

theorem matches_any (w : World) (s : ByteArray) :
    Calls Try.prog 7 #[.string s] w fun e w' => e = .returned (.bool true) ∧ Below w.heap.size w w' := by
  by_cases h : s.size ≤ 1048576
  · have H1 := zzIsIndex_any s w h
    have H2 := fun wx => automaton_any s wx h
    obtain ⟨q, hq⟩ : ∃ q, q = idx s.data.toList := ⟨_, rfl⟩
    rw [← hq] at H1 H2
    clear hq
    go_enter Try.func7, Try.ntmps7
    go_wp2_with (go_at_call 22; refine (bytes22_yes _ _ h).mono ?_; rintro e w' ⟨rfl, rfl⟩)
    refine H1.mono ?_
    rintro e w1 ⟨rfl, B1⟩
    go_wp2_with fail
    refine (H2 w1).mono ?_
    rintro e w' ⟨rfl, rfl⟩
    clear H1 H2
    go_wp2
    go_ret
    exact ⟨rfl, B1⟩
  · go_enter Try.func7, Try.ntmps7
    go_wp2_with (go_at_call 22; refine (bytes22_no _ _ h).mono ?_; rintro e w' ⟨rfl, rfl⟩)
    go_ret
    exact ⟨rfl, Below.refl _ _⟩

end Go.Proofs.Qxb6600374a
