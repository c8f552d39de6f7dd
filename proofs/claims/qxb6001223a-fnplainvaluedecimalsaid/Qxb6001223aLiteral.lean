/-
  SEAT b6001223a: the walk of 'FnPlainValueLiteral'.
-/
import Derived.Test.Qxb6001223aLit
namespace Go.Proofs.Qxb6001223a
open Go.RowKit

def litOf : Nat → List Int
  | 0 => [116, 114, 117, 101]
  | 1 => [102, 97, 108, 115, 101]
  | _ => [110, 117, 108, 108]

theorem lit_of_own {w w' : World} (cs : List Int) (hb : ∀ z ∈ cs, 0 ≤ z ∧ z ≤ 255) (hl : cs.length ≤ 5) (hw : w' = w.alloc (.cells (cs.map (Value.int .u8)).toArray 5)) :
    Own w' w.heap.size cs.length cs.length cs ∧ Below w.heap.size w w' := by
  subst hw
  refine ⟨⟨?_, hb⟩, (Below.refl _ _).alloc (Nat.le_refl _) _⟩
  have := World.ownsRow_lit (base := w.heap.size) (e := 5) (size := 1) w (cs.map (Value.int .u8)).toArray cs.length (Nat.le_refl _) (by unfold maxLen; omega) (by simp)
  simpa using this

theorem zzLiteral_any (w : World) (k : Nat) (hk : k ≤ 2) :
    Calls Try.prog 22 #[.int .i64 k] w fun e w' => e = .returned (.slice (some ⟨w.heap.size, 0, none⟩) (litOf k).length (litOf k).length) ∧ Own w' w.heap.size (litOf k).length (litOf k).length (litOf k) ∧ Below w.heap.size w w' := by
  match k, hk with
  | 0, _ =>
    go_enter Try.func22, Try.ntmps22
    go_wp2
    go_ret
    exact ⟨rfl, lit_of_own (litOf 0) (by decide) (by decide) rfl⟩
  | 1, _ =>
    go_enter Try.func22, Try.ntmps22
    go_wp2
    go_ret
    exact ⟨rfl, lit_of_own (litOf 1) (by decide) (by decide) rfl⟩
  | 2, _ =>
    go_enter Try.func22, Try.ntmps22
    go_wp2
    go_ret
    exact ⟨rfl, lit_of_own (litOf 2) (by decide) (by decide) rfl⟩

theorem getD_of_drop {zs l r : List Int} {i : Nat} (h : zs.drop i = l ++ r) (j : Nat) (hj : j < l.length) : zs.getD (i + j) 0 = l.getD j 0 := by
  have : (zs.drop i)[j]? = l[j]? := by rw [h, List.getElem?_append_left hj]
  rw [List.getElem?_drop] at this
  simp [List.getD_eq_getElem?_getD, this]

theorem Row.cellAt {B b off n : Nat} {w : World} {zs : List Int} (h : Row B w (some ⟨b, off, none⟩) n zs) (j : Nat) (hj : j < n) : w.cell? ⟨b, off + j, none⟩ = some (.int .u8 (zs.getD j 0)) := by
  rcases h.cells with h0 | ⟨b', off', ha, _, hc⟩
  · omega
  · simp only [Option.some.injEq, Addr.mk.injEq, and_true] at ha
    obtain ⟨rfl, rfl⟩ := ha
    exact hc j hj

/-- A literal stands at i. -/
theorem pv_lit (w : World) {B : Nat} (b off n c i k : Nat) (hk : k ≤ 2) (zs r : List Int) (hr : Row B w (some ⟨b, off, none⟩) n zs) (hnc : n ≤ c) (hbig : c ≤ 1099511627776) (hi : i ≤ n) (h : zs.drop i = litOf k ++ r) :
    Calls Try.prog 23 #[.slice (some ⟨b, off, none⟩) n c, .int .i64 i] w fun e w' => e = .returned (.tuple #[.slice (some ⟨b, off + i, none⟩) (litOf k).length (c - i), .int .i64 ((i : Int) + ((litOf k).length : Int))]) ∧ Below w.heap.size w w' := by
  have hl : n - i = (litOf k).length + r.length := by
    have := congrArg List.length h
    simp [hr.len] at this
    exact this
  match k, hk with
  | 0, _ =>
    simp [litOf] at hl
    have hs : i + 4 ≤ n := by omega
    have hx : zs.getD i 0 = 116 := getD_of_drop h 0 (by decide)
    have hq := hr.cellAt i (by omega)
    refine pv_true w b off n c i _ (strOfNums ((zs.drop i).take 4)) hnc hbig hs hq (by omega) (fun o => conv_at w b off n c i 4 zs hr hs o) ?_
    rw [nums_list, h]
    simp [litOf]
  | 1, _ =>
    simp [litOf] at hl
    have hs : i + 5 ≤ n := by omega
    have hx : zs.getD i 0 = 102 := getD_of_drop h 0 (by decide)
    have hq := hr.cellAt i (by omega)
    refine pv_false w b off n c i _ (strOfNums ((zs.drop i).take 4)) (strOfNums ((zs.drop i).take 5)) hnc hbig hs hq (by omega) (fun o => conv_at w b off n c i 4 zs hr (by omega) o) (fun o => conv_at w b off n c i 5 zs hr hs o) ?_ ?_
    · rw [nums_list, h]
      simp [litOf]
    · rw [nums_list, h]
      simp [litOf]
  | 2, _ =>
    simp [litOf] at hl
    have hs : i + 4 ≤ n := by omega
    have hx : zs.getD i 0 = 110 := getD_of_drop h 0 (by decide)
    have hq := hr.cellAt i (by omega)
    refine pv_null w b off n c i _ (strOfNums ((zs.drop i).take 4)) (strOfNums ((zs.drop i).take 5)) hnc hbig hs hq (by omega) (fun o => conv_at w b off n c i 4 zs hr hs o) (fun h5 o => conv_at w b off n c i 5 zs hr h5 o) ?_ ?_ ?_
    · rw [nums_list, h]
      simp [litOf]
    · intro _
      rw [nums_list, h]
      simp [litOf]
    · rw [nums_list, h]
      simp [litOf]

/-- A literal but for its last byte stands at i, and nothing behind it. -/
theorem pv_litshort (w : World) {B : Nat} (b off n c i k : Nat) (hk : k ≤ 2) (zs : List Int) (hr : Row B w (some ⟨b, off, none⟩) n zs) (hnc : n ≤ c) (hbig : c ≤ 1099511627776) (hi : i ≤ n) (h : zs.drop i = (litOf k).take ((litOf k).length - 1)) :
    Calls Try.prog 23 #[.slice (some ⟨b, off, none⟩) n c, .int .i64 i] w fun e w' => e = .returned (.tuple #[.slice none 0 0, .int .i64 (-1)]) ∧ Below w.heap.size w w' := by
  have hl : n - i = ((litOf k).take ((litOf k).length - 1)).length := by
    have := congrArg List.length h
    simp [hr.len] at this
    simpa using this
  match k, hk with
  | 0, _ =>
    simp [litOf] at hl h
    have hx : zs.getD i 0 = 116 := getD_of_drop (l := [116, 114, 117]) (r := []) (by simpa using h) 0 (by decide)
    have hq := hr.cellAt i (by omega)
    exact pv_short3 w b off n c i _ (by omega) (by omega) hq (by omega)
  | 1, _ =>
    simp [litOf] at hl h
    have hx : zs.getD i 0 = 102 := getD_of_drop (l := [102, 97, 108, 115]) (r := []) (by simpa using h) 0 (by decide)
    have hq := hr.cellAt i (by omega)
    refine pv_short4 w b off n c i _ (strOfNums ((zs.drop i).take 4)) hnc hbig (by omega) hq (by omega) (fun o => conv_at w b off n c i 4 zs hr (by omega) o) ?_ ?_
    · rw [nums_list, h]
      simp
    · rw [nums_list, h]
      simp
  | 2, _ =>
    simp [litOf] at hl h
    have hx : zs.getD i 0 = 110 := getD_of_drop (l := [110, 117, 108]) (r := []) (by simpa using h) 0 (by decide)
    have hq := hr.cellAt i (by omega)
    exact pv_short3 w b off n c i _ (by omega) (by omega) hq (by omega)

theorem lit_len (k : Nat) : 4 ≤ (litOf k).length ∧ (litOf k).length ≤ 5 := by
  match k with
  | 0 => decide
  | 1 => decide
  | _ + 2 => simp [litOf]

end Go.Proofs.Qxb6001223a
