/-
  SEAT b6001223a: what all five laws share, without a walk: rows of bytes that are read ('Row'), a row of bytes that the call made itself ('Own'), and how both go from world to world.
-/
import Derived.Test.Qxb6001223aRows
import Derived.WalkKit
import Derived.ProofKit
import Derived.OpenShut
namespace Go.Proofs.Qxb6001223a
open Go.RowKit

theorem Try.info5 : (Try.prog.info? 5).map (fun i => (i.zero, i.size, i.bytes)) = some (some (.int .u8 0), 1, 1) := by kernel_rfl

/-- The slice's first 'n' cells read the bytes 'zs', in a block below 'B'. -/
structure Row (B : Nat) (w : World) (a : Option Addr) (n : Nat) (zs : List Int) : Prop where
  len : zs.length = n
  bd : ∀ z ∈ zs, 0 ≤ z ∧ z ≤ 255
  cells : n = 0 ∨ ∃ b off, a = some ⟨b, off, none⟩ ∧ b < B ∧ ∀ j, j < n → w.cell? ⟨b, off + j, none⟩ = some (.int .u8 (zs.getD j 0))

theorem Row.below {B B' : Nat} {w w' : World} {a : Option Addr} {n : Nat} {zs : List Int} (h : Row B w a n zs) (hb : Below B' w w') (hB : B ≤ B') : Row B w' a n zs := by
  refine ⟨h.len, h.bd, ?_⟩
  rcases h.cells with h0 | ⟨b, off, ha, hlt, hc⟩
  · exact .inl h0
  · exact .inr ⟨b, off, ha, hlt, fun j hj => (hb.cell (p := ⟨b, off + j, none⟩) (by show b < B'; omega)).trans (hc j hj)⟩

theorem Row.mono {B B' : Nat} {w : World} {a : Option Addr} {n : Nat} {zs : List Int} (h : Row B w a n zs) (hB : B ≤ B') : Row B' w a n zs := by
  refine ⟨h.len, h.bd, ?_⟩
  rcases h.cells with h0 | ⟨b, off, ha, hlt, hc⟩
  · exact .inl h0
  · exact .inr ⟨b, off, ha, by omega, hc⟩

theorem Row.getD {B : Nat} {w : World} {a : Option Addr} {n : Nat} {zs : List Int} (h : Row B w a n zs) (j : Nat) : 0 ≤ zs.getD j 0 ∧ zs.getD j 0 ≤ 255 := by
  rw [List.getD_eq_getElem?_getD]
  by_cases hj : j < zs.length
  · rw [List.getElem?_eq_getElem hj]; exact h.bd _ (List.getElem_mem hj)
  · rw [List.getElem?_eq_none (by omega)]; simp

/-- A row that came in by an argument. -/
theorem Row.of_isRow {w : World} {a : Option Addr} {len cap : Nat} {zs : List Int}
    (h : (a = none ∧ len = 0 ∧ cap = 0 ∧ zs = []) ∨
      ∃ x, a = some x ∧ len ≤ cap ∧ cap ≤ maxLen ∧ zs.length = cap ∧ (∀ i, i < zs.length → w.cell? (x.add i) = some (.int .u8 (zs.getD i 0))) ∧ ∀ n ∈ zs, (Lit.int .u8 n).wf = true) :
    Row w.heap.size w a len (zs.take len) ∧ len ≤ cap ∧ cap ≤ maxLen ∧ (a = none → len = 0 ∧ cap = 0) := by
  rcases h with ⟨rfl, rfl, rfl, rfl⟩ | ⟨⟨b, off, spot⟩, rfl, h1, h2, h3, h4, h5⟩
  · exact ⟨⟨rfl, by simp, .inl rfl⟩, Nat.le_refl _, by unfold maxLen; omega, fun _ => ⟨rfl, rfl⟩⟩
  · refine ⟨⟨by simp; omega, ?_, ?_⟩, h1, h2, fun h => by cases h⟩
    · intro z hz
      have := h5 z (List.mem_of_mem_take hz)
      exact bounds_u8 this
    · by_cases h0 : len = 0
      · exact .inl h0
      · right
        have hs : spot = none := by simpa [Addr.add] using World.cell?_spot (h4 0 (by omega))
        subst hs
        have hc : ∀ j, j < zs.length → w.cell? ⟨b, off + j, none⟩ = some (.int .u8 (zs.getD j 0)) := fun j hj => by have := h4 j hj; rwa [Addr.add_lit] at this
        have hb : b < w.heap.size := World.block_lt_of_cell? w ⟨b, off + 0, none⟩ (hc 0 (by omega))
        refine ⟨b, off, rfl, hb, fun j hj => ?_⟩
        rw [hc j (by omega)]
        simp [List.getD_eq_getElem?_getD, hj]

/-- The slice of length 'n' at the head of the call's own block 'g' holds the bytes 'xs'. -/
structure Own (w : World) (g n cap : Nat) (xs : List Int) : Prop where
  own : w.ownsRow g 5 1 (.slice (some ⟨g, 0, none⟩) n cap) n (xs.map (Value.int .u8))
  bd : ∀ z ∈ xs, 0 ≤ z ∧ z ≤ 255

theorem Own.len {w : World} {g n cap : Nat} {xs : List Int} (h : Own w g n cap xs) : xs.length = n := by simpa using h.own.1
theorem Own.lt {w : World} {g n cap : Nat} {xs : List Int} (h : Own w g n cap xs) : g < w.heap.size := (h.own.lt g rfl).2
theorem Own.le {w : World} {g n cap : Nat} {xs : List Int} (h : Own w g n cap xs) : n ≤ cap := by
  rcases h.own.2 with ⟨h', _⟩ | ⟨g', cap', cur, h', _, _, hn, _⟩
  · simp at h'
  · simp at h'; omega
theorem Own.below {w w' : World} {B g n cap : Nat} {xs : List Int} (h : Own w g n cap xs) (hb : Below B w w') (hB : g < B) : Own w' g n cap xs := by
  refine ⟨⟨h.own.1, ?_⟩, h.bd⟩
  rcases h.own.2 with h' | ⟨g', cap', cur, h', h1, h2, r⟩
  · exact .inl h'
  · simp only [Value.slice.injEq, Option.some.injEq, Addr.mk.injEq, and_true, true_and] at h'
    obtain ⟨rfl, rfl⟩ := h'
    exact .inr ⟨g, cap, cur, rfl, h1, (hb.block g hB).trans h2, r⟩
theorem Own.row {w : World} {g n cap : Nat} {xs : List Int} (h : Own w g n cap xs) : Row (g + 1) w (some ⟨g, 0, none⟩) n xs := by
  refine ⟨h.len, h.bd, .inr ⟨g, 0, rfl, by omega, fun j hj => ?_⟩⟩
  have hl := h.len
  rw [Nat.zero_add, h.own.cellAt j (by omega)]
  simp [List.getD_eq_getElem?_getD, show j < xs.length by omega]

theorem grownBy_trans {a b c : World} {row : Option Nat} (h : a.grownBy b row) (k : b.grownBy c row) : a.grownBy c row :=
  ⟨k.os.trans h.os, k.tape.trans h.tape, k.output.trans h.output, Nat.le_trans h.size k.size, fun i hi hn => (k.block i (Nat.lt_of_lt_of_le hi h.size) hn).trans (h.block i hi hn)⟩

end Go.Proofs.Qxb6001223a
