/-
  SEAT b6001223a: 'make([]byte, n)' and 'copy' into it; a part of a row; more of 'PlainString'.
-/
import Derived.Test.Qxb6001223aStr
import Derived.Laws.CopyOwn
namespace Go.Proofs.Qxb6001223a
open Go.RowKit

theorem Row.sub {B b off n : Nat} {w : World} {zs : List Int} (h : Row B w (some ⟨b, off, none⟩) n zs) (j m : Nat) (hj : j + m ≤ n) : Row B w (some ⟨b, off + j, none⟩) m ((zs.drop j).take m) := by
  have hl := h.len
  refine ⟨by simp; omega, fun z hz => h.bd z (List.mem_of_mem_drop (List.mem_of_mem_take hz)), ?_⟩
  rcases h.cells with h0 | ⟨b', off', ha, hb, hc⟩
  · exact .inl (by omega)
  · simp only [Option.some.injEq, Addr.mk.injEq, and_true] at ha
    obtain ⟨rfl, rfl⟩ := ha
    refine .inr ⟨b, off + j, rfl, hb, fun t ht => ?_⟩
    rw [Nat.add_assoc, hc (j + t) (by omega)]
    simp [List.getD_eq_getElem?_getD, ht]

theorem cells_of_make (n : Nat) : (madeCells (Value.cells (.int .u8 0)) (n * 1)).toList = (List.replicate n (0 : Int)).map (Value.int .u8) := by
  simp only [madeCells, Value.cells, Nat.mul_one]
  apply List.ext_getElem
  · simp
  · intro j h1 h2
    simp [Nat.mod_one]

/-- 'make([]byte, n)'. -/
theorem wpList_mkfull {w : World} {ops : Array Oper} {rest : List Oper} {o : Oper} {a : Act} {Q : Exit → Act → World → Prop} (hgd : o.guard = none) (l c : Operand)
    (hop : o.op = Op.makeSlice 22 l c) (L C : Int) (n : Nat) (hl : a.eval l = .int .i64 L) (hc : a.eval c = .int .i64 C) (hL : L = (n : Int)) (hC : C = (n : Int)) (hn : n ≤ 1099511627776)
    (hK : ∀ w', Own w' w.heap.size n n (List.replicate n 0) → Below w.heap.size w w' → wpList Try.prog ops Q rest (a.put o.dst (.slice (some ⟨w.heap.size, 0, none⟩) n n)) w') :
    wpList Try.prog ops Q (o :: rest) a w := by
  obtain ⟨i0, hi, hz0, hz1, hz2⟩ := info_parts Try.info5
  refine wpList_make_full w hgd l c 22 hop w.heap.size 5 i0 (.int .u8 0) 1 Try.underlying22 hi hz0 hz1 .i64 .i64 L C n hl hc hL hC (by rw [hz2]; omega) (by unfold maxLen; omega) (Nat.le_refl _) ?_
  intro w' h1 h2
  rw [cells_of_make] at h1
  exact hK w' ⟨h1, by intro z hz; have := List.eq_of_mem_replicate hz; omega⟩ ((Below.refl _ _).grown h2 (Nat.le_refl _) (fun k h => by cases h))

/-- 'copy(zzc, line)', zzc the call's own, as long as line. -/
theorem wpList_copyrow {w : World} {ops : Array Oper} {rest : List Oper} {o : Oper} {a : Act} {Q : Exit → Act → World → Prop} (hgd : o.guard = none) (d s : Operand)
    (hop : o.op = Op.call { callee := Callee.builtin Builtin.copy, args := #[d, s], argTypes := #[22, 22] }) {g n c : Nat} {ad : Option Addr} {ys zs : List Int}
    (hO : Own w g n n ys) (hr : Row g w ad n zs) (hd : a.eval d = .slice (some ⟨g, 0, none⟩) n n) (hs : a.eval s = .slice ad n c)
    (hK : ∀ w', Own w' g n n zs → Below g w w' → wpList Try.prog ops Q rest (a.put o.dst (goInt n)) w') :
    wpList Try.prog ops Q (o :: rest) a w := by
  have hzl := hr.len
  rcases hO.own.2 with ⟨h', _⟩ | ⟨g', cap', cur, h', h1, h2, h3, h4, h5, h6⟩
  · simp at h'
  · simp only [Value.slice.injEq, Option.some.injEq, Addr.mk.injEq, and_true, true_and] at h'
    obtain ⟨rfl, rfl⟩ := h'
    have hsz : (Try.prog.info? 5).map (·.size) = some 1 := by kernel_rfl
    refine wpList_copy_splice hgd d s 22 22 hop 5 Try.underlying22 hsz _ _ n n n c hd hs g 0 cur.toList 5 (by simpa using h2) (zs.map (Value.int .u8)) (by simp [hzl]) ?_ (by simp [hzl, h5]) (ints_oneCell _ _) g w (Below.refl _ _) (Nat.le_refl _) ?_
    · intro hp
      refine ⟨rfl, ?_⟩
      rcases hr.cells with h0 | ⟨b, off, rfl, hb, hc⟩
      · simp [hzl, h0] at hp
      · refine ⟨_, rfl, fun j v hv => ?_⟩
        have hj : j < n := by
          have := (List.getElem?_eq_some_iff.1 hv).1
          simpa [hzl] using this
        rw [Addr.add_lit, hc j hj]
        simpa [List.getD_eq_getElem?_getD, show j < zs.length by omega] using hv
    · intro w' hw hB
      have hw' := hw.out
      have e : splice cur.toList 0 (zs.map (Value.int .u8)) = zs.map (Value.int .u8) := by
        unfold splice
        rw [List.drop_of_length_le (by simp [hzl, h5])]
        simp
      rw [e] at hw'
      have := hK w' ⟨⟨by simp [hzl], .inr ⟨g, n, _, rfl, Nat.le_refl _, hw', Nat.le_refl _, h4, by simp [hzl], by rw [List.take_of_length_le (by simp [hzl])]⟩⟩, hr.bd⟩ hB
      simpa [hzl] using this

/-- 'PlainString' accepts. -/
theorem ps_accepts (w : World) {B : Nat} (b off n c i k o2 : Nat) (I : Int) (hI : I = (i : Int)) (zs : List Int) (hr : Row B w (some ⟨b, off, none⟩) n zs) (hnc : n ≤ c) (hbig : c ≤ 1099511627776) (h : pstr zs i = some k) (ho : o2 = off + (i + 1)) :
    Calls Try.prog 12 #[.slice (some ⟨b, off, none⟩) n c, .int .i64 I] w fun e w' => e = .returned (.tuple #[.slice (some ⟨b, o2, none⟩) k (c - (i + 1)), .int .i64 ((i : Int) + 1 + (k : Int) + 1)]) ∧ w = w' := by
  subst hI
  subst ho
  have hi : i < n := by
    unfold pstr at h
    split at h
    · rename_i h1
      have := (List.getElem?_eq_some_iff.1 h1).1
      have := hr.len
      omega
    · cases h
  rcases hr.cells with rfl | ⟨b', off', ha, hb, hc⟩
  · omega
  · simp only [Option.some.injEq, Addr.mk.injEq, and_true] at ha
    obtain ⟨rfl, rfl⟩ := ha
    refine (ps_some w b off n c i zs hr.len hr.bd hnc hbig hi hc).mono ?_
    rintro e w' ⟨rfl, rfl⟩
    exact ⟨by rw [h]; exact (str_eq b off i c k).symm, rfl⟩

/-! ### The plain law -/
theorem pscan_spec : ∀ (l : List Int) (k : Nat), pscan l = some k → l[k]? = some 34 ∧ (∀ z ∈ l.take k, plainB z = true) ∧ ∀ r, pscan (l.take (k + 1) ++ r) = some k
  | [], _, h => by cases h
  | c :: l, k, h => by
    rw [pscan] at h
    split at h
    · rename_i hc
      cases h
      subst hc
      exact ⟨rfl, by simp, fun r => by simp [pscan]⟩
    · split at h
      · rename_i hc hp
        obtain ⟨m, hm, rfl⟩ := Option.map_eq_some_iff.1 h
        obtain ⟨h1, h2, h3⟩ := pscan_spec l m hm
        refine ⟨by simpa using h1, ?_, fun r => ?_⟩
        · intro z hz
          rw [List.take_succ_cons] at hz
          rcases List.mem_cons.1 hz with rfl | hz
          · exact hp
          · exact h2 z hz
        · rw [List.take_succ_cons, List.cons_append, pscan, if_neg hc, if_pos hp, h3 r]
          rfl
      · cases h

theorem pstr_spec {zs : List Int} {i k : Nat} (h : pstr zs i = some k) :
    zs.getD i 0 = 34 ∧ i + 1 + k < zs.length ∧ zs.getD (i + 1 + k) 0 = 34 ∧ (∀ z ∈ (zs.drop (i + 1)).take k, plainB z = true) ∧ ∀ r, pstr (zs.take (i + 1 + k + 1) ++ r) i = some k := by
  unfold pstr at h
  split at h
  · rename_i h1
    obtain ⟨h2, h3, h4⟩ := pscan_spec _ _ h
    rw [List.getElem?_drop] at h2
    have hl := (List.getElem?_eq_some_iff.1 h2).1
    refine ⟨by rw [List.getD_eq_getElem?_getD, h1]; rfl, hl, by rw [List.getD_eq_getElem?_getD, h2]; rfl, h3, fun r => ?_⟩
    unfold pstr
    rw [if_pos]
    · have e : (zs.take (i + 1 + k + 1) ++ r).drop (i + 1) = (zs.drop (i + 1)).take (k + 1) ++ r := by
        rw [List.drop_append_of_le_length (by simp; omega), List.drop_take]
        congr 2
        omega
      rw [e]
      exact h4 r
    · rw [List.getElem?_append_left (by simp; omega), List.getElem?_take, if_pos (by omega), h1]
  · cases h

end Go.Proofs.Qxb6001223a
