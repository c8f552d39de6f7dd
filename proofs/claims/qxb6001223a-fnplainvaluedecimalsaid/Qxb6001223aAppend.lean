/-
  SEAT b6001223a: 'zzPlainByte' and 'zzAppend' by their contracts.
-/
import Derived.Test.Qxb6001223aBase
namespace Go.Proofs.Qxb6001223a
open Go.RowKit

/-- A byte that may stand inside a plain string. -/
def plainB (c : Int) : Bool := decide (32 ≤ c ∧ c ≤ 126 ∧ c ≠ 92 ∧ c ≠ 34)

theorem plainByte_any (c : Int) (w : World) (h0 : 0 ≤ c) (h1 : c ≤ 255) :
    Calls Try.prog 10 #[.int .u8 c] w fun e w' => e = .returned (.bool (plainB c)) ∧ w = w' := by
  by_cases a1 : 32 ≤ c
  · by_cases a2 : c ≤ 126
    · by_cases a3 : c = 92
      · subst a3
        go_enter Try.func10, Try.ntmps10
        go_wp2
        go_ret
        exact ⟨rfl, rfl⟩
      · by_cases a4 : c = 34
        · subst a4
          go_enter Try.func10, Try.ntmps10
          go_wp2
          go_ret
          exact ⟨rfl, rfl⟩
        · have e : plainB c = true := by simp [plainB]; omega
          have b3 : (c != 92) = true := by simpa using a3
          have b4 : (c != 34) = true := by simpa using a4
          rw [e]
          go_enter Try.func10, Try.ntmps10
          go_wp2
          go_ret
          exact ⟨rfl, rfl⟩
    · have e : plainB c = false := by simp [plainB]; omega
      rw [e]
      go_enter Try.func10, Try.ntmps10
      go_wp2
      go_ret
      exact ⟨rfl, rfl⟩
  · have e : plainB c = false := by simp [plainB]; omega
    rw [e]
    go_enter Try.func10, Try.ntmps10
    go_wp2
    go_ret
    exact ⟨rfl, rfl⟩

theorem take_snoc (zs : List Int) (k : Nat) (hk : k < zs.length) : zs.take (k + 1) = zs.take k ++ [zs.getD k 0] := by
  rw [List.take_add_one, List.getElem?_eq_getElem hk]; simp [List.getD_eq_getElem?_getD, hk]

/-- One byte more behind what is owned: what the append's law leaves. -/
theorem Own.push {w w' : World} {g n cap : Nat} {xs : List Int} {c : Int} {o : Obj} (h : Own w g n cap xs) (h0 : 0 ≤ c ∧ c ≤ 255)
    (hown : w'.ownsRow g 5 1 (.slice (some ⟨g, 0, none⟩) (n + 1) cap) (n + 1) (xs.map (Value.int .u8) ++ [.int .u8 c])) (hg : (w.alloc o).grownBy w' (some g)) :
    Own w' g (n + 1) cap (xs ++ [c]) ∧ Below g w w' := by
  refine ⟨⟨by simpa using hown, ?_⟩, ?_⟩
  · intro z hz
    rcases List.mem_append.1 hz with hz | hz
    · exact h.bd z hz
    · simp at hz; subst hz; exact h0
  · have := h.lt
    exact ((Below.refl g w).alloc (by omega) o).grown hg (by simp; omega) (fun k hk => by cases hk; exact Nat.le_refl _)

theorem zzAppend_none (w : World) (g n cap : Nat) (a : Option Addr) (c : Nat) :
    Calls Try.prog 11 #[.slice (some ⟨g, 0, none⟩) n cap, .slice a 0 c] w fun e w' => e = .returned (.slice (some ⟨g, 0, none⟩) n cap) ∧ w = w' := by
  go_enter Try.func11, Try.ntmps11
  go_wp2
  refine wp_loop_rounds 1 ?_
  rw [rounds_succ]
  go_wp2
  go_ret
  exact ⟨rfl, rfl⟩

set_option maxHeartbeats 400000 in
theorem zzAppend_some (w : World) (g n cap : Nat) (xs : List Int) (b off m c : Nat) (zs : List Int) (hz : zs.length = m) (hbd : ∀ z ∈ zs, 0 ≤ z ∧ z ≤ 255) (hbg : b < g)
    (hc : ∀ j, j < m → w.cell? ⟨b, off + j, none⟩ = some (.int .u8 (zs.getD j 0))) (hown : Own w g n cap xs) (hcap : n + m ≤ cap) (hbig : cap ≤ 1099511627776) :
    Calls Try.prog 11 #[.slice (some ⟨g, 0, none⟩) n cap, .slice (some ⟨b, off, none⟩) m c] w fun e w' =>
      e = .returned (.slice (some ⟨g, 0, none⟩) (n + m) cap) ∧ Own w' g (n + m) cap (xs ++ zs) ∧ Below g w w' := by
  obtain ⟨i0, hi, hz0, hz1, hz2⟩ := info_parts Try.info5
  go_enter Try.func11, Try.ntmps11
  go_wp2
  go_loopw [0, 5] (fun v i wr => ∃ k : Nat, k ≤ m ∧ i = .int .i64 k ∧ v = .slice (some ⟨g, 0, none⟩) (n + k) cap ∧ Own wr g (n + k) cap (xs ++ zs.take k) ∧ Below g w wr)
    (fun _ i _ => m - (intOf i).toNat)
  case atStart => exact ⟨0, Nat.zero_le _, rfl, rfl, by simpa using hown, Below.refl _ _⟩
  case round =>
    obtain ⟨k, hk, rfl, rfl, hO, hB⟩ := hrel
    by_cases hlt : k < m
    · obtain ⟨cb, hcb⟩ : ∃ cb, cb = zs.getD k 0 := ⟨_, rfl⟩
      have hcx : wr.cell? ⟨b, off + k, none⟩ = some (.int .u8 cb) := by rw [hcb]; exact (hB.cell (by exact hbg)).trans (hc k hlt)
      have HP : Hid (∀ w' : World, ∀ o : Obj, w'.ownsRow g 5 1 (.slice (some ⟨g, 0, none⟩) (n + k + 1) cap) (n + k + 1) ((xs ++ zs.take k).map (Value.int .u8) ++ [.int .u8 cb]) → (wr.alloc o).grownBy w' (some g) → Own w' g (n + (k + 1)) cap (xs ++ zs.take (k + 1)) ∧ Below g w w') := by
        intro w' o h1 h2
        have hp := Own.push hO (by have := hbd (zs.getD k 0) (by rw [List.getD_eq_getElem?_getD, List.getElem?_eq_getElem (by omega)]; exact List.getElem_mem _); rw [hcb]; exact this) h1 h2
        rw [take_snoc zs k (by omega), ← List.append_assoc, ← hcb]
        exact ⟨hp.1, hB.trans hp.2⟩
      clear hcb
      have hO' := hO.own
      go_wp2_with (at_builtin; refine wpList_append_fits _ rfl (.tmp 12) (.tmp 17) 22 rfl g 5 i0 1 Try.underlying22 hi hz1 g (n + k) cap _ rfl (hO'.alloc _) ⟨wr.heap.size, 0, none⟩ 1 1 [.int .u8 cb] rfl rfl (by intro t u ht; match t, ht with | 0, ht => simp at ht; subst ht; simp [Addr.add]) (by intro u hu; simp at hu; subst hu; rfl) (by omega) ?_; intro w1 hown1 hgrow1)
      have hp := HP.out _ _ hown1 hgrow1
      go_roundw
      case rel => exact ⟨k + 1, by omega, by go_num, rfl, hp.1, hp.2⟩
      case measure => simp [intOf]; omega
    · have hkm : k = m := by omega
      subst hkm
      go_wp2
      go_ret
      refine ⟨rfl, ?_, hB⟩
      rw [List.take_of_length_le (by omega)] at hO
      exact hO

/-- 'zzAppend(dst, src)', dst the call's own with room enough, src a row of bytes in an elder block. -/
theorem zzAppend_any (w : World) (g n cap : Nat) (xs : List Int) (a : Option Addr) (m c : Nat) (zs : List Int) (hr : Row g w a m zs) (hown : Own w g n cap xs) (hcap : n + m ≤ cap) (hbig : cap ≤ 1099511627776) :
    Calls Try.prog 11 #[.slice (some ⟨g, 0, none⟩) n cap, .slice a m c] w fun e w' =>
      e = .returned (.slice (some ⟨g, 0, none⟩) (n + m) cap) ∧ Own w' g (n + m) cap (xs ++ zs) ∧ Below g w w' := by
  rcases hr.cells with rfl | ⟨b, off, rfl, hb, hc⟩
  · refine (zzAppend_none w g n cap a c).mono ?_
    rintro e w' ⟨rfl, rfl⟩
    have : zs = [] := List.eq_nil_of_length_eq_zero hr.len
    subst this
    exact ⟨rfl, by simpa using hown, Below.refl _ _⟩
  · exact zzAppend_some w g n cap xs b off m c zs hr.len hr.bd hb hc hown hcap hbig

/-- 'append(dst, c)', dst the call's own with room: at the walk's own operation. -/
theorem wpList_push {w : World} {ops : Array Oper} {rest : List Oper} {o : Oper} {a : Act} {Q : Exit → Act → World → Prop} (hgd : o.guard = none) (s x : Operand)
    (hop : o.op = Op.call { callee := Callee.builtin Builtin.append, args := #[s, x], argTypes := #[22, 22] }) {g n cap : Nat} {xs : List Int} {c : Int}
    (hO : Own w g n cap xs) (hs : a.eval s = .slice (some ⟨g, 0, none⟩) n cap) (hx : a.eval x = .slice (some ⟨w.heap.size, 0, none⟩) 1 1) (hc : 0 ≤ c ∧ c ≤ 255) (hcap : n + 1 ≤ cap)
    (hK : ∀ w', Own w' g (n + 1) cap (xs ++ [c]) → Below g w w' → wpList Try.prog ops Q rest (a.put o.dst (.slice (some ⟨g, 0, none⟩) (n + 1) cap)) w') :
    wpList Try.prog ops Q (o :: rest) a (w.alloc (.cells #[.int .u8 c] 5)) := by
  obtain ⟨i0, hi, hz0, hz1, hz2⟩ := info_parts Try.info5
  refine wpList_append_fits _ hgd s x 22 hop g 5 i0 1 Try.underlying22 hi hz1 g n cap _ hs (hO.own.alloc _) ⟨w.heap.size, 0, none⟩ 1 1 [.int .u8 c] hx rfl ?_ ?_ hcap ?_
  · intro t u ht
    match t, ht with
    | 0, ht => simp at ht; subst ht; simp [Addr.add]
  · intro u hu; simp at hu; subst hu; rfl
  · intro w' h1 h2
    have hp := Own.push hO hc h1 h2
    exact hK w' hp.1 hp.2

/-- 'make([]byte, 0, n)'. -/
theorem wpList_mk {w : World} {ops : Array Oper} {rest : List Oper} {o : Oper} {a : Act} {Q : Exit → Act → World → Prop} (hgd : o.guard = none) (l c : Operand)
    (hop : o.op = Op.makeSlice 22 l c) (C : Int) (n : Nat) (hl : a.eval l = .int .i64 0) (hc : a.eval c = .int .i64 C) (hC : C = (n : Int)) (hn : n ≤ 1099511627776)
    (hK : ∀ w', Own w' w.heap.size 0 n [] → Below w.heap.size w w' → wpList Try.prog ops Q rest (a.put o.dst (.slice (some ⟨w.heap.size, 0, none⟩) 0 n)) w') :
    wpList Try.prog ops Q (o :: rest) a w := by
  obtain ⟨i0, hi, hz0, hz1, hz2⟩ := info_parts Try.info5
  refine wpList_make_own w hgd l c 22 hop w.heap.size 5 i0 (.int .u8 0) 1 Try.underlying22 hi hz0 hz1 .i64 .i64 C n hl hc hC (by rw [hz2]; omega) (by unfold maxLen; omega) (Nat.le_refl _) ?_
  intro w' h1 h2
  exact hK w' ⟨by simpa using h1, by simp⟩ ((Below.refl _ _).grown h2 (Nat.le_refl _) (fun k h => by cases h))

end Go.Proofs.Qxb6001223a
