/-
  The walk over FnCarryTokensCallsOnce itself.
-/
import Derived.Test.Qxb6615941aCarry
import Derived.Laws.CopyOwn
import Derived.Deep.OwnRows
namespace Go.Proofs.Qxb6615941a
open Go.RowKit

theorem Try.info26 : (Try.prog.info? 26).map (fun i => (i.zero, i.size, i.bytes)) = some (some (.int .u64 0), 1, 8) := by kernel_rfl
theorem Try.size26 : (Try.prog.info? 26).map (·.size) = some 1 := by kernel_rfl

def BoolPost (w : World) (e : Ending) (w' : World) : Prop := (∃ b, e = .returned (.bool b)) ∧ w = w'

theorem bytes_any (a0 : Option Addr) (n c0 : Nat) (w : World) (hn : n ≤ 9223372036854775807) : Calls Try.prog 4 #[.slice a0 n c0] w (BoolPost w) := by
  go_enter Try.func4, Try.ntmps4
  go_wp2
  all_goals
    go_ret
    exact ⟨⟨_, rfl⟩, rfl⟩

theorem zz_any (a : Option Addr) (n c cb : Nat) (w : World) (R : World → Prop) (h : Calls Try.prog 7 #[.slice a n c, .func (.func 6) #[] #[.pointer (some ⟨cb, 0, none⟩)]] w (Done R)) :
    Calls Try.prog 5 #[.slice a n c, .func (.func 6) #[] #[.pointer (some ⟨cb, 0, none⟩)]] w (Done R) := by
  have H : Hid (Calls Try.prog 7 #[.slice a n c, .func (.func 6) #[] #[.pointer (some ⟨cb, 0, none⟩)]] w (Done R)) := h
  clear h
  go_enter Try.func5, Try.ntmps5
  go_wp2_with fail
  refine H.out.mono ?_
  rintro e w' ⟨rfl, hr⟩
  go_wp2_with fail
  go_end0
  exact ⟨rfl, hr⟩

/-- The slice of tokens that came in. -/
structure Came (w : World) (a0 : Option Addr) (n c0 tb o : Nat) (T : Nat → Nat) : Prop where
  adr : 0 < n → a0 = some ⟨tb, o, none⟩
  nil : a0 = none → n = 0 ∧ c0 = 0
  cell : ∀ j, j < n → w.cell? ⟨tb, o + j, none⟩ = some (.int .u64 (T j))
  fit : ∀ j, j < n → (T j : Int) ≤ 18446744073709551615

/-- What the law answers. -/
def LawPost (w : World) (e : Ending) (w' : World) : Prop := e = .returned (.bool true) ∧ Below w.heap.size w w'

/-- The call in a world that holds the tokens in a row of its own, or none. -/
theorem call_any {w W : World} {a : Option Addr} {n c g : Nat} {T : Nat → Nat} (hb : Below w.heap.size w W) (ha : 0 < n → a = some ⟨g, 0, none⟩) (hc : ∀ j, j < n → W.cell? ⟨g, j, none⟩ = some (.int .u64 (T j)))
    (hf : ∀ j, j < n → (T j : Int) ≤ 18446744073709551615) (hnc : n ≤ c) (hcl : (c : Int) ≤ 4096) :
    Calls Try.prog 5 #[.slice a n c, .func (.func 6) #[] #[.pointer (some ⟨W.heap.size, 0, none⟩)]] (W.alloc (.cells #[.int .i64 0] 3)) (Done fun w' => Below w.heap.size w w' ∧ w'.cell? ⟨W.heap.size, 0, none⟩ = some (.int .i64 1)) := by
  refine zz_any _ _ _ _ _ _ ((tokens_any n (W.alloc (.cells #[.int .i64 0] 3)) a c g 0 W.heap.size 0 T ⟨ha, fun j hj => ?_, hf, hnc, by simp, by simp, fun h e => ?_⟩ (by omega) (by omega) hcl).mono ?_)
  · rw [Nat.zero_add, World.cell?_alloc_lt _ _ _ (World.block_lt_of_cell? _ _ (hc j hj))]
    exact hc j hj
  · have := World.block_lt_of_cell? _ _ (hc 0 h)
    simp at this
    omega
  · rintro e w' ⟨he, hC⟩
    have hbs := hb.size
    refine ⟨he, hb.trans ⟨hC.os, hC.tape, hC.output, by have := hC.size; simp at this; omega, fun k hk => ?_⟩, by simpa using hC.cell⟩
    rw [hC.oth k (by simp; omega) (by omega), Below.heap_alloc _ _ _ (by omega)]

/-- What the copy leaves: a world that holds the tokens in the new row. -/
theorem copy_any {w : World} {x : Addr} {n c0 tb o : Nat} {T : Nat → Nat} (G : Came w (some x) n c0 tb o T) :
    ∃ W, (∀ ty, (Builtin.copy_ #[22, 22] ty #[.slice (some ⟨w.heap.size, 0, none⟩) n n, .slice (some x) n c0]).run Try.prog (w.alloc (.cells (madeCells #[.int .u64 0] n) 26)) = .ok (goInt n) W) ∧ Below w.heap.size w W ∧
      ∀ j, j < n → W.cell? ⟨w.heap.size, j, none⟩ = some (.int .u64 (T j)) := by
  have hb0 : Below w.heap.size w (w.alloc (.cells (madeCells #[.int .u64 0] n) 26)) := Below.alloc (Below.refl _ _) (Nat.le_refl _) _
  by_cases h0 : n = 0
  · subst h0
    exact ⟨_, fun ty => run_copy_none _ 22 22 ty 26 _ _ 0 0 0 c0 Try.underlying22 Try.size26 rfl, hb0, by omega⟩
  · have hx := G.adr (by omega)
    injection hx with hx
    subst hx
    have hg : (w.alloc (.cells (madeCells #[.int .u64 0] n) 26)).heap[w.heap.size]? = some (.cells (madeCells #[.int .u64 0] n) 26 (0, 0)) := heap_alloc_new w _
    have hl : ((List.range n).map fun j => Value.int .u64 (T j)).length = n := by simp
    have hrun := fun ty => run_copy_row (P := Try.prog) (w.alloc (.cells (madeCells #[.int .u64 0] n) 26)) 22 22 ty 26 w.heap.size 0 n n ⟨tb, o, none⟩ n c0 (madeCells #[.int .u64 0] n) 26 ((List.range n).map fun j => Value.int .u64 (T j)) Try.underlying22 Try.size26 hg
      (by rw [hl]; exact (Nat.min_self n).symm) (fun j v hv => by
        have hj : j < n := by
          have := (List.getElem?_eq_some_iff.1 hv).1
          rwa [hl] at this
        have hc := G.cell j hj
        rw [show (⟨tb, o, none⟩ : Addr).add j = ⟨tb, o + j, none⟩ from by simp [Addr.add], World.cell?_alloc_lt _ _ _ (World.block_lt_of_cell? _ _ hc), hc]
        simp [hj] at hv
        rw [hv]) (by rw [hl, size_madeCells]; omega) (fun v hv => by
        simp at hv
        obtain ⟨j, _, rfl⟩ := hv
        rfl)
    rw [hl] at hrun
    refine ⟨_, hrun, below_setRow hb0 (Nat.le_refl _) _, fun j hj => ?_⟩
    rw [cell_setRow_same _ _ _ _ _ _ _ hg, List.take_zero, List.nil_append, List.getElem?_toArray, List.getElem?_append_left (by rw [hl]; exact hj), List.getElem?_map, List.getElem?_range hj]
    rfl

set_option maxHeartbeats 1600000 in
theorem law_any {w : World} {a0 : Option Addr} {n c0 tb o : Nat} {T : Nat → Nat} (G : Came w a0 n c0 tb o T) (hn : n ≤ 9223372036854775807) : Calls Try.prog 3 #[.slice a0 n c0] w (LawPost w) := by
  have hnn := fun (w : World) (a : Option Addr) (n c : Nat) => run_neq_slice_nil_any (P := Try.prog) w 22 26 a n c 0 0 Try.underlying22
  go_enter Try.func3, Try.ntmps3
  go_wp2_with fail
  refine (bytes_any a0 n c0 w hn).mono ?_
  rintro e w' ⟨⟨b, rfl⟩, rfl⟩
  cases b with
  | false =>
    go_wp2_with fail
    go_ret
    exact ⟨rfl, Below.refl _ _⟩
  | true =>
    by_cases h0 : (n : Int) ≤ 4096
    rotate_left
    · go_wp2_with fail
      go_ret
      exact ⟨rfl, Below.refl _ _⟩
    cases ha0 : a0 with
    | none =>
      obtain ⟨hz, hz'⟩ := G.nil ha0
      subst hz hz'
      go_wp2_with fail
      refine (call_any (w := w) (W := w) (g := 0) (T := T) (Below.refl _ _) (fun h => absurd h (by omega)) (fun j h => absurd h (by omega)) (fun j h => absurd h (by omega)) (Nat.le_refl _) (by omega)).mono ?_
      rintro e w' ⟨rfl, hb, hcell⟩
      go_wp2_with fail
      go_ret
      exact ⟨rfl, hb⟩
    | some x =>
      have hmk := run_make_row' (P := Try.prog) 22 26 (.int .u64 0) 8 Try.underlying22 Try.info26 rfl .i64 .i64 n (by omega) (by omega)
      subst ha0
      obtain ⟨W, hrun, hbW, hcW⟩ := copy_any G
      have HB : Hid (Below w.heap.size w W) := hbW
      have HC : Hid (∀ j, j < n → W.cell? ⟨w.heap.size, j, none⟩ = some (.int .u64 (T j))) := hcW
      clear hbW hcW
      go_wp2_with fail
      refine (call_any (w := w) (W := W) (g := w.heap.size) (T := T) HB.out (fun _ => rfl) HC.out G.fit (Nat.le_refl _) h0).mono ?_
      rintro e w' ⟨rfl, hb, hcell⟩
      go_wp2_with fail
      go_ret
      exact ⟨rfl, hb⟩
end Go.Proofs.Qxb6615941a
