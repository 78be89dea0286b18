/-
  The walks over the road of FnCarryTokensCallsOnce.
-/
import Derived.Test.Qxb6615941aRows
import Derived.WalkKit
import Derived.WalkSpells
import Derived.WalkLawsBesides
import Derived.Deep.LoopGhost
import Derived.Deep.RegionWith
namespace Go.Proofs.Qxb6615941a
open Go.RowKit

theorem inc_any (cb : Nat) (m : Int) (w : World) (hc : w.cell? ⟨cb, 0, none⟩ = some (.int .i64 m)) (hf : w.frozen? ⟨cb, 0, none⟩ = false) (h0 : 0 ≤ m) (h1 : m ≤ 10) :
    Calls Try.prog 6 #[.pointer (some ⟨cb, 0, none⟩)] w fun e w' => e = .returned (.tuple #[]) ∧ w' = w.setCell ⟨cb, 0, none⟩ (.int .i64 (m + 1)) := by
  go_enter Try.func6, Try.ntmps6
  go_wp2
  go_end0
  exact ⟨rfl, rfl⟩

/-- A call that comes back with no result, in a world of which R holds. -/
def Done (R : World → Prop) (e : Ending) (w' : World) : Prop := e = .returned (.tuple #[]) ∧ R w'

theorem runs_any (b0 b1 : Nat) (w : World) (R : World → Prop) (h : Calls Try.prog 9 #[.pointer (some ⟨b0, 0, none⟩), .pointer (some ⟨b1, 0, none⟩)] w (Done R)) :
    Calls Try.prog 10 #[.func (.func 9) #[] #[.pointer (some ⟨b0, 0, none⟩), .pointer (some ⟨b1, 0, none⟩)]] w (Done R) := by
  have H : Hid (Calls Try.prog 9 #[.pointer (some ⟨b0, 0, none⟩), .pointer (some ⟨b1, 0, none⟩)] w (Done R)) := h
  clear h
  go_enter Try.func10, Try.ntmps10
  go_wp2_with fail
  refine H.out.mono ?_
  rintro e w' ⟨rfl, hr⟩
  go_wp2_with fail
  go_end0
  exact ⟨rfl, hr⟩

theorem bit0_any (b0 b1 : Nat) (w : World) (R : World → Prop) (y : Int) (h : Calls Try.prog 8 #[.int .u64 y, .func (.func 9) #[] #[.pointer (some ⟨b0, 0, none⟩), .pointer (some ⟨b1, 0, none⟩)]] w (Done R)) :
    Calls Try.prog 11 #[.int .u64 y, .func (.func 9) #[] #[.pointer (some ⟨b0, 0, none⟩), .pointer (some ⟨b1, 0, none⟩)]] w (Done R) := by
  have H : Hid (Calls Try.prog 8 #[.int .u64 y, .func (.func 9) #[] #[.pointer (some ⟨b0, 0, none⟩), .pointer (some ⟨b1, 0, none⟩)]] w (Done R)) := h
  clear h
  go_enter Try.func11, Try.ntmps11
  go_wp2_with fail
  refine H.out.mono ?_
  rintro e w' ⟨rfl, hr⟩
  go_wp2_with fail
  go_end0
  exact ⟨rfl, hr⟩

theorem bit1_any (b0 b1 : Nat) (w : World) (R : World → Prop) (y : Int) (h : Calls Try.prog 8 #[.int .u64 y, .func (.func 9) #[] #[.pointer (some ⟨b0, 0, none⟩), .pointer (some ⟨b1, 0, none⟩)]] w (Done R)) :
    Calls Try.prog 12 #[.int .u64 y, .func (.func 9) #[] #[.pointer (some ⟨b0, 0, none⟩), .pointer (some ⟨b1, 0, none⟩)]] w (Done R) := by
  have H : Hid (Calls Try.prog 8 #[.int .u64 y, .func (.func 9) #[] #[.pointer (some ⟨b0, 0, none⟩), .pointer (some ⟨b1, 0, none⟩)]] w (Done R)) := h
  clear h
  go_enter Try.func12, Try.ntmps12
  go_wp2_with fail
  refine H.out.mono ?_
  rintro e w' ⟨rfl, hr⟩
  go_wp2_with fail
  go_end0
  exact ⟨rfl, hr⟩

theorem token_any (b0 b1 : Nat) (w : World) (R : World → Prop) (h : Calls Try.prog 9 #[.pointer (some ⟨b0, 0, none⟩), .pointer (some ⟨b1, 0, none⟩)] w (Done R)) (x : Nat) (hx : (x : Int) ≤ 18446744073709551615) :
    Calls Try.prog 8 #[.int .u64 x, .func (.func 9) #[] #[.pointer (some ⟨b0, 0, none⟩), .pointer (some ⟨b1, 0, none⟩)]] w (Done R) := by
  have H : Hid (Calls Try.prog 9 #[.pointer (some ⟨b0, 0, none⟩), .pointer (some ⟨b1, 0, none⟩)] w (Done R)) := h
  clear h
  induction x using Nat.strongRecOn with
  | _ x ih =>
    have IH : Hid (∀ (m : Nat), m < x → (m : Int) ≤ 18446744073709551615 → Calls Try.prog 8 #[.int .u64 m, .func (.func 9) #[] #[.pointer (some ⟨b0, 0, none⟩), .pointer (some ⟨b1, 0, none⟩)]] w (Done R)) := ih
    clear ih
    by_cases h0 : x = 0
    · subst h0
      go_enter Try.func8, Try.ntmps8
      go_wp2_with fail
      refine (runs_any b0 b1 w R H.out).mono ?_
      rintro e w' ⟨rfl, hr⟩
      go_wp2_with fail
      go_end0
      exact ⟨rfl, hr⟩
    · have hz : ((x : Int) == 0) = false := by simp; omega
      go_enter Try.func8, Try.ntmps8
      have H8 : Hid (Calls Try.prog 8 #[.int .u64 ((x : Int) / 2), .func (.func 9) #[] #[.pointer (some ⟨b0, 0, none⟩), .pointer (some ⟨b1, 0, none⟩)]] w (Done R)) := by
        have h := IH.out (x / 2) (by omega) (by omega)
        rw [show ((x / 2 : Nat) : Int) = (x : Int) / 2 by omega] at h
        exact h
      clear IH
      go_wp2_with fail
      · refine (bit0_any b0 b1 w R _ H8.out).mono ?_
        rintro e w' ⟨rfl, hr⟩
        go_wp2_with fail
        go_end0
        exact ⟨rfl, hr⟩
      · refine (bit1_any b0 b1 w R _ H8.out).mono ?_
        rintro e w' ⟨rfl, hr⟩
        go_wp2_with fail
        go_end0
        exact ⟨rfl, hr⟩

/-- Behind a call that counts once in the cell of block cb: all else that was there is as it was. -/
structure Counted (cb : Nat) (m : Int) (w w' : World) : Prop where
  os : w'.os = w.os
  tape : w'.tape = w.tape
  output : w'.output = w.output
  size : w.heap.size ≤ w'.heap.size
  oth : ∀ b, b < w.heap.size → b ≠ cb → w'.heap[b]? = w.heap[b]?
  cell : w'.cell? ⟨cb, 0, none⟩ = some (.int .i64 (m + 1))

/-- The tokens as a call meets them, and the counter's cell. -/
structure Tokens (w : World) (a : Option Addr) (n c tb o cb : Nat) (m : Int) (T : Nat → Nat) : Prop where
  adr : 0 < n → a = some ⟨tb, o, none⟩
  cell : ∀ j, j < n → w.cell? ⟨tb, o + j, none⟩ = some (.int .u64 (T j))
  fit : ∀ j, j < n → (T j : Int) ≤ 18446744073709551615
  cap : n ≤ c
  cnt : w.cell? ⟨cb, 0, none⟩ = some (.int .i64 m)
  free : w.frozen? ⟨cb, 0, none⟩ = false
  ne : 0 < n → tb ≠ cb

theorem Counted.of_drew {cb : Nat} {m : Int} {w w' : World} (h : Counted cb m w.drew w') : Counted cb m w w' := ⟨h.os, h.tape, h.output, h.size, h.oth, h.cell⟩

set_option maxHeartbeats 800000 in
theorem clos_any (b0 b1 tb o n c cb : Nat) (m : Int) (w : World) (h0 : w.cell? ⟨b0, 0, none⟩ = some (.slice (some ⟨tb, o, none⟩) (n + 1) c)) (h1 : w.cell? ⟨b1, 0, none⟩ = some (.func (.func 6) #[] #[.pointer (some ⟨cb, 0, none⟩)]))
    (hc : 1 < c) (_hn : n + 1 ≤ c)
    (ih : Calls Try.prog 7 #[.slice (some ⟨tb, o + 1, none⟩) n (c - 1), .func (.func 6) #[] #[.pointer (some ⟨cb, 0, none⟩)]] w.drew (Done (Counted cb m w.drew))) :
    Calls Try.prog 9 #[.pointer (some ⟨b0, 0, none⟩), .pointer (some ⟨b1, 0, none⟩)] w (Done (Counted cb m w)) := by
  have IH : Hid (Calls Try.prog 7 #[.slice (some ⟨tb, o + 1, none⟩) n (c - 1), .func (.func 6) #[] #[.pointer (some ⟨cb, 0, none⟩)]] w.drew (Done (Counted cb m w.drew))) := ih
  clear ih
  go_enter Try.func9, Try.ntmps9
  go_wp2_with fail
  go_region_with (go_at_call 7; refine IH.out.mono ?_; rintro e w' ⟨rfl, hr⟩)
  all_goals
    go_wp2_with fail
    go_end0
    exact ⟨rfl, Counted.of_drew (by assumption)⟩

set_option maxHeartbeats 800000 in
theorem clos_one (b0 b1 tb o cb : Nat) (m : Int) (w : World) (h0 : w.cell? ⟨b0, 0, none⟩ = some (.slice (some ⟨tb, o, none⟩) 1 1)) (h1 : w.cell? ⟨b1, 0, none⟩ = some (.func (.func 6) #[] #[.pointer (some ⟨cb, 0, none⟩)]))
    (ih : ∀ a, Calls Try.prog 7 #[.slice a 0 0, .func (.func 6) #[] #[.pointer (some ⟨cb, 0, none⟩)]] w.drew (Done (Counted cb m w.drew))) :
    Calls Try.prog 9 #[.pointer (some ⟨b0, 0, none⟩), .pointer (some ⟨b1, 0, none⟩)] w (Done (Counted cb m w)) := by
  have IH : Hid (∀ a, Calls Try.prog 7 #[.slice a 0 0, .func (.func 6) #[] #[.pointer (some ⟨cb, 0, none⟩)]] w.drew (Done (Counted cb m w.drew))) := ih
  clear ih
  go_enter Try.func9, Try.ntmps9
  go_wp2_with fail
  go_region_with (go_at_call 7; refine (IH.out _).mono ?_; rintro e w' ⟨rfl, hr⟩)
  all_goals
    go_wp2_with fail
    go_end0
    exact ⟨rfl, Counted.of_drew (by assumption)⟩

/-- A cell that was there, behind two new blocks. -/
theorem cell_two (w : World) (o1 o2 : Obj) (x : Addr) (v : Value) (h : w.cell? x = some v) : ((w.alloc o1).alloc o2).cell? x = some v := by
  have hx := World.block_lt_of_cell? _ _ h
  rw [World.cell?_alloc_lt _ _ _ (by simp; omega), World.cell?_alloc_lt _ _ _ hx]
  exact h

theorem frozen_two (w : World) (o1 o2 : Obj) (x : Addr) (hx : x.block < w.heap.size) (h : w.frozen? x = false) : ((w.alloc o1).alloc o2).frozen? x = false := by
  rw [World.frozen?_alloc_old _ _ _ (by simp; omega), World.frozen?_alloc_old _ _ _ (by omega)]
  exact h

theorem Counted.of_two {cb : Nat} {m : Int} {w w' : World} {o1 o2 : Obj} (h : Counted cb m ((w.alloc o1).alloc o2) w') : Counted cb m w w' := by
  have hs : ((w.alloc o1).alloc o2).heap.size = w.heap.size + 2 := by simp
  refine ⟨h.os, h.tape, h.output, by have := h.size; omega, fun b hb hne => ?_, h.cell⟩
  rw [h.oth b (by omega) hne, Below.heap_alloc _ _ _ (by simp; omega), Below.heap_alloc _ _ _ hb]

theorem counted_set {cb : Nat} {m : Int} {w : World} (hc : w.cell? ⟨cb, 0, none⟩ = some (.int .i64 m)) : Counted cb m w (w.setCell ⟨cb, 0, none⟩ (.int .i64 (m + 1))) :=
  ⟨rfl, rfl, rfl, by simp, fun b _ hne => Below.heap_setCell _ _ _ _ (by show b ≠ cb; exact hne), World.cell?_setCell_same w _ _ hc⟩

set_option maxHeartbeats 800000 in
theorem tokens_any (n : Nat) : ∀ (w : World) (a : Option Addr) (c tb o cb : Nat) (m : Int) (T : Nat → Nat), Tokens w a n c tb o cb m T → 0 ≤ m → m ≤ 10 → (c : Int) ≤ 4096 →
    Calls Try.prog 7 #[.slice a n c, .func (.func 6) #[] #[.pointer (some ⟨cb, 0, none⟩)]] w (Done (Counted cb m w)) := by
  induction n with
  | zero =>
    intro w a c tb o cb m T S h0 h1 hc
    have hcb : cb < w.heap.size := World.block_lt_of_cell? _ _ S.cnt
    go_enter Try.func7, Try.ntmps7
    go_wp2_with fail
    refine (inc_any cb m _ (cell_two _ _ _ _ _ S.cnt) (frozen_two _ _ _ _ hcb S.free) h0 h1).mono ?_
    rintro e w' ⟨rfl, hw⟩
    have hC : Counted cb m w w' := by
      rw [hw]
      exact (counted_set (cell_two w (.cells #[.slice a 0 c] 22) (.cells #[.func (.func 6) #[] #[.pointer (some ⟨cb, 0, none⟩)]] 1) _ _ S.cnt)).of_two
    clear hw
    go_wp2_with fail
    go_end0
    exact ⟨rfl, hC⟩
  | succ n ih =>
    intro w a c tb o cb m T S h0 h1 hc
    have IH : Hid (∀ (w : World) (a : Option Addr) (c tb o cb : Nat) (m : Int) (T : Nat → Nat), Tokens w a n c tb o cb m T → 0 ≤ m → m ≤ 10 → (c : Int) ≤ 4096 →
      Calls Try.prog 7 #[.slice a n c, .func (.func 6) #[] #[.pointer (some ⟨cb, 0, none⟩)]] w (Done (Counted cb m w))) := ih
    clear ih
    have hcb : cb < w.heap.size := World.block_lt_of_cell? _ _ S.cnt
    have ha := S.adr (by omega)
    subst ha
    have hz : ((n : Int) + 1 == 0) = false := by simp; omega
    have g0 : w.cell? ⟨tb, o, none⟩ = some (.int .u64 (T 0)) := by simpa using S.cell 0 (by omega)
    have htb : tb < w.heap.size := World.block_lt_of_cell? _ _ g0
    have hfit := S.fit 0 (by omega)
    have hcap := S.cap
    have Q9 : Calls Try.prog 9 #[.pointer (some ⟨w.heap.size, 0, none⟩), .pointer (some ⟨w.heap.size + 1, 0, none⟩)]
        ((w.alloc (.cells #[.slice (some ⟨tb, o, none⟩) (n + 1) c] 22)).alloc (.cells #[.func (.func 6) #[] #[.pointer (some ⟨cb, 0, none⟩)]] 1)) (Done (Counted cb m ((w.alloc (.cells #[.slice (some ⟨tb, o, none⟩) (n + 1) c] 22)).alloc (.cells #[.func (.func 6) #[] #[.pointer (some ⟨cb, 0, none⟩)]] 1)))) := by
      have k0 : ((w.alloc (.cells #[.slice (some ⟨tb, o, none⟩) (n + 1) c] 22)).alloc (.cells #[.func (.func 6) #[] #[.pointer (some ⟨cb, 0, none⟩)]] 1)).cell? ⟨w.heap.size, 0, none⟩ = some (.slice (some ⟨tb, o, none⟩) (n + 1) c) := by simp
      have k1 : ((w.alloc (.cells #[.slice (some ⟨tb, o, none⟩) (n + 1) c] 22)).alloc (.cells #[.func (.func 6) #[] #[.pointer (some ⟨cb, 0, none⟩)]] 1)).cell? ⟨w.heap.size + 1, 0, none⟩ = some (.func (.func 6) #[] #[.pointer (some ⟨cb, 0, none⟩)]) := by
        have h := World.cell?_alloc_mark (w.alloc (.cells #[.slice (some ⟨tb, o, none⟩) (n + 1) c] 22)) #[.func (.func 6) #[] #[.pointer (some ⟨cb, 0, none⟩)]] 1 (0, 0) 0
        rw [show (w.alloc (.cells #[.slice (some ⟨tb, o, none⟩) (n + 1) c] 22)).heap.size = w.heap.size + 1 from by simp] at h
        exact h
      have k2 : ∀ j, j < n → ((w.alloc (.cells #[.slice (some ⟨tb, o, none⟩) (n + 1) c] 22)).alloc (.cells #[.func (.func 6) #[] #[.pointer (some ⟨cb, 0, none⟩)]] 1)).cell? ⟨tb, o + 1 + j, none⟩ = some (.int .u64 (T (j + 1))) := fun j hj => cell_two _ _ _ _ _ (by rw [show o + 1 + j = o + (j + 1) by omega]; exact S.cell (j + 1) (by omega))
      have k3 := cell_two w (.cells #[.slice (some ⟨tb, o, none⟩) (n + 1) c] 22) (.cells #[.func (.func 6) #[] #[.pointer (some ⟨cb, 0, none⟩)]] 1) _ _ S.cnt
      have k4 := frozen_two w (.cells #[.slice (some ⟨tb, o, none⟩) (n + 1) c] 22) (.cells #[.func (.func 6) #[] #[.pointer (some ⟨cb, 0, none⟩)]] 1) _ hcb S.free
      generalize ((w.alloc (.cells #[.slice (some ⟨tb, o, none⟩) (n + 1) c] 22)).alloc (.cells #[.func (.func 6) #[] #[.pointer (some ⟨cb, 0, none⟩)]] 1)) = W at k0 k1 k2 k3 k4 ⊢
      by_cases hc1 : 1 < c
      · exact clos_any _ _ tb o n c cb m W k0 k1 hc1 hcap (IH.out W.drew _ (c - 1) tb (o + 1) cb m (fun j => T (j + 1)) ⟨fun _ => rfl, k2, fun j hj => S.fit (j + 1) (by omega), by omega, k3, k4, fun _ => S.ne (by omega)⟩ h0 h1 (by omega))
      · have e0 : n = 0 := by omega
        have e1 : c = 1 := by omega
        subst e0 e1
        exact clos_one _ _ tb o cb m W k0 k1 (fun a => IH.out W.drew a 0 tb o cb m T ⟨fun h => absurd h (Nat.lt_irrefl _), fun j hj => absurd hj (Nat.not_lt_zero _), fun j hj => absurd hj (Nat.not_lt_zero _), Nat.le_refl _, k3, k4, fun h => absurd h (Nat.lt_irrefl _)⟩ h0 h1 (by omega))
    have H9 : Hid (Calls Try.prog 9 #[.pointer (some ⟨w.heap.size, 0, none⟩), .pointer (some ⟨w.heap.size + 1, 0, none⟩)]
        ((w.alloc (.cells #[.slice (some ⟨tb, o, none⟩) (n + 1) c] 22)).alloc (.cells #[.func (.func 6) #[] #[.pointer (some ⟨cb, 0, none⟩)]] 1)) (Done (Counted cb m ((w.alloc (.cells #[.slice (some ⟨tb, o, none⟩) (n + 1) c] 22)).alloc (.cells #[.func (.func 6) #[] #[.pointer (some ⟨cb, 0, none⟩)]] 1))))) := Q9
    clear Q9 IH
    go_enter Try.func7, Try.ntmps7
    go_wp2_with fail
    refine (token_any _ _ _ _ H9.out (T 0) hfit).mono ?_
    rintro e w' ⟨rfl, hr⟩
    have hC := hr.of_two
    clear hr
    go_wp2_with fail
    go_end0
    exact ⟨rfl, hC⟩
end Go.Proofs.Qxb6615941a
