/-
  The walks over the road of the two Owners laws: the recipes and the steps that a law builds.
-/
import Derived.Test.Qxb6615841aGreatRows
import Derived.WalkKit
import Derived.WalkSpells
import Derived.WalkLawsBesides
import Derived.Deep.LoopGhost
import Derived.Deep.OwnRows
import Derived.Deep.QuietTactic
import Derived.BigQuiet
namespace Go.Proofs.Qxb6615841aGreat
open Go.RowKit Go.Deep

theorem Tryz.info34 : (Tryz.prog.info? 34).map (fun i => (i.zero, i.size, i.bytes)) = some (some (.pointer none), 1, 8) := by kernel_rfl
theorem Tryz.info46 : (Tryz.prog.info? 46).map (fun i => (i.zero, i.size, i.bytes)) = some (some (.agg #[.pointer none, .slice none 0 0]), 2, 32) := by kernel_rfl
theorem Tryz.info43 : (Tryz.prog.info? 43).map (fun i => (i.size, i.bytes)) = some (14, 136) := by kernel_rfl

/-- The slice of cleanups that came in. -/
structure Came (w : World) (a0 : Option Addr) (n cb co : Nat) (C : Nat → Int) : Prop where
  adr : 0 < n → a0 = some ⟨cb, co, none⟩
  cell : ∀ j, j < n → w.cell? ⟨cb, co + j, none⟩ = some (.int .i64 (C j))

/-- k recipes lie behind the row of pointers in block N. -/
structure Recs (w w' : World) (n k : Nat) (C : Nat → Int) : Prop where
  bel : Below w.heap.size w w'
  size : w'.heap.size = w.heap.size + 1 + k
  row : w'.rowIs w.heap.size 34 n (fun i => if i < k then .pointer (some ⟨w.heap.size + 1 + i, 0, none⟩) else .pointer none)
  num : ∀ i, i < k → w'.cell? ⟨w.heap.size + 1 + i, 0, none⟩ = some (.int .i64 ((i : Int) + 1))
  cln : ∀ i, i < k → w'.cell? ⟨w.heap.size + 1 + i, 12, none⟩ = some (.int .i64 (C i))

theorem recs_start (w : World) (n : Nat) (C : Nat → Int) : Recs w (w.alloc (.cells (madeCells #[.pointer none] n) 34)) n 0 C :=
  ⟨(Below.refl _ _).alloc (Nat.le_refl _) _, by simp, (World.rowIs_made w _ n 34).congr (fun j _ => by simp), by omega, by omega⟩

theorem recs_step {w wr : World} {n k : Nat} {C : Nat → Int} (h : Recs w wr n k C) (cs : Array Value) (h0 : cs[0]? = some (.int .i64 ((k : Int) + 1))) (h12 : cs[12]? = some (.int .i64 (C k))) :
    Recs w ((wr.setCell ⟨w.heap.size, k, none⟩ (.pointer (some ⟨wr.heap.size, 0, none⟩))).alloc (.cells cs 43)) n (k + 1) C := by
  have hsz : (wr.setCell ⟨w.heap.size, k, none⟩ (.pointer (some ⟨wr.heap.size, 0, none⟩))).heap.size = w.heap.size + 1 + k := by simp [h.size]
  have hnew : ∀ j, ((wr.setCell ⟨w.heap.size, k, none⟩ (.pointer (some ⟨wr.heap.size, 0, none⟩))).alloc (.cells cs 43)).cell? ⟨w.heap.size + 1 + k, j, none⟩ = cs[j]? := fun j => by
    have := World.cell?_alloc_mark (wr.setCell ⟨w.heap.size, k, none⟩ (.pointer (some ⟨wr.heap.size, 0, none⟩))) cs 43 (0, 0) j
    rwa [hsz] at this
  have hold : ∀ i j, i < k → ((wr.setCell ⟨w.heap.size, k, none⟩ (.pointer (some ⟨wr.heap.size, 0, none⟩))).alloc (.cells cs 43)).cell? ⟨w.heap.size + 1 + i, j, none⟩ = wr.cell? ⟨w.heap.size + 1 + i, j, none⟩ := fun i j hi => by
    rw [World.cell?_alloc_lt _ _ _ (by rw [hsz]; show w.heap.size + 1 + i < _; omega)]
    exact World.cell?_setCell_other _ _ _ _ (fun e => by have := congrArg Addr.block e; simp at this; omega)
  refine ⟨(h.bel.setCell (Nat.le_refl _) _).alloc (by rw [hsz]; omega) _, by simp [h.size]; omega, ((h.row.set k _).alloc _).congr (fun i _ => ?_), fun i hi => ?_, fun i hi => ?_⟩
  · by_cases e : i = k
    · subst e; simp [h.size]
    · rw [if_neg e]
      by_cases hlt : i < k
      · rw [if_pos hlt, if_pos (by omega)]
      · rw [if_neg hlt, if_neg (by omega)]
  · by_cases e : i = k
    · subst e; rw [hnew, h0]
    · rw [hold i 0 (by omega)]; exact h.num i (by omega)
  · by_cases e : i = k
    · subst e; rw [hnew, h12]
    · rw [hold i 12 (by omega)]; exact h.cln i (by omega)

set_option maxHeartbeats 800000 in
theorem recipes_any {w : World} {a0 : Option Addr} {n c0 cb co : Nat} {C : Nat → Int} (G : Came w a0 n cb co C) (hn : n ≤ 65536) :
    Calls Tryz.prog 6 #[.slice a0 n c0] w fun e w' => e = .returned (.slice (some ⟨w.heap.size, 0, none⟩) n n) ∧ Recs w w' n n C := by
  have hmk := run_make_row' (P := Tryz.prog) 24 34 (.pointer none) 8 Tryz.underlying24 Tryz.info34 rfl .i64 .i64 n (by omega) (by omega)
  go_enter Tryz.func6, Tryz.ntmps6
  go_wp2
  clear hmk
  go_loopg [4] n (fun g i wr => ∃ k : Nat, k ≤ n ∧ g = n - k ∧ i = .int .i64 k ∧ Recs w wr n k C)
  case atStart => exact ⟨0, Nat.zero_le _, rfl, rfl, recs_start w n C⟩
  case round =>
    obtain ⟨k, hk, rfl, rfl, hR⟩ := hrel
    by_cases hlt : k < n
    · have ha := G.adr (by omega)
      subst ha
      have hcb : cb < w.heap.size := World.block_lt_of_cell? _ _ (G.cell k hlt)
      have g0 : wr.cell? ⟨cb, co + k, none⟩ = some (.int .i64 (C k)) := (hR.bel.cell (p := ⟨cb, co + k, none⟩) hcb).trans (G.cell k hlt)
      have g1 : wr.cell? ⟨w.heap.size, k, none⟩ = some (.pointer none) := by simpa using hR.row.cell hlt
      have g2 : wr.frozen? ⟨w.heap.size, k, none⟩ = false := hR.row.frozen k
      have g3 : w.heap.size < wr.heap.size := hR.row.lt
      go_wp2
      go_roundg (n - (k + 1))
      case measure => omega
      case rel => exact ⟨k + 1, by omega, rfl, by go_num, recs_step hR _ rfl rfl⟩
    · have e : n = k := by omega
      subst e
      go_wp2
      go_ret
      exact ⟨rfl, hR⟩

/-- The cells of a row of steps: the recipe, no arguments. -/
def stepv (R : Nat → Nat) (k : Nat) (i : Nat) : Value := if i % 2 = 0 then (if i / 2 < k then .pointer (some ⟨R (i / 2), 0, none⟩) else .pointer none) else .slice none 0 0

/-- Block b is a row of n steps, the first k of them laid. -/
def StepRow (w : World) (b n k : Nat) (R : Nat → Nat) : Prop := w.rowIs b 46 (n * 2) (stepv R k)

theorem make_steps (n : Nat) (h : n ≤ 65537) (w : World) :
    (Instr.makeSlice 26 (.int .i64 (n : Int)) (.int .i64 (n : Int))).run Tryz.prog w = .ok (.slice (some ⟨w.heap.size, 0, none⟩) n n) (w.alloc (.cells (madeCells #[.pointer none, .slice none 0 0] (n * 2)) 46)) := by
  obtain ⟨i, hi, hz, hs, hb⟩ := info_parts Tryz.info46
  have hr := run_make (P := Tryz.prog) w 26 46 i _ Tryz.underlying26 hi hz .i64 .i64 n n (by omega) (Int.le_refl _) (by rw [hb]; omega) (by omega)
  simp only [Int.toNat_natCast, hs] at hr
  exact hr

theorem made_steps (w : World) (n : Nat) (R : Nat → Nat) : StepRow (w.alloc (.cells (madeCells #[.pointer none, .slice none 0 0] (n * 2)) 46)) w.heap.size n 0 R := by
  have h := World.rowIs_alloc w (madeCells #[.pointer none, .slice none 0 0] (n * 2)) 46 (stepv R 0) (fun i hi => by
    rw [size_madeCells] at hi
    simp only [madeCells, Array.getElem?_map, Array.getElem?_range]
    rw [if_pos hi]
    simp only [Option.map_some, stepv]
    rcases (show i % 2 = 0 ∨ i % 2 = 1 by omega) with e | e
    all_goals
      have e' : i % (#[Value.pointer none, .slice none 0 0] : Array Value).size = i % 2 := rfl
      rw [e', e]
      rfl)
  rw [size_madeCells] at h
  exact h

theorem StepRow.step {w : World} {b n k : Nat} {R : Nat → Nat} (h : StepRow w b n k R) :
    StepRow ((w.setCell ⟨b, k * 2, none⟩ (.pointer (some ⟨R k, 0, none⟩))).setCell ⟨b, k * 2 + 1, none⟩ (.slice none 0 0)) b n (k + 1) R := by
  refine (World.rowIs.set (World.rowIs.set h (k * 2) _) (k * 2 + 1) _).congr fun i _ => ?_
  simp only [stepv]
  by_cases e1 : i = k * 2 + 1
  · subst e1
    rw [if_pos rfl, if_neg (by omega)]
  · rw [if_neg e1]
    by_cases e0 : i = k * 2
    · subst e0
      rw [if_pos rfl, if_pos (by omega), if_pos (by omega), show k * 2 / 2 = k from by omega]
    · rw [if_neg e0]
      by_cases ev : i % 2 = 0
      · rw [if_pos ev, if_pos ev]
        by_cases hlt : i / 2 < k
        · rw [if_pos hlt, if_pos (by omega)]
        · rw [if_neg hlt, if_neg (by omega)]
      · rw [if_neg ev, if_neg ev]

theorem StepRow.ptr {w : World} {b n k : Nat} {R : Nat → Nat} (h : StepRow w b n k R) {j : Nat} (hj : j < k) (hk : k ≤ n) : w.cell? ⟨b, j * 2, none⟩ = some (.pointer (some ⟨R j, 0, none⟩)) := by
  rw [World.rowIs.cell h (show j * 2 < n * 2 by omega)]
  simp [stepv, hj]

theorem StepRow.arg {w : World} {b n k : Nat} {R : Nat → Nat} (h : StepRow w b n k R) {j : Nat} (hj : j < n) : w.cell? ⟨b, j * 2 + 1, none⟩ = some (.slice none 0 0) := by
  rw [World.rowIs.cell h (show j * 2 + 1 < n * 2 by omega)]
  simp [stepv, Nat.mul_add_mod_self_right]

set_option maxHeartbeats 800000 in
theorem steps_any {w : World} {n c0 b : Nat} {R : Nat → Nat} (hR : ∀ i, i < n → w.cell? ⟨b, i, none⟩ = some (.pointer (some ⟨R i, 0, none⟩))) (hn : n ≤ 65536) :
    Calls Tryz.prog 7 #[.slice (some ⟨b, 0, none⟩) n c0] w fun e w' => e = .returned (.slice (some ⟨w.heap.size, 0, none⟩) n n) ∧ Below w.heap.size w w' ∧ StepRow w' w.heap.size n n R := by
  have hmk := make_steps n (by omega)
  go_enter Tryz.func7, Tryz.ntmps7
  go_wp2
  clear hmk
  go_loopg [4] n (fun g i wr => ∃ k : Nat, k ≤ n ∧ g = n - k ∧ i = .int .i64 k ∧ Below w.heap.size w wr ∧ StepRow wr w.heap.size n k R)
  case atStart => exact ⟨0, Nat.zero_le _, rfl, rfl, (Below.refl _ _).alloc (Nat.le_refl _) _, made_steps w n R⟩
  case round =>
    obtain ⟨k, hk, rfl, rfl, hb, hS⟩ := hrel
    by_cases hlt : k < n
    · have hbl : b < w.heap.size := World.block_lt_of_cell? _ _ (hR k hlt)
      have g0 : wr.cell? ⟨b, k, none⟩ = some (.pointer (some ⟨R k, 0, none⟩)) := (hb.cell (p := ⟨b, k, none⟩) hbl).trans (hR k hlt)
      have g1 : wr.cell? ⟨w.heap.size, k * 2, none⟩ = some (.pointer none) := by
        rw [World.rowIs.cell hS (show k * 2 < n * 2 by omega)]
        simp [stepv]
      have g2 : wr.cell? ⟨w.heap.size, k * 2 + 1, none⟩ = some (.slice none 0 0) := by
        rw [World.rowIs.cell hS (show k * 2 + 1 < n * 2 by omega)]
        simp [stepv, Nat.mul_add_mod_self_right]
      have g3 : wr.frozen? ⟨w.heap.size, k * 2, none⟩ = false := World.rowIs.frozen hS _
      have g4 : wr.frozen? ⟨w.heap.size, k * 2 + 1, none⟩ = false := World.rowIs.frozen hS _
      go_wp2
      go_roundg (n - (k + 1))
      case measure => omega
      case rel => exact ⟨k + 1, by omega, rfl, by go_num, (hb.setCell (Nat.le_refl _) _).setCell (Nat.le_refl _) _, hS.step⟩
    · have e : n = k := by omega
      subst e
      go_wp2
      go_ret
      exact ⟨rfl, hb, hS⟩

/-- How many of the first k cleanups are not nought. -/
def cnt (C : Nat → Int) : Nat → Nat
  | 0 => 0
  | k + 1 => cnt C k + (if C k = 0 then 0 else 1)

theorem cnt_le (C : Nat → Int) (k : Nat) : cnt C k ≤ k := by
  induction k with
  | zero => exact Nat.le_refl _
  | succ k ih => simp only [cnt]; split <;> omega

set_option maxHeartbeats 800000 in
theorem count_any {w : World} {a0 : Option Addr} {n c0 cb co : Nat} {C : Nat → Int} (G : Came w a0 n cb co C) (u : Nat) (hu : u ≤ n) (hn : n ≤ 65536) :
    Calls Tryz.prog 9 #[.slice a0 n c0, .int .i64 u] w fun e w' => e = .returned (.int .i64 (cnt C u)) ∧ w = w' := by
  go_enter Tryz.func9, Tryz.ntmps9
  go_wp2
  go_loopg [5, 6] u (fun g c i wr => w = wr ∧ ∃ k : Nat, k ≤ u ∧ g = u - k ∧ c = .int .i64 (cnt C k) ∧ i = .int .i64 k)
  case atStart => exact ⟨rfl, 0, Nat.zero_le _, rfl, rfl, rfl⟩
  case round =>
    obtain ⟨rfl, k, hk, rfl, rfl, rfl⟩ := hrel
    have hc := cnt_le C k
    by_cases hlt : k < u
    · have ha := G.adr (by omega)
      subst ha
      have g0 := G.cell k (by omega)
      by_cases hz : C k = 0
      · have hb : (C k != 0) = false := by simp [hz]
        have E : Hid (cnt C (k + 1) = cnt C k) := show cnt C (k + 1) = cnt C k by simp [cnt, hz]
        clear hz
        go_wp2
        go_roundg (u - (k + 1))
        case measure => omega
        case rel => exact ⟨rfl, k + 1, by omega, rfl, by rw [E.out], by go_num⟩
      · have hb : (C k != 0) = true := by simp [hz]
        have E : Hid (cnt C (k + 1) = cnt C k + 1) := show cnt C (k + 1) = cnt C k + 1 by simp [cnt, hz]
        clear hz
        go_wp2
        go_roundg (u - (k + 1))
        case measure => omega
        case rel => exact ⟨rfl, k + 1, by omega, rfl, by rw [E.out]; go_num, by go_num⟩
    · have e : u = k := by omega
      subst e
      go_wp2
      go_ret
      exact ⟨rfl, rfl⟩

def BoolPost (w : World) (e : Ending) (w' : World) : Prop := (∃ b, e = .returned (.bool b)) ∧ w = w'

theorem bytes5_any (a0 : Option Addr) (n c0 : Nat) (x : Int) (w : World) (hn : n ≤ 9223372036854775807) : Calls Tryz.prog 5 #[.slice a0 n c0, .int .i64 x] w (BoolPost w) := by
  go_enter Tryz.func5, Tryz.ntmps5
  go_wp2
  all_goals
    go_ret
    exact ⟨⟨_, rfl⟩, rfl⟩

theorem bytes10_any (a0 : Option Addr) (n c0 : Nat) (x y : Int) (w : World) (hn : n ≤ 9223372036854775807) : Calls Tryz.prog 10 #[.slice a0 n c0, .int .i64 x, .int .i64 y] w (BoolPost w) := by
  go_enter Tryz.func10, Tryz.ntmps10
  go_wp2
  all_goals
    go_ret
    exact ⟨⟨_, rfl⟩, rfl⟩
end Go.Proofs.Qxb6615841aGreat
