/-
  The walks over the road of FnStatusGivesBackTheTextItWasReadFrom: the four texts.
-/
import Derived.Test.Qxb6615588aFmtRows
import Derived.WalkKit
import Derived.WalkSpells
import Derived.WalkLawsBesides
import Derived.Deep.LoopGhost
import Derived.Deep.OwnRows
import Derived.Deep.QuietTactic
import Derived.BigQuiet
namespace Go.Proofs.Qxb6615588aFmt
open Go.RowKit Go.Deep

/-- The number of the status that a text names; -1 for a text that names none. -/
def cls (l : List UInt8) : Int :=
  if l == [116, 111, 100, 111] then 0 else if l == [113, 97] then 1 else if l == [100, 111, 110, 101] then 2 else if l == [102, 97, 105, 108, 101, 100] then 3 else -1

/-- The five ways of a text, each with the tests as the walk spells them. -/
theorem cls_ways (l : List UInt8) :
    (cls l = 0 ∧ (l == [116, 111, 100, 111]) = true) ∨
    (cls l = 1 ∧ (l == [116, 111, 100, 111]) = false ∧ (l == [113, 97]) = true) ∨
    (cls l = 2 ∧ (l == [116, 111, 100, 111]) = false ∧ (l == [113, 97]) = false ∧ (l == [100, 111, 110, 101]) = true) ∨
    (cls l = 3 ∧ (l == [116, 111, 100, 111]) = false ∧ (l == [113, 97]) = false ∧ (l == [100, 111, 110, 101]) = false ∧ (l == [102, 97, 105, 108, 101, 100]) = true) ∨
    (cls l = -1 ∧ (l == [116, 111, 100, 111]) = false ∧ (l == [113, 97]) = false ∧ (l == [100, 111, 110, 101]) = false ∧ (l == [102, 97, 105, 108, 101, 100]) = false) := by
  unfold cls
  cases h0 : (l == [116, 111, 100, 111]) with
  | true => simp
  | false =>
    cases h1 : (l == [113, 97]) with
    | true => simp
    | false =>
      cases h2 : (l == [100, 111, 110, 101]) with
      | true => simp
      | false => cases h3 : (l == [102, 97, 105, 108, 101, 100]) <;> simp

theorem ret_bool {a b : Bool} (h : a = b) : Ending.returned (.bool a) = .returned (.bool b) := by rw [h]
theorem ret_i64 {a b : Int} (h : a = b) : Ending.returned (.int .i64 a) = .returned (.int .i64 b) := by rw [h]

/-- 'zzIsStatusText'. -/
def isSt (l : List UInt8) : Bool := decide (0 ≤ cls l)

def IsPost (s : ByteArray) (w : World) (e : Ending) (w' : World) : Prop := e = .returned (.bool (isSt s.toList)) ∧ w = w'

theorem is_any (s : ByteArray) (w : World) : Calls Tryf.prog 7 #[.string s] w (IsPost s w) := by
  rcases cls_ways s.toList with ⟨hc, h0⟩ | ⟨hc, h0, h1⟩ | ⟨hc, h0, h1, h2⟩ | ⟨hc, h0, h1, h2, h3⟩ | ⟨hc, h0, h1, h2, h3⟩
  all_goals
    have HC : Hid (cls s.toList = _) := hc
    clear hc
    go_enter Tryf.func7, Tryf.ntmps7
    go_wp2
    go_ret
    exact ⟨ret_bool (by rw [isSt, HC.out]; decide), rfl⟩

/-- The table of the texts, as it lies in the variable's own block. -/
structure Texts (w : World) : Prop where
  t0 : w.cell? ⟨0, 0, none⟩ = some (.string ⟨#[116, 111, 100, 111]⟩)
  t1 : w.cell? ⟨0, 1, none⟩ = some (.string ⟨#[113, 97]⟩)
  t2 : w.cell? ⟨0, 2, none⟩ = some (.string ⟨#[100, 111, 110, 101]⟩)
  t3 : w.cell? ⟨0, 3, none⟩ = some (.string ⟨#[102, 97, 105, 108, 101, 100]⟩)

def IndexPost (s : ByteArray) (w : World) (e : Ending) (w' : World) : Prop := e = .returned (.int .i64 (cls s.toList)) ∧ w' = w

theorem index_any (s : ByteArray) (w : World) (T : Texts w) : Calls Tryf.prog 11 #[.slice (some ⟨0, 0, none⟩) 4 4, .string s] w (IndexPost s w) := by
  obtain ⟨c0, c1, c2, c3⟩ := T
  rcases cls_ways s.toList with ⟨hc, h0⟩ | ⟨hc, h0, h1⟩ | ⟨hc, h0, h1, h2⟩ | ⟨hc, h0, h1, h2, h3⟩ | ⟨hc, h0, h1, h2, h3⟩
  · have HC : Hid (cls s.toList = _) := hc
    clear hc
    go_enter Tryf.func11, Tryf.ntmps11
    go_wp2
    refine wp_loop_rounds 1 ?_
    rw [rounds_succ]
    go_wp2
    go_ret
    exact ⟨ret_i64 HC.out.symm, rfl⟩
  · have HC : Hid (cls s.toList = _) := hc
    clear hc
    go_enter Tryf.func11, Tryf.ntmps11
    go_wp2
    refine wp_loop_rounds 2 ?_
    rw [rounds_succ]
    go_wp2
    rw [rounds_succ]
    go_wp2
    go_ret
    exact ⟨ret_i64 HC.out.symm, rfl⟩
  · have HC : Hid (cls s.toList = _) := hc
    clear hc
    go_enter Tryf.func11, Tryf.ntmps11
    go_wp2
    refine wp_loop_rounds 3 ?_
    rw [rounds_succ]
    go_wp2
    rw [rounds_succ]
    go_wp2
    rw [rounds_succ]
    go_wp2
    go_ret
    exact ⟨ret_i64 HC.out.symm, rfl⟩
  · have HC : Hid (cls s.toList = _) := hc
    clear hc
    go_enter Tryf.func11, Tryf.ntmps11
    go_wp2
    refine wp_loop_rounds 4 ?_
    rw [rounds_succ]
    go_wp2
    rw [rounds_succ]
    go_wp2
    rw [rounds_succ]
    go_wp2
    rw [rounds_succ]
    go_wp2
    go_ret
    exact ⟨ret_i64 HC.out.symm, rfl⟩
  · have HC : Hid (cls s.toList = _) := hc
    clear hc
    go_enter Tryf.func11, Tryf.ntmps11
    go_wp2
    refine wp_loop_rounds 5 ?_
    rw [rounds_succ]
    go_wp2
    rw [rounds_succ]
    go_wp2
    rw [rounds_succ]
    go_wp2
    rw [rounds_succ]
    go_wp2
    rw [rounds_succ]
    go_wp2
    go_ret
    exact ⟨ret_i64 HC.out.symm, rfl⟩

/-- The text of a status. -/
def txt (c : Int) : ByteArray := if c = 0 then ⟨#[116, 111, 100, 111]⟩ else if c = 1 then ⟨#[113, 97]⟩ else if c = 2 then ⟨#[100, 111, 110, 101]⟩ else ⟨#[102, 97, 105, 108, 101, 100]⟩

theorem ret_str {a b : ByteArray} (h : a = b) : Ending.returned (.string a) = .returned (.string b) := by rw [h]

/-- '(Status).String' at one of the four. -/
def StringPost (c : Int) (w : World) (e : Ending) (w' : World) : Prop := e = .returned (.string (txt c)) ∧ w = w'

theorem string_any (c : Int) (h0 : 0 ≤ c) (h3 : c ≤ 3) (w : World) (T : Texts w) : Calls Tryf.prog 10 #[.int .i64 c] w (StringPost c w) := by
  obtain ⟨c0, c1, c2, c3⟩ := T
  rcases (show c = 0 ∨ c = 1 ∨ c = 2 ∨ c = 3 from by omega) with h | h | h | h
  all_goals
    subst h
    go_enter Tryf.func10, Tryf.ntmps10
    go_wp2
    go_ret
    exact ⟨rfl, rfl⟩
end Go.Proofs.Qxb6615588aFmt
