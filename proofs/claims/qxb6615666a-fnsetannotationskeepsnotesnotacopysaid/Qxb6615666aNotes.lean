/-
  The walks over the road of the two SetAnnotations laws: the arguments, the bound, the notes.
-/
import Derived.Test.Qxb6615666aRows
import Derived.WalkKit
import Derived.WalkSpells
import Derived.WalkLawsBesides
import Derived.Deep.LoopGhost
import Derived.Deep.OwnRows
import Derived.Deep.QuietTactic
import Derived.BigQuiet
namespace Go.Proofs.Qxb6615666a
open Go.RowKit Go.Deep

/-- What the walks are told of the two slices that came in. -/
structure Args (w : World) (a0 : Option Addr) (n0 : Nat) (a1 : Option Addr) (n1 ob oo sb so : Nat) (O : Nat → Int) (S : Nat → ByteArray) : Prop where
  adr0 : 0 < n0 → a0 = some ⟨ob, oo, none⟩
  nil0 : a0 = none → n0 = 0
  cell0 : ∀ j, j < n0 → w.cell? ⟨ob, oo + j, none⟩ = some (.int .i64 (O j))
  adr1 : 0 < n1 → a1 = some ⟨sb, so, none⟩
  cell1 : ∀ j, j < n1 → w.cell? ⟨sb, so + j, none⟩ = some (.string (S j))

def BytesPost (w : World) (n1 : Nat) (S : Nat → ByteArray) (e : Ending) (w' : World) : Prop :=
  (∃ b, e = .returned (.bool b) ∧ (b = true → ∀ j, j < n1 → (S j).size ≤ 1048576)) ∧ w = w'

set_option maxHeartbeats 800000 in
theorem bytes8_any {w : World} {a0 a1 : Option Addr} {n0 c0 n1 c1 ob oo sb so : Nat} {O : Nat → Int} {S : Nat → ByteArray} (A : Args w a0 n0 a1 n1 ob oo sb so O S)
    (hn0 : n0 ≤ 9223372036854775807) (hn1 : n1 ≤ 9223372036854775807) (hS : ∀ j, j < n1 → (S j).size ≤ 9223372036854775807) :
    Calls Try.prog 8 #[.slice a0 n0 c0, .slice a1 n1 c1] w (BytesPost w n1 S) := by
  go_enter Try.func8, Try.ntmps8
  go_wp2
  · go_ret
    exact ⟨⟨false, rfl, by simp⟩, rfl⟩
  · go_ret
    exact ⟨⟨false, rfl, by simp⟩, rfl⟩
  · go_ret
    exact ⟨⟨false, rfl, by simp⟩, rfl⟩
  · go_loopg [5, 6] n1 (fun g q i wr => w = wr ∧ ∃ k z : Nat, k ≤ n1 ∧ g = n1 - k ∧ z ≤ 1048576 ∧ q = .int .i64 z ∧ i = .int .i64 k ∧ ∀ r, r < k → (S r).size ≤ 1048576)
    case atStart => exact ⟨rfl, 0, n0 + n1, by omega, rfl, by omega, by go_num, rfl, by omega⟩
    case round =>
      obtain ⟨rfl, k, z, hk, rfl, hz, rfl, rfl, hall⟩ := hrel
      have HA : Hid (∀ r, r < k → (S r).size ≤ 1048576) := hall
      clear hall
      by_cases hlt : k < n1
      · have ha := A.adr1 (by omega)
        subst ha
        have hrow := A.cell1 k hlt
        have hSk := hS k hlt
        go_wp2
        · go_ret
          exact ⟨⟨false, rfl, by simp⟩, rfl⟩
        · go_ret
          exact ⟨⟨false, rfl, by simp⟩, rfl⟩
        · go_roundg (n1 - (k + 1))
          case measure => omega
          case rel => exact ⟨rfl, k + 1, z + (S k).size, by omega, rfl, by omega, by go_num, by go_num, fun r hr => by
            by_cases e : r = k
            · subst e; omega
            · exact HA.out r (by omega)⟩
      · go_wp2
        go_ret
        exact ⟨⟨true, rfl, fun _ r hr => HA.out r (by omega)⟩, rfl⟩

/-- The cells of a row of notes: offset, value (nil), comment. -/
def note (O : Nat → Int) (S : Nat → ByteArray) (i : Nat) : Value := if i % 3 = 0 then .int .i64 (O (i / 3)) else if i % 3 = 1 then .nilIface else .string (S (i / 3))

/-- Block b is a row of n notes. -/
def NoteRow (w : World) (b n : Nat) (O : Nat → Int) (S : Nat → ByteArray) : Prop := w.rowIs b 37 (n * 3) (note O S)

theorem NoteRow.off {w : World} {b n : Nat} {O : Nat → Int} {S : Nat → ByteArray} (h : NoteRow w b n O S) {j : Nat} (hj : j < n) : w.cell? ⟨b, j * 3, none⟩ = some (.int .i64 (O j)) := by
  rw [World.rowIs.cell h (show j * 3 < n * 3 by omega)]
  simp [note]

theorem NoteRow.val {w : World} {b n : Nat} {O : Nat → Int} {S : Nat → ByteArray} (h : NoteRow w b n O S) {j : Nat} (hj : j < n) : w.cell? ⟨b, j * 3 + 1, none⟩ = some .nilIface := by
  rw [World.rowIs.cell h (show j * 3 + 1 < n * 3 by omega)]
  simp [note, Nat.mul_add_mod_self_right]

theorem NoteRow.com {w : World} {b n : Nat} {O : Nat → Int} {S : Nat → ByteArray} (h : NoteRow w b n O S) {j : Nat} (hj : j < n) : w.cell? ⟨b, j * 3 + 2, none⟩ = some (.string (S j)) := by
  rw [World.rowIs.cell h (show j * 3 + 2 < n * 3 by omega)]
  have e1 : (j * 3 + 2) % 3 = 2 := by omega
  have e2 : (j * 3 + 2) / 3 = j := by omega
  simp [note, e1, e2]

def upd {α : Type} (f : Nat → α) (j : Nat) (x : α) : Nat → α := fun k => if k = j then x else f k

theorem NoteRow.setOff {w : World} {b n : Nat} {O : Nat → Int} {S : Nat → ByteArray} (h : NoteRow w b n O S) (j : Nat) (x : Int) : NoteRow (w.setCell ⟨b, j * 3, none⟩ (.int .i64 x)) b n (upd O j x) S := by
  refine (World.rowIs.set h (j * 3) _).congr fun i _ => ?_
  simp only [note, upd]
  by_cases e : i = j * 3
  · subst e; simp
  · rw [if_neg e]
    by_cases e0 : i % 3 = 0
    · rw [if_pos e0, if_pos e0, if_neg (by omega)]
    · rw [if_neg e0, if_neg e0]

theorem NoteRow.setCom {w : World} {b n : Nat} {O : Nat → Int} {S : Nat → ByteArray} (h : NoteRow w b n O S) (j : Nat) (x : ByteArray) : NoteRow (w.setCell ⟨b, j * 3 + 2, none⟩ (.string x)) b n O (upd S j x) := by
  refine (World.rowIs.set h (j * 3 + 2) _).congr fun i _ => ?_
  simp only [note, upd]
  by_cases e : i = j * 3 + 2
  · subst e
    have e1 : (j * 3 + 2) % 3 = 2 := by omega
    have e2 : (j * 3 + 2) / 3 = j := by omega
    simp [e1, e2]
  · rw [if_neg e]
    by_cases e0 : i % 3 = 0
    · rw [if_pos e0, if_pos e0]
    · rw [if_neg e0, if_neg e0]
      by_cases e1 : i % 3 = 1
      · rw [if_pos e1, if_pos e1]
      · rw [if_neg e1, if_neg e1, if_neg (by omega)]

theorem NoteRow.congr {w : World} {b n : Nat} {O O' : Nat → Int} {S S' : Nat → ByteArray} (h : NoteRow w b n O S) (hO : ∀ j, j < n → O j = O' j) (hS : ∀ j, j < n → S j = S' j) : NoteRow w b n O' S' := by
  refine World.rowIs.congr h fun i hi => ?_
  simp only [note]
  rw [hO (i / 3) (by omega), hS (i / 3) (by omega)]

theorem Try.info37 : (Try.prog.info? 37).map (fun i => (i.zero, i.size, i.bytes)) = some (some (.agg #[.int .i64 0, .nilIface, .string ⟨#[]⟩]), 3, 40) := by kernel_rfl

theorem make_notes (n : Nat) (h : n ≤ 131072) (w : World) :
    (Instr.makeSlice 28 (.int .i64 (n : Int)) (.int .i64 (n : Int))).run Try.prog w = .ok (.slice (some ⟨w.heap.size, 0, none⟩) n n) (w.alloc (.cells (madeCells #[.int .i64 0, .nilIface, .string ⟨#[]⟩] (n * 3)) 37)) := by
  obtain ⟨i, hi, hz, hs, hb⟩ := info_parts Try.info37
  have hr := run_make (P := Try.prog) w 28 37 i _ Try.underlying28 hi hz .i64 .i64 n n (by omega) (Int.le_refl _) (by rw [hb]; omega) (by omega)
  simp only [Int.toNat_natCast, hs] at hr
  exact hr

theorem made_notes (w : World) (n : Nat) : NoteRow (w.alloc (.cells (madeCells #[.int .i64 0, .nilIface, .string ⟨#[]⟩] (n * 3)) 37)) w.heap.size n (fun _ => 0) (fun _ => ⟨#[]⟩) := by
  have h := World.rowIs_alloc w (madeCells #[.int .i64 0, .nilIface, .string ⟨#[]⟩] (n * 3)) 37 (note (fun _ => 0) (fun _ => ⟨#[]⟩)) (fun i hi => by
    rw [size_madeCells] at hi
    simp only [madeCells, Array.getElem?_map, Array.getElem?_range]
    rw [if_pos hi]
    simp only [Option.map_some, note]
    rcases (show i % 3 = 0 ∨ i % 3 = 1 ∨ i % 3 = 2 by omega) with e | e | e
    all_goals
      have e' : i % (#[Value.int .i64 0, .nilIface, .string ⟨#[]⟩] : Array Value).size = i % 3 := rfl
      rw [e', e]
      rfl)
  rw [size_madeCells] at h
  exact h

/-- What 'zzBuildNotes' hands back. -/
def BuildPost (w : World) (a0 : Option Addr) (n : Nat) (O : Nat → Int) (S : Nat → ByteArray) (e : Ending) (w' : World) : Prop :=
  (a0 = none ∧ e = .returned (.slice none 0 0) ∧ w = w') ∨
  (a0 ≠ none ∧ e = .returned (.slice (some ⟨w.heap.size, 0, none⟩) n n) ∧ Below w.heap.size w w' ∧ NoteRow w' w.heap.size n O S)

set_option maxHeartbeats 800000 in
theorem build_any {w : World} {a0 a1 : Option Addr} {n c0 c1 ob oo sb so : Nat} {O : Nat → Int} {S : Nat → ByteArray} (A : Args w a0 n a1 n ob oo sb so O S) (hn : n ≤ 131072) :
    Calls Try.prog 9 #[.slice a0 n c0, .slice a1 n c1] w (BuildPost w a0 n O S) := by
  have hnil := fun (w : World) (a : Option Addr) (n c : Nat) => Lib.run_eql_slice_nil (P := Try.prog) w 25 3 a n c 0 0 Try.underlying25
  have hmk := make_notes n hn
  cases ha0 : a0 with
  | none =>
    go_enter Try.func9, Try.ntmps9
    go_wp2
    go_ret
    exact .inl ⟨rfl, rfl, rfl⟩
  | some x =>
    go_enter Try.func9, Try.ntmps9
    go_wp2
    clear hnil hmk
    go_loopg [6] n (fun g i wr => ∃ k : Nat, k ≤ n ∧ g = n - k ∧ i = .int .i64 k ∧ Below w.heap.size w wr ∧ ∃ O' S', NoteRow wr w.heap.size n O' S' ∧ ∀ j, j < k → O' j = O j ∧ S' j = S j)
    case atStart => exact ⟨0, Nat.zero_le _, rfl, rfl, (Below.refl _ _).alloc (Nat.le_refl _) _, _, _, made_notes w n, by omega⟩
    case round =>
      obtain ⟨k, hk, rfl, rfl, hb, O', S', hN, hall⟩ := hrel
      have HA : Hid (∀ j, j < k → O' j = O j ∧ S' j = S j) := hall
      clear hall
      by_cases hlt : k < n
      · have e0 := A.adr0 (by omega)
        have e1 := A.adr1 (by omega)
        rw [ha0] at e0
        obtain rfl := Option.some.inj e0
        subst e1
        have g0 : wr.cell? ⟨ob, oo + k, none⟩ = some (.int .i64 (O k)) := (hb.cell (p := ⟨ob, oo + k, none⟩) (World.block_lt_of_cell? _ _ (A.cell0 k hlt))).trans (A.cell0 k hlt)
        have g1 : wr.cell? ⟨sb, so + k, none⟩ = some (.string (S k)) := (hb.cell (p := ⟨sb, so + k, none⟩) (World.block_lt_of_cell? _ _ (A.cell1 k hlt))).trans (A.cell1 k hlt)
        have hob : ob < w.heap.size := World.block_lt_of_cell? _ _ (A.cell0 k hlt)
        have hsb : sb < w.heap.size := World.block_lt_of_cell? _ _ (A.cell1 k hlt)
        have g2 := hN.off hlt
        have g3 := hN.com hlt
        have g4 : wr.frozen? ⟨w.heap.size, k * 3, none⟩ = false := World.rowIs.frozen hN _
        have g5 : wr.frozen? ⟨w.heap.size, k * 3 + 2, none⟩ = false := World.rowIs.frozen hN _
        clear e0
        go_wp2
        go_roundg (n - (k + 1))
        case measure => omega
        case rel => exact ⟨k + 1, by omega, rfl, by go_num, (hb.setCell (Nat.le_refl _) _).setCell (Nat.le_refl _) _, _, _, (hN.setOff k (O k)).setCom k (S k), fun j hj => by
          by_cases e : j = k
          · subst e; simp [upd]
          · have := HA.out j (by omega)
            simp [upd, e, this]⟩
      · go_wp2
        go_ret
        exact .inr ⟨by simp, rfl, hb, hN.congr (fun j hj => (HA.out j (by omega)).1) (fun j hj => (HA.out j (by omega)).2)⟩
end Go.Proofs.Qxb6615666a
