/-
  The walks over the road of FnStatusGivesBackTheTextItWasReadFrom: the grid that the law builds, and the Shift over it.
-/
import Derived.Test.Qxb6615588aFmtGrid
import Derived.Test.Qxb6615588aFmtErr
namespace Go.Proofs.Qxb6615588aFmt
open Go.RowKit Go.Deep

/-- The status that the law lays for a text. -/
def sc (s : ByteArray) : Int := if 0 ≤ cls s.toList then cls s.toList else 0

theorem cls_range (l : List UInt8) : -1 ≤ cls l ∧ cls l ≤ 3 := by
  rcases cls_ways l with h | h | h | h | h <;> (rw [h.1]; omega)

theorem sc_range (s : ByteArray) : 0 ≤ sc s ∧ sc s ≤ 3 := by
  have := cls_range s.toList
  unfold sc
  split <;> omega

theorem eq_of_toList {s t : ByteArray} (h : s.toList = t.toList) : s = t := by
  rw [ByteArray.toList_eq, ByteArray.toList_eq] at h
  obtain ⟨⟨l⟩⟩ := s
  obtain ⟨⟨m⟩⟩ := t
  simp at h
  rw [h]

/-- A text that names a status is that status's text. -/
theorem txt_of_yes (s : ByteArray) (h : 0 ≤ cls s.toList) : txt (sc s) = s := by
  have e : sc s = cls s.toList := by unfold sc; rw [if_pos h]
  rw [e]
  refine eq_of_toList ?_
  rcases cls_ways s.toList with ⟨hc, h0⟩ | ⟨hc, _, h1⟩ | ⟨hc, _, _, h2⟩ | ⟨hc, _, _, _, h3⟩ | ⟨hc, _⟩
  · rw [hc, eq_of_beq h0, ByteArray.toList_eq]; rfl
  · rw [hc, eq_of_beq h1, ByteArray.toList_eq]; rfl
  · rw [hc, eq_of_beq h2, ByteArray.toList_eq]; rfl
  · rw [hc, eq_of_beq h3, ByteArray.toList_eq]; rfl
  · omega

theorem txt_of_no (s : ByteArray) (h : cls s.toList < 0) : txt (sc s) = ⟨#[116, 111, 100, 111]⟩ := by
  have e : sc s = 0 := by unfold sc; rw [if_neg (by omega)]
  rw [e]; rfl

theorem string_at (c : Int) (s : ByteArray) (h : txt c = s) (h0 : 0 ≤ c) (h3 : c ≤ 3) (w : World) (T : Texts w) : Calls Tryf.prog 10 #[.int .i64 c] w fun e w' => e = .returned (.string s) ∧ w = w' := by
  subst h; exact string_any c h0 h3 w T

/-- A new Shift: its status field holds the slice that was handed over. -/
def NewPost (v : Addr) (n : Nat) (w : World) (e : Ending) (w' : World) : Prop :=
  e = .returned (.pointer (some ⟨w.heap.size, 0, none⟩)) ∧ ∃ o, w' = w.alloc o ∧ (w.alloc o).cell? ⟨w.heap.size, 14, none⟩ = some (.slice (some v) n n)

theorem new_any (v : Addr) (n : Nat) (w : World) : Calls Tryf.prog 8 #[.slice (some v) n n] w (NewPost v n w) := by
  go_enter Tryf.func8, Tryf.ntmps8
  go_wp2
  go_ret
  exact ⟨rfl, _, rfl, by simp⟩

/-- The Shift as its method meets it: row t lies in block G t. -/
structure Built (w : World) (S N len rows : Nat) (G : Nat → Nat) (Z : Nat → Nat → ByteArray) : Prop where
  stat : w.cell? ⟨S, 14, none⟩ = some (.slice (some ⟨N, 0, none⟩) len len)
  top : ∀ t, t < len → w.cell? ⟨N, t, none⟩ = some (.slice (some ⟨G t, 0, none⟩) rows rows)
  cell : ∀ t, t < len → ∀ r, r < rows → w.cell? ⟨G t, r, none⟩ = some (.int .i64 (sc (Z t r)))

theorem status_any {w : World} {S N len rows : Nat} {G : Nat → Nat} {Z : Nat → Nat → ByteArray} (B : Built w S N len rows G Z) (t r : Nat) (ht : t < len) (hr : r < rows) :
    Calls Tryf.prog 9 #[.pointer (some ⟨S, 0, none⟩), .int .i64 t, .int .i64 r] w fun e w' => e = .returned (.int .i64 (sc (Z t r))) ∧ w = w' := by
  have h1 := B.stat
  have h2 := B.top t ht
  have h3 := B.cell t ht r hr
  go_enter Tryf.func9, Tryf.ntmps9
  go_wp2
  go_ret
  exact ⟨rfl, rfl⟩

/-- The new grid's own row, when t of its rows are laid. -/
def topv (G : Nat → Nat) (rows t : Nat) : Nat → Value := fun j => if j < t then .slice (some ⟨G j, 0, none⟩) rows rows else .slice none 0 0

structure Outer (w wr : World) (len rows t : Nat) (G : Nat → Nat) (Z : Nat → Nat → ByteArray) : Prop where
  bel : Below w.heap.size w wr
  top : wr.rowIs w.heap.size 26 len (topv G rows t)
  done : ∀ j, j < t → w.heap.size < G j ∧ wr.rowIs (G j) 27 rows (fun r => .int .i64 (sc (Z j r)))

structure Inner (w wi : World) (len rows t r g : Nat) (G : Nat → Nat) (Z : Nat → Nat → ByteArray) : Prop where
  bel : Below w.heap.size w wi
  top : wi.rowIs w.heap.size 26 len (topv G rows t)
  done : ∀ j, j < t → w.heap.size < G j ∧ G j < g ∧ wi.rowIs (G j) 27 rows (fun r => .int .i64 (sc (Z j r)))
  big : w.heap.size < g
  cur : wi.rowIs g 27 rows (fun i => if i < r then .int .i64 (sc (Z t i)) else .int .i64 0)

theorem row_below {w1 w2 : World} {b : Nat} {t : TypeId} {n : Nat} {f : Nat → Value} (h : w1.rowIs b t n f) (hb : Below w1.heap.size w1 w2) : w2.rowIs b t n f := h.of_block (hb.block b h.lt)

theorem outer_start (w : World) (n len rows : Nat) (G : Nat → Nat) (Z : Nat → Nat → ByteArray) : Outer w ((w.drewN n).alloc (.cells (madeCells #[.slice none 0 0] len) 26)) len rows 0 G Z :=
  ⟨(belowN w n).alloc (Nat.le_refl _) _, (World.rowIs_made (w.drewN n) _ len 26).congr (fun j _ => by simp [topv]), fun j hj => absurd hj (Nat.not_lt_zero _)⟩

theorem inner_start {w wr : World} {len rows t : Nat} {G : Nat → Nat} {Z : Nat → Nat → ByteArray} (h : Outer w wr len rows t G Z) : Inner w (wr.alloc (.cells (madeCells #[.int .i64 0] rows) 27)) len rows t 0 wr.heap.size G Z :=
  ⟨h.bel.alloc h.bel.size _, h.top.alloc _, fun j hj => ⟨(h.done j hj).1, (h.done j hj).2.lt, (h.done j hj).2.alloc _⟩, h.top.lt, (World.rowIs_made wr (.int .i64 0) rows 27).congr (fun i _ => by simp)⟩

theorem inner_below {w w1 w2 : World} {len rows t r g : Nat} {G : Nat → Nat} {Z : Nat → Nat → ByteArray} (h : Inner w w1 len rows t r g G Z) (hb : Below w1.heap.size w1 w2) : Inner w w2 len rows t r g G Z :=
  ⟨h.bel.trans (hb.mono h.bel.size), row_below h.top hb, fun j hj => ⟨(h.done j hj).1, (h.done j hj).2.1, row_below (h.done j hj).2.2 hb⟩, h.big, row_below h.cur hb⟩

theorem inner_step {w wi : World} {len rows t r g : Nat} {G : Nat → Nat} {Z : Nat → Nat → ByteArray} (h : Inner w wi len rows t r g G Z) :
    Inner w (wi.setCell ⟨g, r, none⟩ (.int .i64 (sc (Z t r)))) len rows t (r + 1) g G Z := by
  have hg := h.big
  refine ⟨h.bel.setCell (by show w.heap.size ≤ g; omega) _, h.top.setOther (by show w.heap.size ≠ g; omega) _,
    fun j hj => ⟨(h.done j hj).1, (h.done j hj).2.1, (h.done j hj).2.2.setOther (by show G j ≠ g; have := (h.done j hj).2.1; omega) _⟩, hg, (h.cur.set r _).congr (fun i _ => ?_)⟩
  by_cases e : i = r
  · subst e; simp
  · rw [if_neg e]
    by_cases hlt : i < r
    · rw [if_pos hlt, if_pos (by omega)]
    · rw [if_neg hlt, if_neg (by omega)]

theorem inner_done {w wi : World} {len rows t g : Nat} {G : Nat → Nat} {Z : Nat → Nat → ByteArray} (h : Inner w wi len rows t rows g G Z) :
    Outer w (wi.setCell ⟨w.heap.size, t, none⟩ (.slice (some ⟨g, 0, none⟩) rows rows)) len rows (t + 1) (fun j => if j = t then g else G j) Z := by
  have hg := h.big
  refine ⟨h.bel.setCell (Nat.le_refl _) _, (h.top.set t _).congr (fun j _ => ?_), fun j hj => ?_⟩
  · simp only [topv]
    by_cases e : j = t
    · subst e; simp
    · rw [if_neg e, if_neg e]
      by_cases hlt : j < t
      · rw [if_pos hlt, if_pos (by omega)]
      · rw [if_neg hlt, if_neg (by omega)]
  · by_cases e : j = t
    · subst e
      simp only [if_true]
      exact ⟨hg, (h.cur.setOther (by show g ≠ w.heap.size; omega) _).congr (fun i hi => by rw [if_pos hi])⟩
    · simp only [if_neg e]
      obtain ⟨h1, _, h3⟩ := h.done j (by omega)
      exact ⟨h1, h3.setOther (by show G j ≠ w.heap.size; omega) _⟩

theorem built_of {w wr : World} {len rows : Nat} {G : Nat → Nat} {Z : Nat → Nat → ByteArray} (h : Outer w wr len rows len G Z) (o : Obj) (hc : (wr.alloc o).cell? ⟨wr.heap.size, 14, none⟩ = some (.slice (some ⟨w.heap.size, 0, none⟩) len len)) :
    Built (wr.alloc o) wr.heap.size w.heap.size len rows G Z :=
  ⟨hc, fun t ht => by rw [(h.top.alloc o).cell ht]; simp [topv, ht], fun t ht r hr => ((h.done t ht).2.alloc o).cell hr⟩

/-- The texts of the table behind the walk's own blocks. -/
theorem Texts.below {B : Nat} {w w' : World} (T : Texts w) (h : Below B w w') (hB : 0 < B) : Texts w' :=
  ⟨(h.cell (p := ⟨0, 0, none⟩) hB).trans T.t0, (h.cell (p := ⟨0, 1, none⟩) hB).trans T.t1, (h.cell (p := ⟨0, 2, none⟩) hB).trans T.t2, (h.cell (p := ⟨0, 3, none⟩) hB).trans T.t3⟩
end Go.Proofs.Qxb6615588aFmt
