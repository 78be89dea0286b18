/-
  The walk over FnSetAnnotationsReplacesWhatWasSet itself.
-/
import Derived.Test.Qxb6615666aAnnot
namespace Go.Proofs.Qxb6615666a
open Go.RowKit Go.Deep

/-- What a law answers. -/
def LawPost (w : World) (e : Ending) (w' : World) : Prop := e = .returned (.bool true) ∧ Below w.heap.size w w'

theorem belowN (w : World) (n : Nat) : Below w.heap.size w (w.drewN n) := ⟨rfl, rfl, rfl, Nat.le_refl _, fun _ _ => rfl⟩

/-- The world behind the first SetAnnotations: the value lies in block pb, its one note in block pb + 1. -/
structure Prior (w1 w2 : World) (pb q : Nat) : Prop where
  bel : Below pb w1 w2
  eq : w1.heap.size = pb
  lt : pb < w2.heap.size
  ptr : w2.cell? ⟨pb, 0, none⟩ = some (.pointer (some ⟨q, 0, none⟩))
  free : w2.frozen? ⟨pb, 0, none⟩ = false
  box : w2.cell? ⟨q, 0, none⟩ = some (.slice (some ⟨pb + 1, 0, none⟩) 1 1)
  c0 : w2.cell? ⟨pb + 1, 0, none⟩ = some (.int .i64 (-1))
  c1 : w2.cell? ⟨pb + 1, 1, none⟩ = some .nilIface
  c2 : w2.cell? ⟨pb + 1, 2, none⟩ = some (.string ⟨#[112, 114, 105, 111, 114]⟩)

theorem prior_set (w1 : World) : Calls Try.prog 10 #[.pointer (some ⟨w1.heap.size, 0, none⟩), .slice (some ⟨w1.heap.size + 1, 0, none⟩) 1 1]
    ((w1.alloc (.cells #[.pointer none] 32)).alloc (.cells #[.int .i64 (-1), .nilIface, .string ⟨#[112, 114, 105, 111, 114]⟩] 37)) fun e w2 => e = .returned (.tuple #[]) ∧ ∃ q, Prior w1 w2 w1.heap.size q := by
  have hsz : ((w1.alloc (.cells #[.pointer none] 32)).alloc (.cells #[.int .i64 (-1), .nilIface, .string ⟨#[112, 114, 105, 111, 114]⟩] 37)).heap.size = w1.heap.size + 2 := by simp
  have hc : ((w1.alloc (.cells #[.pointer none] 32)).alloc (.cells #[.int .i64 (-1), .nilIface, .string ⟨#[112, 114, 105, 111, 114]⟩] 37)).cell? ⟨w1.heap.size, 0, none⟩ = some (.pointer none) := by simp
  have hf : ((w1.alloc (.cells #[.pointer none] 32)).alloc (.cells #[.int .i64 (-1), .nilIface, .string ⟨#[112, 114, 105, 111, 114]⟩] 37)).frozen? ⟨w1.heap.size, 0, none⟩ = false := by simp
  have hcj : ∀ j, ((w1.alloc (.cells #[.pointer none] 32)).alloc (.cells #[.int .i64 (-1), .nilIface, .string ⟨#[112, 114, 105, 111, 114]⟩] 37)).cell? ⟨w1.heap.size + 1, j, none⟩ = (#[.int .i64 (-1), .nilIface, .string ⟨#[112, 114, 105, 111, 114]⟩] : Array Value)[j]? := fun j => by
    have h := World.cell?_alloc_mark (w1.alloc (.cells #[.pointer none] 32)) #[.int .i64 (-1), .nilIface, .string ⟨#[112, 114, 105, 111, 114]⟩] 37 (0, 0) j
    rw [show (w1.alloc (.cells #[.pointer none] 32)).heap.size = w1.heap.size + 1 from by simp] at h
    exact h
  have hbel : Below w1.heap.size w1 ((w1.alloc (.cells #[.pointer none] 32)).alloc (.cells #[.int .i64 (-1), .nilIface, .string ⟨#[112, 114, 105, 111, 114]⟩] 37)) := ((Below.refl _ _).alloc (Nat.le_refl _) _).alloc (by simp) _
  generalize ((w1.alloc (.cells #[.pointer none] 32)).alloc (.cells #[.int .i64 (-1), .nilIface, .string ⟨#[112, 114, 105, 111, 114]⟩] 37)) = W at hsz hc hf hcj hbel ⊢
  refine (set_some w1.heap.size (some ⟨w1.heap.size + 1, 0, none⟩) 1 1 W _ (by omega) hc hf).mono ?_
  rintro e w2 ⟨he, hT, h1, h2⟩
  refine ⟨he, W.heap.size, hT.below hbel (Nat.le_refl _) (by omega), rfl, by rw [hT.size]; omega, h1, hT.free hf, h2, ?_, ?_, ?_⟩
  all_goals
    rw [hT.cell (by show w1.heap.size + 1 < W.heap.size; omega) (by show w1.heap.size + 1 ≠ w1.heap.size; omega), hcj]
    rfl

set_option maxHeartbeats 2000000 in
set_option maxRecDepth 100000 in
theorem law4_any {w : World} {a0 a1 : Option Addr} {n0 c0 n1 c1 ob oo sb so : Nat} {O : Nat → Int} {S : Nat → ByteArray} (A : Args w a0 n0 a1 n1 ob oo sb so O S)
    (hn0 : n0 ≤ 9223372036854775807) (hn1 : n1 ≤ 9223372036854775807) (hS : ∀ j, j < n1 → (S j).size ≤ 9223372036854775807) :
    Calls Try.prog 4 #[.slice a0 n0 c0, .slice a1 n1 c1] w (LawPost w) := by
  go_enter Try.func4, Try.ntmps4
  go_wp2_with fail
  refine (bytes8_any A hn0 hn1 hS).mono ?_
  rintro e w' ⟨⟨b, rfl, hb⟩, rfl⟩
  cases b with
  | false =>
    go_wp2_with fail
    go_ret
    exact ⟨rfl, Below.refl _ _⟩
  | true =>
    have HS : Hid (∀ j, j < n1 → (S j).size ≤ 1048576) := hb rfl
    clear hb hS
    by_cases h0 : (n0 : Int) ≤ 131072
    rotate_left
    · go_wp2_with fail
      go_ret
      exact ⟨rfl, Below.refl _ _⟩
    by_cases h1 : (n1 : Int) ≤ 131072
    rotate_left
    · go_wp2_with fail
      go_ret
      exact ⟨rfl, Below.refl _ _⟩
    obtain ⟨y, hy⟩ : ∃ y : Nat, (8 * (n0 : Int) + 16 * (n1 : Int)) = (y : Int) := ⟨8 * n0 + 16 * n1, by omega⟩
    have hy0 : (y : Int) ≤ 3145728 := by omega
    by_cases ht : (y : Int) ≤ 1048576
    rotate_left
    · go_wp2_with fail
      go_ret
      exact ⟨rfl, Below.refl _ _⟩
    go_wp2_with fail
    clear hy
    go_loopg [5, 6] n1 (fun g q i wr => w = wr ∧ ∃ k z : Nat, k ≤ n1 ∧ g = n1 - k ∧ z ≤ 1048576 ∧ q = .int .i64 z ∧ i = .int .i64 k)
    case atStart => exact ⟨rfl, 0, y, by omega, rfl, by omega, rfl, rfl⟩
    case round =>
      obtain ⟨rfl, k, z, hk, rfl, hz, rfl, rfl⟩ := hrel
      by_cases hlt : k < n1
      · have ha := A.adr1 (by omega)
        subst ha
        have hrow := A.cell1 k hlt
        have hSk := HS.out k hlt
        go_wp2_with fail
        · go_ret
          exact ⟨rfl, Below.refl _ _⟩
        · go_roundg (n1 - (k + 1))
          case measure => omega
          case rel => exact ⟨rfl, k + 1, z + (S k).size, by omega, rfl, by omega, by go_num, by go_num⟩
      · by_cases hne : n0 = n1
        rotate_left
        · have hb : ((n0 : Int) != (n1 : Int)) = true := by simp; omega
          go_wp2_with fail
          go_ret
          exact ⟨rfl, Below.refl _ _⟩
        · subst hne
          have hb : ((n0 : Int) != (n0 : Int)) = false := by simp
          go_wp2_with fail
          refine (build_any A (by omega)).mono ?_
          rintro e w1 hB
          by_cases hp : 0 < n0
          · have hB2 : e = .returned (.slice (some ⟨w.heap.size, 0, none⟩) n0 n0) ∧ Below w.heap.size w w1 ∧ NoteRow w1 w.heap.size n0 O S := by
              rcases hB with ⟨h, _⟩ | ⟨_, h⟩
              · have := A.nil0 h; omega
              · exact h
            obtain ⟨rfl, hbel, hN⟩ := hB2
            clear hB
            have hx := A.adr0 hp
            have hx1 := A.adr1 hp
            subst hx hx1
            have hpb : w.heap.size < w1.heap.size := World.rowIs.lt hN
            go_wp2_with fail
            refine (prior_set w1).mono ?_
            rintro e w2 ⟨rfl, q, hP⟩
            have p1 := hP.ptr
            have p2 := hP.box
            have p3 := hP.c0
            have p4 := hP.c1
            have p5 := hP.c2
            generalize hpbs : w1.heap.size = pb at hP hpb p1 p2 p3 p4 p5 ⊢
            go_wp2_with fail
            refine (get_some pb q _ _ _ _ p1 p2).mono ?_
            rintro e w' ⟨rfl, rfl⟩
            go_wp2_with fail
            refine (set_some pb _ n0 n0 w2 _ hp p1 hP.free).mono ?_
            rintro e w3 ⟨rfl, hT, r1, r2⟩
            have hN2 : NoteRow w2 w.heap.size n0 O S := World.rowIs.of_block hN (hP.bel.block _ hpb)
            have hN3 := hT.row hN2 (by omega)
            have hbel2 : Below w.heap.size w w2 := hbel.trans (hP.bel.mono (by omega))
            have hbel3 := hT.below hbel2 (by omega) (by have := hbel2.size; omega)
            generalize w2.heap.size = q3 at r1 r2
            clear p1 p2 p3 p4 p5 hN hN2 hP hbel hbel2 hT hpbs
            go_wp2_with fail
            refine (get_some pb q3 _ _ _ _ r1 r2).mono ?_
            rintro e w' ⟨rfl, rfl⟩
            have hz0 : ((n0 : Int) == 0) = false := by simp; omega
            clear r1 r2
            go_wp2_with fail
            go_loopg [11] n0 (fun g i wr => ∃ k m : Nat, w3.drewN m = wr ∧ k ≤ n0 ∧ g = n0 - k ∧ i = .int .i64 k)
            case atStart => exact ⟨0, 0, rfl, Nat.zero_le _, rfl, rfl⟩
            case round =>
              obtain ⟨j, m, rfl, hj, rfl, rfl⟩ := hrel
              by_cases hjl : j < n0
              · have g0 : w3.cell? ⟨ob, oo + j, none⟩ = some (.int .i64 (O j)) := (hbel3.cell (p := ⟨ob, oo + j, none⟩) (World.block_lt_of_cell? _ _ (A.cell0 j hjl))).trans (A.cell0 j hjl)
                have g1 : w3.cell? ⟨sb, so + j, none⟩ = some (.string (S j)) := (hbel3.cell (p := ⟨sb, so + j, none⟩) (World.block_lt_of_cell? _ _ (A.cell1 j hjl))).trans (A.cell1 j hjl)
                have g2 := hN3.off hjl
                have g3 := hN3.val hjl
                have g4 := hN3.com hjl
                have b1 : (O j != O j) = false := by simp
                go_wp2_with fail
                go_quiet (fail)
                go_wp2_with fail
                go_roundg (n0 - (j + 1))
                case measure => omega
                case rel => exact ⟨j + 1, _, rfl, by omega, rfl, by go_num⟩
              · go_wp2_with fail
                go_ret
                exact ⟨rfl, hbel3.trans ((belowN w3 m).mono hbel3.size)⟩
          · obtain ⟨x, rfl, hbel⟩ : ∃ x, e = .returned (.slice x 0 0) ∧ Below w.heap.size w w1 := by
              have hz : n0 = 0 := by omega
              subst hz
              rcases hB with ⟨_, h, h'⟩ | ⟨_, h, h', _⟩
              · exact ⟨_, h, by rw [← h']; exact Below.refl _ _⟩
              · exact ⟨_, h, h'⟩
            clear hB
            go_wp2_with fail
            refine (prior_set w1).mono ?_
            rintro e w2 ⟨rfl, q, hP⟩
            have p1 := hP.ptr
            have p2 := hP.box
            have p3 := hP.c0
            have p4 := hP.c1
            have p5 := hP.c2
            have hpb : w.heap.size ≤ w1.heap.size := hbel.size
            generalize hpbs : w1.heap.size = pb at hP hpb p1 p2 p3 p4 p5 ⊢
            go_wp2_with fail
            refine (get_some pb q _ _ _ _ p1 p2).mono ?_
            rintro e w' ⟨rfl, rfl⟩
            go_wp2_with fail
            refine (set_nil pb _ 0 w2 _ p1 hP.free).mono ?_
            rintro e w3 ⟨rfl, hT, r1⟩
            have hbel2 : Below w.heap.size w w2 := hbel.trans (hP.bel.mono (by omega))
            have hbel3 := hT.below hbel2 (by omega) (by have := hbel2.size; omega)
            clear p1 p2 p3 p4 p5 hP hbel hbel2 hT hpbs
            go_wp2_with fail
            refine (get_nil pb _ r1).mono ?_
            rintro e w' ⟨rfl, rfl⟩
            have hz0 : ((n0 : Int) == 0) = true := by simp; omega
            have hnil := fun (w : World) (a : Option Addr) (n c : Nat) => Lib.run_eql_slice_nil (P := Try.prog) w 28 37 a n c 0 0 Try.underlying28
            go_wp2_with fail
            go_ret
            exact ⟨rfl, hbel3⟩
end Go.Proofs.Qxb6615666a
