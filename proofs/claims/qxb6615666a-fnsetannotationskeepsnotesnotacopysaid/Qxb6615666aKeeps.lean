/-
  The walk over FnSetAnnotationsKeepsNotesNotACopy itself.
-/
import Derived.Test.Qxb6615666aReplaces
import Derived.Lib.Builder
namespace Go.Proofs.Qxb6615666a
open Go.RowKit Go.Deep

set_option maxHeartbeats 800000 in
theorem bytes12_any {w : World} {a0 a1 : Option Addr} {n0 c0 n1 c1 ob oo sb so : Nat} {O : Nat → Int} {S : Nat → ByteArray} (A : Args w a0 n0 a1 n1 ob oo sb so O S)
    (hn0 : n0 ≤ 9223372036854775807) (hn1 : n1 ≤ 9223372036854775807) (hS : ∀ j, j < n1 → (S j).size ≤ 9223372036854775807) :
    Calls Try.prog 12 #[.slice a0 n0 c0, .slice a1 n1 c1] w (BytesPost w n1 S) := by
  go_enter Try.func12, Try.ntmps12
  go_wp2
  · go_ret
    exact ⟨⟨false, rfl, by simp⟩, rfl⟩
  · go_ret
    exact ⟨⟨false, rfl, by simp⟩, rfl⟩
  · go_ret
    exact ⟨⟨false, rfl, by simp⟩, rfl⟩
  · go_loopg [5, 6] n1 (fun g q i wr => w = wr ∧ ∃ k z : Nat, k ≤ n1 ∧ g = n1 - k ∧ z ≤ 1048576 ∧ q = .int .i64 z ∧ i = .int .i64 k ∧ ∀ r, r < k → (S r).size ≤ 1048576)
    case atStart => exact ⟨rfl, 0, n0 + n1, by omega, rfl, by omega, by go_num, rfl, by omega⟩
    case round =>
      obtain ⟨rfl, k, z, hk, rfl, hz, rfl, rfl, hall⟩ := hrel
      have HA : Hid (∀ r, r < k → (S r).size ≤ 1048576) := hall
      clear hall
      by_cases hlt : k < n1
      · have ha := A.adr1 (by omega)
        subst ha
        have hrow := A.cell1 k hlt
        have hSk := hS k hlt
        go_wp2
        · go_ret
          exact ⟨⟨false, rfl, by simp⟩, rfl⟩
        · go_ret
          exact ⟨⟨false, rfl, by simp⟩, rfl⟩
        · go_roundg (n1 - (k + 1))
          case measure => omega
          case rel => exact ⟨rfl, k + 1, z + (S k).size, by omega, rfl, by omega, by go_num, by go_num, fun r hr => by
            by_cases e : r = k
            · subst e; omega
            · exact HA.out r (by omega)⟩
      · go_wp2
        go_ret
        exact ⟨⟨true, rfl, fun _ r hr => HA.out r (by omega)⟩, rfl⟩

/-- A pointer to a note is itself. -/
theorem neq_same (a : Addr) (w : World) : (binOp .neq 39 (.pointer (some a)) (.pointer (some a))).run Try.prog w = .ok (.bool false) w := by
  obtain ⟨i, hi, _⟩ := info_parts Try.info37
  exact Lib.run_neq_ptr_same w a Try.underlying39 hi

theorem far (a b o1 o2 : Nat) (h : a < b) : (⟨a, o1, none⟩ : Addr) ≠ ⟨b, o2, none⟩ := fun e => by
  have := congrArg Addr.block e
  simp at this
  omega

/-- The two values, just laid. -/
structure Two (w1 W : World) (pb : Nat) : Prop where
  bel : Below pb w1 W
  sz : W.heap.size = pb + 2
  ca : W.cell? ⟨pb, 0, none⟩ = some (.pointer none)
  cb : W.cell? ⟨pb + 1, 0, none⟩ = some (.pointer none)
  fa : W.frozen? ⟨pb, 0, none⟩ = false
  fb : W.frozen? ⟨pb + 1, 0, none⟩ = false

theorem two_of (w1 : World) : Two w1 ((w1.alloc (.cells #[.pointer none] 32)).alloc (.cells #[.pointer none] 32)) w1.heap.size := by
  have h1 : (w1.alloc (.cells #[.pointer none] 32)).heap.size = w1.heap.size + 1 := by simp
  have hb : ((w1.alloc (.cells #[.pointer none] 32)).alloc (.cells #[.pointer none] 32)).cell? ⟨w1.heap.size + 1, 0, none⟩ = some (.pointer none) := by
    have h := World.cell?_alloc_mark (w1.alloc (.cells #[.pointer none] 32)) #[.pointer none] 32 (0, 0) 0
    rw [h1] at h
    exact h
  refine ⟨((Below.refl _ _).alloc (Nat.le_refl _) _).alloc (by simp) _, by simp, by simp, hb, by simp, ?_⟩
  have hf : ∀ (w : World), (w.alloc (.cells #[.pointer none] 32)).frozen? ⟨w.heap.size, 0, none⟩ = false := fun w => by simp
  have h := hf (w1.alloc (.cells #[.pointer none] 32))
  rw [h1] at h
  exact h

set_option maxHeartbeats 2000000 in
set_option maxRecDepth 100000 in
theorem law5_any {w : World} {a0 a1 : Option Addr} {n0 c0 n1 c1 ob oo sb so : Nat} {O : Nat → Int} {S : Nat → ByteArray} (A : Args w a0 n0 a1 n1 ob oo sb so O S)
    (hn0 : n0 ≤ 9223372036854775807) (hn1 : n1 ≤ 9223372036854775807) (hS : ∀ j, j < n1 → (S j).size ≤ 9223372036854775807) :
    Calls Try.prog 5 #[.slice a0 n0 c0, .slice a1 n1 c1] w (LawPost w) := by
  go_enter Try.func5, Try.ntmps5
  go_wp2_with fail
  refine (bytes12_any A hn0 hn1 hS).mono ?_
  rintro e w' ⟨⟨b, rfl, hb⟩, rfl⟩
  cases b with
  | false =>
    go_wp2_with fail
    go_ret
    exact ⟨rfl, Below.refl _ _⟩
  | true =>
    have HS : Hid (∀ j, j < n1 → (S j).size ≤ 1048576) := hb rfl
    clear hb hS
    by_cases h0 : (n0 : Int) ≤ 131072
    rotate_left
    · go_wp2_with fail
      go_ret
      exact ⟨rfl, Below.refl _ _⟩
    by_cases h1 : (n1 : Int) ≤ 131072
    rotate_left
    · go_wp2_with fail
      go_ret
      exact ⟨rfl, Below.refl _ _⟩
    obtain ⟨y, hy⟩ : ∃ y : Nat, (8 * (n0 : Int) + 16 * (n1 : Int)) = (y : Int) := ⟨8 * n0 + 16 * n1, by omega⟩
    have hy0 : (y : Int) ≤ 3145728 := by omega
    by_cases ht : (y : Int) ≤ 1048576
    rotate_left
    · go_wp2_with fail
      go_ret
      exact ⟨rfl, Below.refl _ _⟩
    go_wp2_with fail
    clear hy
    go_loopg [5, 6] n1 (fun g q i wr => w = wr ∧ ∃ k z : Nat, k ≤ n1 ∧ g = n1 - k ∧ z ≤ 1048576 ∧ q = .int .i64 z ∧ i = .int .i64 k)
    case atStart => exact ⟨rfl, 0, y, by omega, rfl, by omega, rfl, rfl⟩
    case round =>
      obtain ⟨rfl, k, z, hk, rfl, hz, rfl, rfl⟩ := hrel
      by_cases hlt : k < n1
      · have ha := A.adr1 (by omega)
        subst ha
        have hrow := A.cell1 k hlt
        have hSk := HS.out k hlt
        go_wp2_with fail
        · go_ret
          exact ⟨rfl, Below.refl _ _⟩
        · go_roundg (n1 - (k + 1))
          case measure => omega
          case rel => exact ⟨rfl, k + 1, z + (S k).size, by omega, rfl, by omega, by go_num, by go_num⟩
      · by_cases hne : n0 = n1
        rotate_left
        · have hb : ((n0 : Int) != (n1 : Int)) = true := by simp; omega
          go_wp2_with fail
          go_ret
          exact ⟨rfl, Below.refl _ _⟩
        · subst hne
          have hb : ((n0 : Int) != (n0 : Int)) = false := by simp
          go_wp2_with fail
          refine (build_any A (by omega)).mono ?_
          rintro e w1 hB
          by_cases hp : 0 < n0
          · have hB2 : e = .returned (.slice (some ⟨w.heap.size, 0, none⟩) n0 n0) ∧ Below w.heap.size w w1 ∧ NoteRow w1 w.heap.size n0 O S := by
              rcases hB with ⟨h, _⟩ | ⟨_, h⟩
              · have := A.nil0 h; omega
              · exact h
            obtain ⟨rfl, hbel, hN⟩ := hB2
            clear hB
            have hx := A.adr0 hp
            have hx1 := A.adr1 hp
            subst hx hx1
            have hpb : w.heap.size < w1.heap.size := World.rowIs.lt hN
            have hW0 := two_of w1
            go_wp2_with fail
            generalize ((w1.alloc (.cells #[.pointer none] 32)).alloc (.cells #[.pointer none] 32)) = W0 at hW0 ⊢
            have hN0 : NoteRow W0 w.heap.size n0 O S := World.rowIs.of_block hN (hW0.bel.block _ hpb)
            have hbel0 : Below w.heap.size w W0 := hbel.trans (hW0.bel.mono (by omega))
            generalize hpbs : w1.heap.size = pb at hW0 hpb ⊢
            obtain ⟨_, sz0, ca, cb, fa, fb⟩ := hW0
            clear hN hbel hpbs
            refine (set_some pb _ n0 n0 W0 _ hp ca fa).mono ?_
            rintro e w2 ⟨rfl, hT, r1, r2⟩
            have hN2 := hT.row hN0 (by omega)
            have hbel2 := hT.below hbel0 (by omega) (by omega)
            have sz2 := hT.size
            have cb2 : w2.cell? ⟨pb + 1, 0, none⟩ = some (.pointer none) := (hT.cell (by show pb + 1 < W0.heap.size; omega) (by show pb + 1 ≠ pb; omega)).trans cb
            have fb2 : w2.frozen? ⟨pb + 1, 0, none⟩ = false := (hT.frozen (by show pb + 1 < W0.heap.size; omega) (by show pb + 1 ≠ pb; omega)).trans fb
            rw [sz0] at r1 r2 sz2
            clear hT hN0 hbel0 ca cb fa fb sz0
            go_wp2_with fail
            refine (set_some (pb + 1) _ n0 n0 w2 _ hp cb2 fb2).mono ?_
            rintro e w3 ⟨rfl, hT, s1, s2⟩
            have hN3 := hT.row hN2 (by omega)
            have hbel3 := hT.below hbel2 (by omega) (by omega)
            have r3 : w3.cell? ⟨pb, 0, none⟩ = some (.pointer (some ⟨pb + 2, 0, none⟩)) := (hT.cell (by show pb < w2.heap.size; omega) (by show pb ≠ pb + 1; omega)).trans r1
            have r4 : w3.cell? ⟨pb + 2, 0, none⟩ = some (.slice (some ⟨w.heap.size, 0, none⟩) n0 n0) := (hT.cell (by show pb + 2 < w2.heap.size; omega) (by show pb + 2 ≠ pb + 1; omega)).trans r2
            rw [sz2] at s1 s2
            have hbig : pb < w3.heap.size := by rw [hT.size]; omega
            clear hT hN2 hbel2 cb2 fb2 sz2 r1 r2
            have hz0 : ((n0 : Int) == 0) = false := by simp; omega
            go_wp2_with fail
            refine (get_some pb (pb + 2) _ _ _ _ r3 r4).mono ?_
            rintro e w' ⟨rfl, rfl⟩
            go_wp2_with fail
            refine (get_some (pb + 1) _ _ _ _ _ s1 s2).mono ?_
            rintro e w' ⟨rfl, rfl⟩
            have hp' : (0 : Int) < (n0 : Int) := by omega
            have hns := neq_same
            go_wp2_with fail
            go_quiet (fail)
            go_wp2_with fail
            have hbel4 := hbel3.trans ((belowN w3 nq).mono hbel3.size)
            have hN4 : NoteRow (w3.drewN nq) w.heap.size n0 O S := hN3
            have t3 : (w3.drewN nq).cell? ⟨pb, 0, none⟩ = some (.pointer (some ⟨pb + 2, 0, none⟩)) := r3
            have t4 : (w3.drewN nq).cell? ⟨pb + 2, 0, none⟩ = some (.slice (some ⟨w.heap.size, 0, none⟩) n0 n0) := r4
            generalize w3.drewN nq = w4 at hbel4 hN4 t3 t4 ⊢
            clear hns hbel3 hN3 s1 s2 r3 r4 hbig
            go_loopg [12] n0 (fun g i wr => ∃ k : Nat, k ≤ n0 ∧ g = n0 - k ∧ i = .int .i64 k ∧ Below w.heap.size w wr ∧ wr.cell? ⟨pb, 0, none⟩ = some (.pointer (some ⟨pb + 2, 0, none⟩)) ∧
              wr.cell? ⟨pb + 2, 0, none⟩ = some (.slice (some ⟨w.heap.size, 0, none⟩) n0 n0) ∧ ∃ O' S', NoteRow wr w.heap.size n0 O' S' ∧ ∀ j, j < k → O' j = bits .xor .i64 (O j) 1 ∧ S' j = S j ++ ⟨#[39]⟩)
            case atStart => exact ⟨0, Nat.zero_le _, rfl, rfl, hbel4, t3, t4, _, _, hN4, by omega⟩
            case round =>
              obtain ⟨j, hj, rfl, rfl, hb5, t3, t4, O', S', hN5, hall⟩ := hrel
              have HA : Hid (∀ x, x < j → O' x = bits .xor .i64 (O x) 1 ∧ S' x = S x ++ ⟨#[39]⟩) := hall
              clear hall
              by_cases hjl : j < n0
              · have hob : ob < w.heap.size := World.block_lt_of_cell? _ _ (A.cell0 j hjl)
                have hsb : sb < w.heap.size := World.block_lt_of_cell? _ _ (A.cell1 j hjl)
                have g0 : wr.cell? ⟨ob, oo + j, none⟩ = some (.int .i64 (O j)) := (hb5.cell (p := ⟨ob, oo + j, none⟩) hob).trans (A.cell0 j hjl)
                have g1 : wr.cell? ⟨sb, so + j, none⟩ = some (.string (S j)) := (hb5.cell (p := ⟨sb, so + j, none⟩) hsb).trans (A.cell1 j hjl)
                have g2 := hN5.off hjl
                have g3 := hN5.com hjl
                have g4 : wr.frozen? ⟨w.heap.size, j * 3, none⟩ = false := World.rowIs.frozen hN5 _
                have g5 : wr.frozen? ⟨w.heap.size, j * 3 + 2, none⟩ = false := World.rowIs.frozen hN5 _
                have hSj := HS.out j hjl
                have hadd : ∀ w, (Op.stringOp .add (S j) ⟨#[39]⟩).run Try.prog w = .ok (.string (S j ++ ⟨#[39]⟩)) w := fun w => run_string_add_sum w _ _ (by show (S j).size + 1 ≤ _; omega)
                go_wp2_with fail
                go_roundg (n0 - (j + 1))
                case measure => omega
                case rel => exact ⟨j + 1, by omega, rfl, by go_num, (hb5.setCell (Nat.le_refl _) _).setCell (Nat.le_refl _) _,
                  by rw [World.cell?_setCell_other _ _ _ _ (far _ _ _ _ hpb), World.cell?_setCell_other _ _ _ _ (far _ _ _ _ hpb)]; exact t3,
                  by rw [World.cell?_setCell_other _ _ _ _ (far _ _ _ _ (by omega)), World.cell?_setCell_other _ _ _ _ (far _ _ _ _ (by omega))]; exact t4,
                  _, _, (hN5.setOff j _).setCom j _, fun x hx => by
                    by_cases e : x = j
                    · subst e; simp [upd]
                    · have := HA.out x (by omega)
                      simp [upd, e, this]⟩
              · have hN6 : NoteRow wr w.heap.size n0 (fun x => bits .xor .i64 (O x) 1) (fun x => S x ++ ⟨#[39]⟩) := hN5.congr (fun x hx => (HA.out x (by omega)).1) (fun x hx => (HA.out x (by omega)).2)
                clear hN5 HA
                go_wp2_with fail
                refine (get_some pb (pb + 2) _ _ _ _ t3 t4).mono ?_
                rintro e w' ⟨rfl, rfl⟩
                clear t3 t4
                go_wp2_with fail
                go_loopg [13] n0 (fun g i wx => ∃ k m : Nat, wr.drewN m = wx ∧ k ≤ n0 ∧ g = n0 - k ∧ i = .int .i64 k)
                case atStart => exact ⟨0, 0, rfl, Nat.zero_le _, rfl, rfl⟩
                case round =>
                  obtain ⟨x, m, rfl, hx, rfl, rfl⟩ := hrel
                  by_cases hxl : x < n0
                  · have g0 : wr.cell? ⟨ob, oo + x, none⟩ = some (.int .i64 (O x)) := (hb5.cell (p := ⟨ob, oo + x, none⟩) (World.block_lt_of_cell? _ _ (A.cell0 x hxl))).trans (A.cell0 x hxl)
                    have g1 : wr.cell? ⟨sb, so + x, none⟩ = some (.string (S x)) := (hb5.cell (p := ⟨sb, so + x, none⟩) (World.block_lt_of_cell? _ _ (A.cell1 x hxl))).trans (A.cell1 x hxl)
                    have g2 := hN6.off hxl
                    have g3 := hN6.com hxl
                    have hSx := HS.out x hxl
                    have hadd : ∀ w, (Op.stringOp .add (S x) ⟨#[39]⟩).run Try.prog w = .ok (.string (S x ++ ⟨#[39]⟩)) w := fun w => run_string_add_sum w _ _ (by show (S x).size + 1 ≤ _; omega)
                    have b1 : (bits .xor .i64 (O x) 1 != bits .xor .i64 (O x) 1) = false := by simp
                    go_wp2_with fail
                    go_quiet (fail)
                    go_wp2_with fail
                    go_roundg (n0 - (x + 1))
                    case measure => omega
                    case rel => exact ⟨x + 1, _, rfl, by omega, rfl, by go_num⟩
                  · go_wp2_with fail
                    go_ret
                    exact ⟨rfl, hb5.trans ((belowN wr m).mono hb5.size)⟩
          · obtain ⟨x, rfl, hbel⟩ : ∃ x, e = .returned (.slice x 0 0) ∧ Below w.heap.size w w1 := by
              have hz : n0 = 0 := by omega
              subst hz
              rcases hB with ⟨_, h, h'⟩ | ⟨_, h, h', _⟩
              · exact ⟨_, h, by rw [← h']; exact Below.refl _ _⟩
              · exact ⟨_, h, h'⟩
            clear hB
            have hpb : w.heap.size ≤ w1.heap.size := hbel.size
            have hW0 := two_of w1
            go_wp2_with fail
            generalize ((w1.alloc (.cells #[.pointer none] 32)).alloc (.cells #[.pointer none] 32)) = W0 at hW0 ⊢
            have hbel0 : Below w.heap.size w W0 := hbel.trans (hW0.bel.mono (by omega))
            generalize hpbs : w1.heap.size = pb at hW0 hpb ⊢
            obtain ⟨_, sz0, ca, cb, fa, fb⟩ := hW0
            clear hbel hpbs
            refine (set_nil pb _ 0 W0 _ ca fa).mono ?_
            rintro e w2 ⟨rfl, hT, r1⟩
            have hbel2 := hT.below hbel0 (by omega) (by omega)
            have sz2 := hT.size
            have cb2 : w2.cell? ⟨pb + 1, 0, none⟩ = some (.pointer none) := (hT.cell (by show pb + 1 < W0.heap.size; omega) (by show pb + 1 ≠ pb; omega)).trans cb
            have fb2 : w2.frozen? ⟨pb + 1, 0, none⟩ = false := (hT.frozen (by show pb + 1 < W0.heap.size; omega) (by show pb + 1 ≠ pb; omega)).trans fb
            rw [sz0] at sz2
            clear hT hbel0 ca cb fa fb sz0
            go_wp2_with fail
            refine (set_nil (pb + 1) _ 0 w2 _ cb2 fb2).mono ?_
            rintro e w3 ⟨rfl, hT, s1⟩
            have hbel3 := hT.below hbel2 (by omega) (by omega)
            have r3 : w3.cell? ⟨pb, 0, none⟩ = some (.pointer none) := (hT.cell (by show pb < w2.heap.size; omega) (by show pb ≠ pb + 1; omega)).trans r1
            clear hT hbel2 cb2 fb2 sz2 r1
            go_wp2_with fail
            refine (get_nil pb _ r3).mono ?_
            rintro e w' ⟨rfl, rfl⟩
            go_wp2_with fail
            refine (get_nil (pb + 1) _ s1).mono ?_
            rintro e w' ⟨rfl, rfl⟩
            have hz0 : ((n0 : Int) == 0) = true := by simp; omega
            have hnil := fun (w : World) (a : Option Addr) (n c : Nat) => Lib.run_eql_slice_nil (P := Try.prog) w 28 37 a n c 0 0 Try.underlying28
            go_wp2_with fail
            go_ret
            exact ⟨rfl, hbel3⟩
end Go.Proofs.Qxb6615666a
