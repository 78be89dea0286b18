/-
  The walk over FnOwnersInsertOneStep itself.
-/
import Derived.Test.Qxb6615841aGreatSplit
namespace Go.Proofs.Qxb6615841aGreat
open Go.RowKit Go.Deep

/-! ### The plain law: what an inserted step does to the owners -/

/-- The recipes with nb laid in at place at; the cleanups with cc. -/
def putAt {α : Type} (f : Nat → α) (at_ : Nat) (x : α) (j : Nat) : α := if j < at_ then f j else if j = at_ then x else f (j - 1)

theorem own_put (R : Nat → Nat) (C : Nat → Int) (at_ n nb : Nat) (cc : Int) (h : at_ ≤ n) :
    own (putAt R at_ nb) (putAt C at_ cc) (n + 1) = own R C at_ ++ ((if cc = 0 then [] else [nb]) ++ own (fun j => R (at_ + j)) (fun j => C (at_ + j)) (n - at_)) := by
  rw [show n + 1 = at_ + (1 + (n - at_)) by omega, own_add, own_add]
  congr 1
  · exact own_congr (fun j hj => by simp [putAt, hj]) (fun j hj => by simp [putAt, hj])
  · congr 1
    · simp [own, putAt]
    · refine own_congr (fun j _ => ?_) (fun j _ => ?_)
      all_goals
        simp only [putAt]
        rw [if_neg (by omega), if_neg (by omega)]
        congr 1
        omega

/-! ### The steps that the law lays by append -/

/-- The cells of the first m steps. -/
def sl (R : Nat → Nat) : Nat → List Value
  | 0 => []
  | m + 1 => sl R m ++ [.pointer (some ⟨R m, 0, none⟩), .slice none 0 0]

theorem sl_length (R : Nat → Nat) (m : Nat) : (sl R m).length = m * 2 := by
  induction m with
  | zero => rfl
  | succ m ih => simp only [sl, List.length_append, ih, List.length_cons, List.length_nil]; omega

theorem sl_get {R : Nat → Nat} {m j : Nat} (h : j < m) : (sl R m)[j * 2]? = some (.pointer (some ⟨R j, 0, none⟩)) ∧ (sl R m)[j * 2 + 1]? = some (.slice none 0 0) := by
  induction m with
  | zero => omega
  | succ m ih =>
    simp only [sl]
    by_cases e : j = m
    · subst e
      rw [List.getElem?_append_right (by rw [sl_length]; omega), List.getElem?_append_right (by rw [sl_length]; omega), sl_length]
      simp
    · rw [List.getElem?_append_left (by rw [sl_length]; omega), List.getElem?_append_left (by rw [sl_length]; omega)]
      exact ih (by omega)

/-- A new plan over steps that lie in an older world. -/
theorem plan_gen {w3 w4 : World} {A m : Nat} {R : Nat → Nat} {K : Nat → Int} (hb : Below w3.heap.size w3 w4) (hp : ∀ j, j < m → w3.cell? ⟨A, j * 2, none⟩ = some (.pointer (some ⟨R j, 0, none⟩)))
    (hq : ∀ j, j < m → w3.cell? ⟨A, j * 2 + 1, none⟩ = some (.slice none 0 0)) (hK : ∀ j, j < m → w3.cell? ⟨R j, 12, none⟩ = some (.int .i64 (K j))) (cap : Nat) (hm : (m : Int) ≤ 65537) (L : List Nat) (hL : own R K m = L) :
    Calls Tryz.prog 8 #[.pointer (some ⟨w4.heap.size, 0, none⟩)] (w4.alloc (.cells #[.pointer none, .slice (some ⟨A, 0, none⟩) m cap, .slice none 0 0] 32)) (OwnedPost w4 L) := by
  subst hL
  have hold : ∀ (x : Addr) v, w3.cell? x = some v → (w4.alloc (.cells #[.pointer none, .slice (some ⟨A, 0, none⟩) m cap, .slice none 0 0] 32)).cell? x = some v := fun x v h => by
    have hx := World.block_lt_of_cell? _ _ h
    rw [World.cell?_alloc_lt _ _ _ (Nat.lt_of_lt_of_le hx hb.size), hb.cell hx]
    exact h
  refine (owners_any (pb := w4.heap.size) (a := some ⟨A, 0, none⟩) (n := m) (cap := cap) (M := A) (o := 0) (R := R) (K := K) ⟨by simp, fun _ => rfl, fun j hj => ?_, fun j hj => ?_, fun j hj => hold _ _ (hK j hj)⟩ hm).mono ?_
  · rw [Nat.zero_add]; exact hold _ _ (hp j hj)
  · rw [Nat.zero_add]; exact hold _ _ (hq j hj)
  · rintro e w' ⟨a', cap', g, he, hO, hb'⟩
    exact ⟨a', cap', g, he, hO, ((Below.refl _ _).alloc (Nat.le_refl _) _).trans (hb'.mono (by simp))⟩

/-! ### samePtrsRB1 at two slices of the same pointers -/

def SamePost (w : World) (e : Ending) (w' : World) : Prop := e = .returned (.bool true) ∧ ∃ m, w' = w.drewN m

set_option maxHeartbeats 800000 in
theorem same_any {w : World} {a b : Option Addr} {ca cb ga gb : Nat} {L : List Nat} (hA : Owned w a ga L) (hB : Owned w b gb L) (hl : (L.length : Int) ≤ 65537) :
    Calls Tryz.prog 11 #[.slice a L.length ca, .slice b L.length cb] w (SamePost w) := by
  have hbz : ((L.length : Int) != (L.length : Int)) = false := by simp
  have hns := neq_same
  go_enter Tryz.func11, Tryz.ntmps11
  go_wp2_with fail
  go_loopg [5] L.length (fun g i wx => ∃ k m : Nat, w.drewN m = wx ∧ k ≤ L.length ∧ g = L.length - k ∧ i = .int .i64 k)
  case atStart => exact ⟨0, 0, rfl, Nat.zero_le _, rfl, rfl⟩
  case round =>
    obtain ⟨k, m, rfl, hk, rfl, rfl⟩ := hrel
    by_cases hlt : k < L.length
    · have e1 := hA.adr (by omega)
      have e2 := hB.adr (by omega)
      subst e1 e2
      have hx1 := hA.cell k hlt
      have hx2 := hB.cell k hlt
      generalize L[k] = x at hx1 hx2
      go_wp2_with fail
      go_quiet (fail)
      go_wp2_with fail
      go_roundg (L.length - (k + 1))
      case measure => omega
      case rel => exact ⟨k + 1, _, rfl, by omega, rfl, by go_num⟩
    · go_wp2_with fail
      go_ret
      exact ⟨rfl, m, rfl⟩

/-- One step more behind the append. -/
theorem sl_next {w : World} {A n k x : Nat} {R : Nat → Nat} (hx : R k = x) (h : w.ownsRow A 46 2 (.slice (some ⟨A, 0, none⟩) (k + 1) (n + 1)) (k + 1) (sl R k ++ [.pointer (some ⟨x, 0, none⟩), .slice none 0 0])) :
    w.ownsRow A 46 2 (.slice (some ⟨A, 0, none⟩) (k + 1) (n + 1)) (k + 1) (sl R (k + 1)) := by
  simp only [sl, hx]
  exact h

theorem two_new (w : World) (x y : Value) (t : TypeId) : ∀ j u, [x, y][j]? = some u → (w.alloc (.cells #[x, y] t)).cell? ((⟨w.heap.size, 0, none⟩ : Addr).add j) = some u := by
  intro j u hj
  match j, hj with
  | 0, hj => simp at hj; subst hj; simp [Addr.add]
  | 1, hj => simp at hj; subst hj; simp [Addr.add]

theorem grown_own {A : Nat} {w2 wr w' : World} {o : Obj} (hA : w2.heap.size = A) (hb : Below A w2 wr) (hg : (wr.alloc o).grownBy w' (some A)) : Below A w2 w' :=
  (hb.alloc (by rw [← hA]; exact hb.size) o).grown hg (by simp; have := hb.size; omega) (fun k hk => by cases hk; exact Nat.le_refl _)

set_option maxHeartbeats 4000000 in
set_option maxRecDepth 100000 in
theorem law4_any {w : World} {a0 : Option Addr} {n c0 cb co : Nat} {C : Nat → Int} (G : Came w a0 n cb co C) (a1 a2 : Int) (hn : n ≤ 9223372036854775807) :
    Calls Tryz.prog 4 #[.slice a0 n c0, .int .i64 a1, .int .i64 a2] w (LawPost w) := by
  go_enter Tryz.func4, Tryz.ntmps4
  go_wp2_with fail
  refine (bytes10_any a0 n c0 a1 a2 w hn).mono ?_
  rintro e w' ⟨⟨b, rfl⟩, rfl⟩
  cases b with
  | false =>
    go_wp2_with fail
    go_ret
    exact ⟨rfl, Below.refl _ _⟩
  | true =>
    clear hn
    by_cases h0 : (n : Int) ≤ 65536
    rotate_left
    · go_wp2_with fail
      go_ret
      exact ⟨rfl, Below.refl _ _⟩
    by_cases h1 : 0 ≤ a1
    rotate_left
    · go_wp2_with fail
      go_ret
      exact ⟨rfl, Below.refl _ _⟩
    by_cases h2 : a1 ≤ (n : Int)
    rotate_left
    · go_wp2_with fail
      go_ret
      exact ⟨rfl, Below.refl _ _⟩
    obtain ⟨t, rfl⟩ : ∃ t : Nat, a1 = (t : Int) := ⟨a1.toNat, by omega⟩
    have htn : t ≤ n := by omega
    go_wp2_with fail
    refine (recipes_any G (by omega)).mono ?_
    rintro e w1 ⟨rfl, hR⟩
    go_wp2_with fail
    have hrow1 : ∀ o i, i < n → (w1.alloc o).cell? ⟨w.heap.size, i, none⟩ = some (.pointer (some ⟨w.heap.size + 1 + i, 0, none⟩)) := fun o i hi => by
      rw [World.cell?_alloc_lt _ _ _ hR.row.lt]
      simpa [hi] using hR.row.cell hi
    have hcln1 : ∀ o i, i < n → (w1.alloc o).cell? ⟨w.heap.size + 1 + i, 12, none⟩ = some (.int .i64 (C i)) := fun o i hi => by
      rw [World.cell?_alloc_lt _ _ _ (World.block_lt_of_cell? _ _ (hR.cln i hi))]
      exact hR.cln i hi
    refine (steps_any (R := fun i => w.heap.size + 1 + i) (hrow1 _) (by omega)).mono ?_
    rintro e w2 ⟨rfl, hb2, hS⟩
    have hnb2 : w2.cell? ⟨w1.heap.size, 12, none⟩ = some (.int .i64 a2) := (hb2.cell (p := ⟨w1.heap.size, 12, none⟩) (by simp)).trans (by simp)
    have hK : ∀ j, j < n → w2.cell? ⟨w.heap.size + 1 + j, 12, none⟩ = some (.int .i64 (C j)) := fun j hj => (hb2.cell (p := ⟨w.heap.size + 1 + j, 12, none⟩) (World.block_lt_of_cell? _ _ (hcln1 _ j hj))).trans (hcln1 _ j hj)
    have hrow2 : ∀ i, i < n → w2.cell? ⟨w.heap.size, i, none⟩ = some (.pointer (some ⟨w.heap.size + 1 + i, 0, none⟩)) := fun i hi => (hb2.cell (p := ⟨w.heap.size, i, none⟩) (World.block_lt_of_cell? _ _ (hrow1 _ i hi))).trans (hrow1 _ i hi)
    have hbw2 : Below w.heap.size w w2 := (hR.bel.alloc hR.bel.size _).trans (hb2.mono (by simp; have := hR.bel.size; omega))
    have hsz1 : w.heap.size + 1 + n = w1.heap.size := hR.size.symm
    simp only [World.size_alloc] at hS ⊢
    clear hb2 hrow1 hcln1 hR
    generalize w1.heap.size = nb at hS hnb2 hsz1 ⊢
    obtain ⟨i0, hi, hz0, hz1, hz2⟩ := info_parts Tryz.info46
    have hA : w2.heap.size = w2.heap.size := rfl
    go_wp2_with (at_make; refine wpList_make_own _ rfl (.const (.int .i64 0)) (.tmp 46) 26 rfl w2.heap.size 46 i0 _ 2 Tryz.underlying26 hi hz0 hz1 .i64 .i64 _ (n + 1) rfl rfl (by omega) ?m2 ?m3 (Nat.le_refl _) ?_)
    case m2 => first | omega | (rw [hz2]; omega)
    case m3 => unfold maxLen; omega
    intro w3 hown hgrow
    have hb3 : Below w2.heap.size w2 w3 := (Below.refl _ _).grown hgrow (Nat.le_refl _) (fun k hk => by cases hk)
    obtain ⟨A, hA⟩ : ∃ A, A = w2.heap.size := ⟨_, rfl⟩
    rw [← hA] at hown hb3 ⊢
    have HA : Hid (A = w2.heap.size) := hA
    have hbig : w.heap.size ≤ A := by rw [hA]; exact hbw2.size
    clear hA hgrow hz0
    go_wp2_with fail
    go_loopg [10, 11] t (fun g v i wr => ∃ k : Nat, k ≤ t ∧ g = t - k ∧ i = .int .i64 k ∧ v = .slice (some ⟨A, 0, none⟩) k (n + 1) ∧ wr.ownsRow A 46 2 (.slice (some ⟨A, 0, none⟩) k (n + 1)) k (sl (putAt (fun i => w.heap.size + 1 + i) t nb) k) ∧ Below A w2 wr)
    case atStart => exact ⟨0, Nat.zero_le _, rfl, rfl, rfl, hown, hb3⟩
    case round =>
      obtain ⟨k, hk, rfl, rfl, rfl, hown, hb⟩ := hrel
      clear hb3
      by_cases hlt : k < t
      · have g0 : wr.cell? ⟨w.heap.size, k, none⟩ = some (.pointer (some ⟨w.heap.size + 1 + k, 0, none⟩)) := (hb.cell (p := ⟨w.heap.size, k, none⟩) (by rw [HA.out]; exact World.block_lt_of_cell? _ _ (hrow2 k (by omega)))).trans (hrow2 k (by omega))
        have hkn : (k : Int) < (n : Int) := by omega
        go_wp2_with (at_builtin; refine wpList_append_fits _ rfl (.tmp 53) (.tmp 59) 26 rfl A 46 i0 2 Tryz.underlying26 hi hz1 A k (n + 1) _ rfl (hown.alloc _) ⟨wr.heap.size, 0, none⟩ 1 1 [.pointer (some ⟨w.heap.size + 1 + k, 0, none⟩), .slice none 0 0] rfl rfl ?c1 ?c2 ?c3 ?_)
        case c1 => exact two_new _ _ _ _
        case c2 => intro u hu; simp at hu; rcases hu with rfl | rfl <;> rfl
        case c3 => omega
        intro w5 hown5 hg5
        have hb5 := grown_own HA.out.symm hb hg5
        have hown6 := sl_next (R := putAt (fun i => w.heap.size + 1 + i) t nb) (by simp [putAt, hlt]) hown5
        clear hown hown5 hg5 hb g0
        go_wp2_with fail
        go_roundg (t - (k + 1))
        case measure => omega
        case rel => exact ⟨k + 1, by omega, rfl, by go_num, rfl, hown6, hb5⟩
      · have ek : t = k := by omega
        subst ek
        go_wp2_with (at_builtin; refine wpList_append_fits _ rfl (.tmp 61) (.tmp 64) 26 rfl A 46 i0 2 Tryz.underlying26 hi hz1 A t (n + 1) _ rfl (hown.alloc _) ⟨wr.heap.size, 0, none⟩ 1 1 [.pointer (some ⟨nb, 0, none⟩), .slice none 0 0] rfl rfl ?d1 ?d2 ?d3 ?_)
        case d1 => exact two_new _ _ _ _
        case d2 => intro u hu; simp at hu; rcases hu with rfl | rfl <;> rfl
        case d3 => omega
        intro w5 hown5 hg5
        have hb5 := grown_own HA.out.symm hb hg5
        have hown6 := sl_next (R := putAt (fun i => w.heap.size + 1 + i) t nb) (by simp [putAt]) hown5
        clear hown hown5 hg5 hb
        go_wp2_with fail
        go_loopg [10, 12] (n - t) (fun g v i wr => ∃ k : Nat, t ≤ k ∧ k ≤ n ∧ g = n - k ∧ i = .int .i64 k ∧ v = .slice (some ⟨A, 0, none⟩) (k + 1) (n + 1) ∧ wr.ownsRow A 46 2 (.slice (some ⟨A, 0, none⟩) (k + 1) (n + 1)) (k + 1) (sl (putAt (fun i => w.heap.size + 1 + i) t nb) (k + 1)) ∧ Below A w2 wr)
        case atStart => exact ⟨t, Nat.le_refl _, htn, rfl, rfl, rfl, hown6, hb5⟩
        case round =>
          obtain ⟨k, hk0, hk, rfl, rfl, rfl, hown, hb⟩ := hrel
          clear hown6 hb5
          by_cases hlt2 : k < n
          · have g0 : wr.cell? ⟨w.heap.size, k, none⟩ = some (.pointer (some ⟨w.heap.size + 1 + k, 0, none⟩)) := (hb.cell (p := ⟨w.heap.size, k, none⟩) (by rw [HA.out]; exact World.block_lt_of_cell? _ _ (hrow2 k hlt2))).trans (hrow2 k hlt2)
            go_wp2_with (at_builtin; refine wpList_append_fits _ rfl (.tmp 73) (.tmp 79) 26 rfl A 46 i0 2 Tryz.underlying26 hi hz1 A (k + 1) (n + 1) _ rfl (hown.alloc _) ⟨wr.heap.size, 0, none⟩ 1 1 [.pointer (some ⟨w.heap.size + 1 + k, 0, none⟩), .slice none 0 0] rfl rfl ?e1 ?e2 ?e3 ?_)
            case e1 => exact two_new _ _ _ _
            case e2 => intro u hu; simp at hu; rcases hu with rfl | rfl <;> rfl
            case e3 => omega
            intro w5 hown5 hg5
            have hb5 := grown_own HA.out.symm hb hg5
            have hown6 := sl_next (R := putAt (fun i => w.heap.size + 1 + i) t nb) (by simp only [putAt]; rw [if_neg (by omega), if_neg (by omega)]; rfl) hown5
            clear hown hown5 hg5 hb g0
            go_wp2_with fail
            go_roundg (n - (k + 1))
            case measure => omega
            case rel => exact ⟨k + 1, by omega, by omega, rfl, by go_num, rfl, hown6, hb5⟩
          · have ek : n = k := by omega
            subst ek
            have hbW : Below w2.heap.size w2 wr := by rw [← HA.out]; exact hb
            have hp : ∀ j, j < n + 1 → wr.cell? ⟨A, j * 2, none⟩ = some (.pointer (some ⟨putAt (fun i => w.heap.size + 1 + i) t nb j, 0, none⟩)) := fun j hj => by rw [hown.cellAt (j * 2) (by omega)]; exact (sl_get hj).1
            have hq : ∀ j, j < n + 1 → wr.cell? ⟨A, j * 2 + 1, none⟩ = some (.slice none 0 0) := fun j hj => by rw [hown.cellAt (j * 2 + 1) (by omega)]; exact (sl_get hj).2
            have hKW : ∀ j, j < n → wr.cell? ⟨w.heap.size + 1 + j, 12, none⟩ = some (.int .i64 (C j)) := fun j hj => (hbW.cell (p := ⟨w.heap.size + 1 + j, 12, none⟩) (World.block_lt_of_cell? _ _ (hK j hj))).trans (hK j hj)
            have hnW : wr.cell? ⟨nb, 12, none⟩ = some (.int .i64 a2) := (hbW.cell (p := ⟨nb, 12, none⟩) (World.block_lt_of_cell? _ _ hnb2)).trans hnb2
            have hKP : ∀ j, j < n + 1 → wr.cell? ⟨putAt (fun i => w.heap.size + 1 + i) t nb j, 12, none⟩ = some (.int .i64 (putAt C t a2 j)) := fun j hj => by
              simp only [putAt]
              by_cases c1 : j < t
              · rw [if_pos c1, if_pos c1]; exact hKW j (by omega)
              · rw [if_neg c1, if_neg c1]
                by_cases c2 : j = t
                · rw [if_pos c2, if_pos c2]; exact hnW
                · rw [if_neg c2, if_neg c2]; exact hKW (j - 1) (by omega)
            obtain ⟨L1, H1⟩ : ∃ L, Hid (own (fun i => w.heap.size + 1 + i) C t = L) := ⟨_, rfl⟩
            obtain ⟨L2, H2⟩ : ∃ L, Hid (own (fun j => w.heap.size + 1 + (t + j)) (fun j => C (t + j)) (n - t) = L) := ⟨_, rfl⟩
            obtain ⟨Lb, HB⟩ : ∃ L, Hid (own (fun i => w.heap.size + 1 + i) C n = L) := ⟨_, rfl⟩
            obtain ⟨La, HLa⟩ : ∃ L, Hid (own (putAt (fun i => w.heap.size + 1 + i) t nb) (putAt C t a2) (n + 1) = L) := ⟨_, rfl⟩
            have EB : Hid (Lb = L1 ++ L2) := show Lb = L1 ++ L2 by
              rw [← HB.out, ← H1.out, ← H2.out, ← own_add (fun i => w.heap.size + 1 + i) C t (n - t), show t + (n - t) = n by omega]
            have EA : Hid (La = L1 ++ ((if a2 = 0 then [] else [nb]) ++ L2)) := show La = L1 ++ ((if a2 = 0 then [] else [nb]) ++ L2) by
              rw [← HLa.out, own_put _ _ _ _ _ _ htn, H1.out, H2.out]
            have N1 : Hid (L1.length = cnt C t) := show L1.length = cnt C t by rw [← H1.out, own_length]
            have NB : Hid (Lb.length = cnt C n) := show Lb.length = cnt C n by rw [← HB.out, own_length]
            clear hown hi hz1 hz2 hnW hKW
            go_wp2_with fail
            refine (plan_call (k := n) (R := fun i => w.heap.size + 1 + i) hbW hS hK 0 (by omega) _ _ (fun _ => by rw [Nat.zero_mul]) (by omega) Lb (by rw [← HB.out]; exact own_congr (fun j _ => by simp) (fun j _ => by simp))).mono ?_
            rintro e w4 ⟨ab, capb, gb, rfl, hOb, hb4⟩
            go_wp2_with fail
            refine (plan_gen hb4 hp hq hKP _ (by omega) La HLa.out).mono ?_
            rintro e w6 ⟨aa, capa, ga, rfl, hOa, hb6⟩
            have hOb6 := hOb.below hb6 (Nat.le_refl _)
            have hbw6 : Below w.heap.size w w6 := ((hbw2.trans (hbW.mono hbw2.size)).trans (hb4.mono (Nat.le_trans hbw2.size hbW.size))).trans (hb6.mono (Nat.le_trans hbw2.size (Nat.le_trans hbW.size hb4.size)))
            have G6 : Came w6 a0 n cb co C := G.below hbw6 (Nat.le_refl _)
            clear hOb hb4 hb6 hp hq hKP hbW hb hS hK hrow2 hnb2
            have hlb : (Lb.length : Int) ≤ 65536 := by have := cnt_le C n; have := NB.out; omega
            have hbc : ((Lb.length : Int) != (cnt C n : Int)) = false := by rw [NB.out]; simp
            go_wp2_with fail
            refine (count_any G6 n (Nat.le_refl _) (by omega)).mono ?_
            rintro e w' ⟨rfl, rfl⟩
            by_cases hz : a2 = 0
            · have hzb : (a2 == 0) = true := by simp [hz]
              have hEq : La = Lb := by rw [EA.out, EB.out, if_pos hz]; rfl
              subst hEq
              clear hz
              go_wp2_with fail
              refine (same_any hOa hOb6 (by omega)).mono ?_
              rintro e w' ⟨rfl, m, rfl⟩
              go_wp2_with fail
              go_ret
              exact ⟨rfl, hbw6.trans ((belowN w6 m).mono hbw6.size)⟩
            · have hzb : (a2 == 0) = false := by simp [hz]
              have EA2 : Hid (La = L1 ++ (nb :: L2)) := show La = L1 ++ (nb :: L2) by rw [EA.out, if_neg hz]; rfl
              have lenA : La.length = L1.length + (L2.length + 1) := by rw [EA2.out]; simp
              have lenB : Lb.length = L1.length + L2.length := by rw [EB.out]; simp
              have hk1 : (cnt C t : Int) ≤ (Lb.length : Int) := by have := N1.out; omega
              have hla : (La.length : Int) ≤ 65537 := by omega
              have hbn : ((La.length : Int) != (Lb.length : Int) + 1) = false := by simp; omega
              have HA2 : Hid (La.length = Lb.length + 1) := show La.length = Lb.length + 1 by omega
              clear hz lenA lenB
              go_wp2_with fail
              refine (count_any G6 t htn (by omega)).mono ?_
              rintro e w' ⟨rfl, rfl⟩
              go_wp2_with fail
              clear hbn hbc
              have hns := neq_same
              go_loopg [16] (cnt C t) (fun g i wx => ∃ k m : Nat, w6.drewN m = wx ∧ k ≤ cnt C t ∧ g = cnt C t - k ∧ i = .int .i64 k)
              case atStart => exact ⟨0, 0, rfl, Nat.zero_le _, rfl, rfl⟩
              case round =>
                obtain ⟨k, m, rfl, hk, rfl, rfl⟩ := hrel
                by_cases hltk : k < cnt C t
                · have e1 := hOa.adr (by have := HA2.out; omega)
                  have e2 := hOb6.adr (by omega)
                  subst e1 e2
                  have hkb : k < Lb.length := by omega
                  have hka : k < La.length := by have := HA2.out; omega
                  have hk1' : k < L1.length := by have := N1.out; omega
                  obtain ⟨x, hx1, hx2⟩ : ∃ x : Nat, w6.cell? ⟨ga, k, none⟩ = some (.pointer (some ⟨x, 0, none⟩)) ∧ w6.cell? ⟨gb, k, none⟩ = some (.pointer (some ⟨x, 0, none⟩)) :=
                    ⟨L1[k], by rw [hOa.cell k hka]; congr 4; simp only [EA2.out, List.getElem_append_left hk1'], by rw [hOb6.cell k hkb]; congr 4; simp only [EB.out, List.getElem_append_left hk1']⟩
                  have hka' : (k : Int) < (La.length : Int) := by omega
                  have hkb' : (k : Int) < (Lb.length : Int) := by omega
                  go_wp2_with fail
                  go_quiet (fail)
                  go_wp2_with fail
                  go_roundg (cnt C t - (k + 1))
                  case measure => omega
                  case rel => exact ⟨k + 1, _, rfl, by omega, rfl, by go_num⟩
                · have e1 := hOa.adr (by have := HA2.out; omega)
                  subst e1
                  have hka : cnt C t < La.length := by have := HA2.out; omega
                  have hka' : (cnt C t : Int) < (La.length : Int) := by omega
                  have hxn : w6.cell? ⟨ga, cnt C t, none⟩ = some (.pointer (some ⟨nb, 0, none⟩)) := by
                    rw [hOa.cell _ hka]
                    congr 4
                    simp only [EA2.out]
                    rw [List.getElem_append_right (by rw [N1.out]; exact Nat.le_refl _)]
                    simp [N1.out]
                  go_wp2_with fail
                  clear hxn
                  go_loopg [17] (Lb.length - cnt C t) (fun g i wx => ∃ k m : Nat, w6.drewN m = wx ∧ cnt C t ≤ k ∧ k ≤ Lb.length ∧ g = Lb.length - k ∧ i = .int .i64 k)
                  case atStart => exact ⟨cnt C t, m, rfl, Nat.le_refl _, by omega, rfl, rfl⟩
                  case round =>
                    obtain ⟨k2, m2, rfl, hk20, hk2, rfl, rfl⟩ := hrel
                    by_cases hlt4 : k2 < Lb.length
                    · have e2 := hOb6.adr (by omega)
                      subst e2
                      have hkb : k2 + 1 < La.length := by have := HA2.out; omega
                      have hle : L1.length ≤ k2 := by have := N1.out; omega
                      obtain ⟨x, hx1, hx2⟩ : ∃ x : Nat, w6.cell? ⟨ga, k2 + 1, none⟩ = some (.pointer (some ⟨x, 0, none⟩)) ∧ w6.cell? ⟨gb, k2, none⟩ = some (.pointer (some ⟨x, 0, none⟩)) :=
                        ⟨Lb[k2], by
                          rw [hOa.cell _ hkb]
                          congr 4
                          simp only [EA2.out, EB.out]
                          rw [List.getElem_append_right (by omega), List.getElem_append_right hle]
                          simp only [show k2 + 1 - L1.length = (k2 - L1.length) + 1 by omega, List.getElem_cons_succ], hOb6.cell k2 hlt4⟩
                      have hkb' : (k2 : Int) + 1 < (La.length : Int) := by omega
                      go_wp2_with fail
                      go_quiet (fail)
                      go_wp2_with fail
                      go_roundg (Lb.length - (k2 + 1))
                      case measure => omega
                      case rel => exact ⟨k2 + 1, _, rfl, by omega, by omega, rfl, by go_num⟩
                    · go_wp2_with fail
                      go_ret
                      exact ⟨rfl, hbw6.trans ((belowN w6 m2).mono hbw6.size)⟩
end Go.Proofs.Qxb6615841aGreat
