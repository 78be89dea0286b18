/-
  The walk over FnOwnersSplitsAtAnyCut itself.
-/
import Derived.Test.Qxb6615841aGreatOwners
namespace Go.Proofs.Qxb6615841aGreat
open Go.RowKit Go.Deep

/-- What a law answers. -/
def LawPost (w : World) (e : Ending) (w' : World) : Prop := e = .returned (.bool true) ∧ Below w.heap.size w w'

theorem belowN (w : World) (n : Nat) : Below w.heap.size w (w.drewN n) := ⟨rfl, rfl, rfl, Nat.le_refl _, fun _ _ => rfl⟩

theorem Came.below {w w' : World} {B : Nat} {a0 : Option Addr} {n cb co : Nat} {C : Nat → Int} (G : Came w a0 n cb co C) (hb : Below B w w') (hB : w.heap.size ≤ B) : Came w' a0 n cb co C :=
  ⟨G.adr, fun j hj => (hb.cell (p := ⟨cb, co + j, none⟩) (Nat.lt_of_lt_of_le (World.block_lt_of_cell? _ _ (G.cell j hj)) hB)).trans (G.cell j hj)⟩

theorem Came.drewN {w : World} {a0 : Option Addr} {n cb co : Nat} {C : Nat → Int} (G : Came w a0 n cb co C) (m : Nat) : Came (w.drewN m) a0 n cb co C := ⟨G.adr, G.cell⟩

/-- A new plan over steps that lie in an older world. -/
theorem plan_of {w2 w3 : World} {M n k : Nat} {R : Nat → Nat} {K : Nat → Int} (hb : Below w2.heap.size w2 w3) (hS : StepRow w2 M n n R) (hK : ∀ j, j < n → w2.cell? ⟨R j, 12, none⟩ = some (.int .i64 (K j)))
    (lo : Nat) (hlo : lo + k ≤ n) (a : Option Addr) (cap : Nat) (ha : 0 < k → a = some ⟨M, lo * 2, none⟩) :
    Steps (w3.alloc (.cells #[.pointer none, .slice a k cap, .slice none 0 0] 32)) w3.heap.size a k cap M (lo * 2) (fun j => R (lo + j)) (fun j => K (lo + j)) := by
  have hold : ∀ (x : Addr) v, w2.cell? x = some v → (w3.alloc (.cells #[.pointer none, .slice a k cap, .slice none 0 0] 32)).cell? x = some v := fun x v h => by
    have hx := World.block_lt_of_cell? _ _ h
    rw [World.cell?_alloc_lt _ _ _ (Nat.lt_of_lt_of_le hx hb.size), hb.cell hx]
    exact h
  refine ⟨by simp, ha, fun j hj => ?_, fun j hj => ?_, fun j hj => hold _ _ (hK (lo + j) (by omega))⟩
  · rw [show lo * 2 + j * 2 = (lo + j) * 2 by omega]
    exact hold _ _ (hS.ptr (by omega) (Nat.le_refl _))
  · rw [show lo * 2 + j * 2 + 1 = (lo + j) * 2 + 1 by omega]
    exact hold _ _ (hS.arg (by omega))

theorem plan_call {w2 w3 : World} {M n k : Nat} {R : Nat → Nat} {K : Nat → Int} (hb : Below w2.heap.size w2 w3) (hS : StepRow w2 M n n R) (hK : ∀ j, j < n → w2.cell? ⟨R j, 12, none⟩ = some (.int .i64 (K j)))
    (lo : Nat) (hlo : lo + k ≤ n) (a : Option Addr) (cap : Nat) (ha : 0 < k → a = some ⟨M, lo * 2, none⟩) (hn : (n : Int) ≤ 65537) (L : List Nat) (hL : own (fun j => R (lo + j)) (fun j => K (lo + j)) k = L) :
    Calls Tryz.prog 8 #[.pointer (some ⟨w3.heap.size, 0, none⟩)] (w3.alloc (.cells #[.pointer none, .slice a k cap, .slice none 0 0] 32)) (OwnedPost w3 L) := by
  subst hL
  refine (owners_any (plan_of hb hS hK lo hlo a cap ha) (by omega)).mono ?_
  rintro e w' ⟨a', cap', g, he, hO, hb'⟩
  exact ⟨a', cap', g, he, hO, ((Below.refl _ _).alloc (Nat.le_refl _) _).trans (hb'.mono (by simp))⟩

set_option maxHeartbeats 2000000 in
set_option maxRecDepth 100000 in
theorem law3_any {w : World} {a0 : Option Addr} {n c0 cb co : Nat} {C : Nat → Int} (G : Came w a0 n cb co C) (a1 : Int) (hn : n ≤ 9223372036854775807) :
    Calls Tryz.prog 3 #[.slice a0 n c0, .int .i64 a1] w (LawPost w) := by
  go_enter Tryz.func3, Tryz.ntmps3
  go_wp2_with fail
  refine (bytes5_any a0 n c0 a1 w hn).mono ?_
  rintro e w' ⟨⟨b, rfl⟩, rfl⟩
  cases b with
  | false =>
    go_wp2_with fail
    go_ret
    exact ⟨rfl, Below.refl _ _⟩
  | true =>
    clear hn
    by_cases h0 : (n : Int) ≤ 65536
    rotate_left
    · go_wp2_with fail
      go_ret
      exact ⟨rfl, Below.refl _ _⟩
    by_cases h1 : 0 ≤ a1
    rotate_left
    · go_wp2_with fail
      go_ret
      exact ⟨rfl, Below.refl _ _⟩
    by_cases h2 : a1 ≤ (n : Int)
    rotate_left
    · go_wp2_with fail
      go_ret
      exact ⟨rfl, Below.refl _ _⟩
    obtain ⟨c, rfl⟩ : ∃ c : Nat, a1 = (c : Int) := ⟨a1.toNat, by omega⟩
    have hcn : c ≤ n := by omega
    go_wp2_with fail
    refine (recipes_any G (by omega)).mono ?_
    rintro e w1 ⟨rfl, hR⟩
    have hrow : ∀ i, i < n → w1.cell? ⟨w.heap.size, i, none⟩ = some (.pointer (some ⟨w.heap.size + 1 + i, 0, none⟩)) := fun i hi => by simpa [hi] using hR.row.cell hi
    go_wp2_with fail
    refine (steps_any (R := fun i => w.heap.size + 1 + i) hrow (by omega)).mono ?_
    rintro e w2 ⟨rfl, hb2, hS⟩
    have hK : ∀ j, j < n → w2.cell? ⟨w.heap.size + 1 + j, 12, none⟩ = some (.int .i64 (C j)) := fun j hj => (hb2.cell (p := ⟨w.heap.size + 1 + j, 12, none⟩) (by show w.heap.size + 1 + j < _; rw [hR.size]; omega)).trans (hR.cln j hj)
    have hrow2 : ∀ i, i < n → w2.cell? ⟨w.heap.size, i, none⟩ = some (.pointer (some ⟨w.heap.size + 1 + i, 0, none⟩)) := fun i hi => (hb2.cell (p := ⟨w.heap.size, i, none⟩) hR.row.lt).trans (hrow i hi)
    have hnum2 : ∀ j, j < n → w2.cell? ⟨w.heap.size + 1 + j, 0, none⟩ = some (.int .i64 ((j : Int) + 1)) := fun j hj => (hb2.cell (p := ⟨w.heap.size + 1 + j, 0, none⟩) (by show w.heap.size + 1 + j < _; rw [hR.size]; omega)).trans (hR.num j hj)
    have hbw2 : Below w.heap.size w w2 := hR.bel.trans (hb2.mono (by rw [hR.size]; omega))
    generalize w1.heap.size = M at hS ⊢
    clear hrow hR hb2
    go_wp2_with fail
    obtain ⟨Lg, HG⟩ : ∃ L, Hid (own (fun i => w.heap.size + 1 + i) C n = L) := ⟨_, rfl⟩
    obtain ⟨Ll, HL⟩ : ∃ L, Hid (own (fun i => w.heap.size + 1 + i) C c = L) := ⟨_, rfl⟩
    obtain ⟨Lr, HR⟩ : ∃ L, Hid (own (fun j => w.heap.size + 1 + (c + j)) (fun j => C (c + j)) (n - c) = L) := ⟨_, rfl⟩
    have HA : Hid (Lg = Ll ++ Lr) := show Lg = Ll ++ Lr by
      rw [← HG.out, ← HL.out, ← HR.out, ← own_add (fun i => w.heap.size + 1 + i) C c (n - c), show c + (n - c) = n by omega]
    have HC : Hid (Lg.length = cnt C n) := show Lg.length = cnt C n by rw [← HG.out, own_length]
    refine (plan_call (k := n) (R := fun i => w.heap.size + 1 + i) (Below.refl _ w2) hS hK 0 (by omega) _ _ (fun _ => by rw [Nat.zero_mul]) (by omega) Lg (by rw [← HG.out]; exact own_congr (fun j _ => by simp) (fun j _ => by simp))).mono ?_
    rintro e w3 ⟨ag, capg, gg, rfl, hOg, hb3⟩
    have hcn' : (c : Int) ≤ (n : Int) := by omega
    go_wp2_with fail
    refine (plan_call (k := c) (R := fun i => w.heap.size + 1 + i) hb3 hS hK 0 (by omega) _ _ (fun _ => by rw [Nat.zero_mul]) (by omega) Ll (by rw [← HL.out]; exact own_congr (fun j _ => by simp) (fun j _ => by simp))).mono ?_
    rintro e w4 ⟨al, capl, gl, rfl, hOl, hb4⟩
    have hOg4 := hOg.below hb4 (Nat.le_refl _)
    have hb24 : Below w2.heap.size w2 w4 := hb3.trans (hb4.mono hb3.size)
    clear hOg hb3 hb4
    have hOl4 := hOl
    clear hOl
    by_cases hclt : c < n
    · go_wp2_with fail
      refine (plan_call (k := n - c) (R := fun i => w.heap.size + 1 + i) hb24 hS hK c (by omega) _ _ (fun _ => rfl) (by omega) Lr HR.out).mono ?_
      rintro e w5 ⟨ar, capr, gr, rfl, hOr, hb5⟩
      have hOg := hOg4.below hb5 (Nat.le_refl _)
      have hOl := hOl4.below hb5 (Nat.le_refl _)
      have hb25 : Below w2.heap.size w2 w5 := hb24.trans (hb5.mono hb24.size)
      have hbw5 : Below w.heap.size w w5 := hbw2.trans (hb25.mono hbw2.size)
      have G5 : Came w5 a0 n cb co C := G.below hbw5 (Nat.le_refl _)
      have hl0 : (Lg.length : Int) ≤ 65536 := by have := cnt_le C n; have := HC.out; omega
      have hl1 : (Ll.length : Int) + (Lr.length : Int) ≤ 65536 := by have := congrArg List.length HA.out; rw [List.length_append] at this; omega
      have hbz : ((Lg.length : Int) != (Ll.length : Int) + (Lr.length : Int)) = false := by have := congrArg List.length HA.out; rw [List.length_append] at this; simp; omega
      have hsum : Ll.length + Lr.length = Lg.length := by have := congrArg List.length HA.out; rw [List.length_append] at this; omega
      have hs1 : Ll.length ≤ Lg.length := by omega
      have hs2 : Hid (Ll.length + Lr.length = Lg.length) := hsum
      clear hsum hOg4 hOl4 hb5 hb24
      go_wp2_with fail
      clear hbz
      go_loopg [10] Ll.length (fun g i wx => ∃ k m : Nat, w5.drewN m = wx ∧ k ≤ Ll.length ∧ g = Ll.length - k ∧ i = .int .i64 k)
      case atStart => exact ⟨0, 0, rfl, Nat.zero_le _, rfl, rfl⟩
      case round =>
        obtain ⟨k, m, rfl, hk, rfl, rfl⟩ := hrel
        by_cases hlt : k < Ll.length
        · have e1 := hOg.adr (by omega)
          have e2 := hOl.adr (by omega)
          subst e1 e2
          have hlg : k < Lg.length := by omega
          obtain ⟨x, hx1, hx2⟩ : ∃ x : Nat, w5.cell? ⟨gg, k, none⟩ = some (.pointer (some ⟨x, 0, none⟩)) ∧ w5.cell? ⟨gl, k, none⟩ = some (.pointer (some ⟨x, 0, none⟩)) :=
            ⟨Ll[k], by rw [hOg.cell k hlg]; congr 4; simp only [HA.out, List.getElem_append_left hlt], hOl.cell k hlt⟩
          have hns := neq_same
          go_wp2_with fail
          go_quiet (fail)
          go_wp2_with fail
          go_roundg (Ll.length - (k + 1))
          case measure => omega
          case rel => exact ⟨k + 1, _, rfl, by omega, rfl, by go_num⟩
        · go_wp2_with fail
          go_loopg [11] Lr.length (fun g i wx => ∃ k m : Nat, w5.drewN m = wx ∧ k ≤ Lr.length ∧ g = Lr.length - k ∧ i = .int .i64 k)
          case atStart => exact ⟨0, m, rfl, Nat.zero_le _, rfl, rfl⟩
          case round =>
            obtain ⟨k2, m2, rfl, hk2, rfl, rfl⟩ := hrel
            by_cases hlt2 : k2 < Lr.length
            · have hsum2 := hs2.out
              have hlg : Ll.length + k2 < Lg.length := by omega
              clear hsum2
              have e1 := hOg.adr (by omega)
              have e2 := hOr.adr (by omega)
              subst e1 e2
              obtain ⟨x, hx1, hx2⟩ : ∃ x : Nat, w5.cell? ⟨gg, Ll.length + k2, none⟩ = some (.pointer (some ⟨x, 0, none⟩)) ∧ w5.cell? ⟨gr, k2, none⟩ = some (.pointer (some ⟨x, 0, none⟩)) :=
                ⟨Lr[k2], by rw [hOg.cell _ hlg]; congr 4; simp only [HA.out]; rw [List.getElem_append_right (by omega)]; congr 1; omega, hOr.cell k2 hlt2⟩
              have hns := neq_same
              go_wp2_with fail
              go_quiet (fail)
              go_wp2_with fail
              go_roundg (Lr.length - (k2 + 1))
              case measure => omega
              case rel => exact ⟨k2 + 1, _, rfl, by omega, rfl, by go_num⟩
            · go_wp2_with fail
              refine (count_any (G5.drewN m2) n (Nat.le_refl _) (by omega)).mono ?_
              rintro e w' ⟨rfl, rfl⟩
              have hbc : ((Lg.length : Int) != (cnt C n : Int)) = false := by rw [HC.out]; simp
              go_wp2_with fail
              clear hbc
              go_loopg [12, 13] Lg.length (fun g p i wx => w5.drewN m2 = wx ∧ ∃ (k : Nat) (q : Int), k ≤ Lg.length ∧ g = Lg.length - k ∧ i = .int .i64 k ∧ p = .int .i64 q ∧ 0 ≤ q ∧ q ≤ 65536 ∧ ∀ h : k < Lg.length, q + w.heap.size < (Lg[k] : Int))
              case atStart => exact ⟨rfl, 0, 0, Nat.zero_le _, rfl, rfl, rfl, by omega, by omega, fun h => by
                obtain ⟨i, _, hi, _⟩ := own_mem (R := fun i => w.heap.size + 1 + i) (K := C) (k := n) Lg[0] (by rw [HG.out]; exact List.getElem_mem h)
                rw [hi]; omega⟩
              case round =>
                obtain ⟨rfl, k3, q, hk3, rfl, rfl, rfl, hq0, hq1, hq2⟩ := hrel
                by_cases hlt3 : k3 < Lg.length
                · have e1 := hOg.adr (by omega)
                  subst e1
                  have hcell := hOg.cell k3 hlt3
                  obtain ⟨i, hi, hxi, hCi⟩ := own_mem (R := fun i => w.heap.size + 1 + i) (K := C) (k := n) Lg[k3] (by rw [HG.out]; exact List.getElem_mem hlt3)
                  have hq3 := hq2 hlt3
                  have HX : Hid (Lg[k3] = w.heap.size + 1 + i) := hxi
                  rw [hxi] at hcell hq3
                  have f1 : w5.cell? ⟨w.heap.size + 1 + i, 0, none⟩ = some (.int .i64 ((i : Int) + 1)) := (hb25.cell (p := ⟨w.heap.size + 1 + i, 0, none⟩) (World.block_lt_of_cell? _ _ (hnum2 i hi))).trans (hnum2 i hi)
                  have f2 : w5.cell? ⟨w.heap.size, i, none⟩ = some (.pointer (some ⟨w.heap.size + 1 + i, 0, none⟩)) := (hb25.cell (p := ⟨w.heap.size, i, none⟩) (World.block_lt_of_cell? _ _ (hrow2 i hi))).trans (hrow2 i hi)
                  have f3 : w5.cell? ⟨w.heap.size + 1 + i, 12, none⟩ = some (.int .i64 (C i)) := (hb25.cell (p := ⟨w.heap.size + 1 + i, 12, none⟩) (World.block_lt_of_cell? _ _ (hK i hi))).trans (hK i hi)
                  have hqi : q < (i : Int) + 1 := by omega
                  have hCb : (C i == 0) = false := by simp [hCi]
                  have hns := neq_same
                  clear hxi hq2 hq3 hCi
                  go_wp2_with fail
                  go_roundg (Lg.length - (k3 + 1))
                  case measure => omega
                  case rel => exact ⟨rfl, k3 + 1, (i : Int) + 1, by omega, rfl, by go_num, rfl, by omega, by omega, fun h => by
                    have hP : Lg.Pairwise (· < ·) := by rw [← HG.out]; exact own_rises (fun i j h => by omega) n
                    have h12 := List.pairwise_iff_getElem.1 hP k3 (k3 + 1) hlt3 h (by omega)
                    rw [HX.out] at h12
                    omega⟩
                · go_wp2_with fail
                  go_ret
                  exact ⟨rfl, hbw5.trans ((belowN w5 m2).mono hbw5.size)⟩
    · have ec : n = c := by omega
      subst ec
      go_wp2_with fail
      refine (plan_call (k := 0) (R := fun i => w.heap.size + 1 + i) hb24 hS hK 0 (by omega) _ _ (fun h => absurd h (Nat.lt_irrefl _)) (by omega) Lr (by rw [← HR.out, Nat.sub_self]; rfl)).mono ?_
      rintro e w5 ⟨ar, capr, gr, rfl, hOr, hb5⟩
      have hOg := hOg4.below hb5 (Nat.le_refl _)
      have hOl := hOl4.below hb5 (Nat.le_refl _)
      have hb25 : Below w2.heap.size w2 w5 := hb24.trans (hb5.mono hb24.size)
      have hbw5 : Below w.heap.size w w5 := hbw2.trans (hb25.mono hbw2.size)
      have G5 : Came w5 a0 n cb co C := G.below hbw5 (Nat.le_refl _)
      have hl0 : (Lg.length : Int) ≤ 65536 := by have := cnt_le C n; have := HC.out; omega
      have hl1 : (Ll.length : Int) + (Lr.length : Int) ≤ 65536 := by have := congrArg List.length HA.out; rw [List.length_append] at this; omega
      have hbz : ((Lg.length : Int) != (Ll.length : Int) + (Lr.length : Int)) = false := by have := congrArg List.length HA.out; rw [List.length_append] at this; simp; omega
      have hsum : Ll.length + Lr.length = Lg.length := by have := congrArg List.length HA.out; rw [List.length_append] at this; omega
      have hs1 : Ll.length ≤ Lg.length := by omega
      have hs2 : Hid (Ll.length + Lr.length = Lg.length) := hsum
      clear hsum hOg4 hOl4 hb5 hb24
      go_wp2_with fail
      clear hbz
      go_loopg [10] Ll.length (fun g i wx => ∃ k m : Nat, w5.drewN m = wx ∧ k ≤ Ll.length ∧ g = Ll.length - k ∧ i = .int .i64 k)
      case atStart => exact ⟨0, 0, rfl, Nat.zero_le _, rfl, rfl⟩
      case round =>
        obtain ⟨k, m, rfl, hk, rfl, rfl⟩ := hrel
        by_cases hlt : k < Ll.length
        · have e1 := hOg.adr (by omega)
          have e2 := hOl.adr (by omega)
          subst e1 e2
          have hlg : k < Lg.length := by omega
          obtain ⟨x, hx1, hx2⟩ : ∃ x : Nat, w5.cell? ⟨gg, k, none⟩ = some (.pointer (some ⟨x, 0, none⟩)) ∧ w5.cell? ⟨gl, k, none⟩ = some (.pointer (some ⟨x, 0, none⟩)) :=
            ⟨Ll[k], by rw [hOg.cell k hlg]; congr 4; simp only [HA.out, List.getElem_append_left hlt], hOl.cell k hlt⟩
          have hns := neq_same
          go_wp2_with fail
          go_quiet (fail)
          go_wp2_with fail
          go_roundg (Ll.length - (k + 1))
          case measure => omega
          case rel => exact ⟨k + 1, _, rfl, by omega, rfl, by go_num⟩
        · go_wp2_with fail
          go_loopg [11] Lr.length (fun g i wx => ∃ k m : Nat, w5.drewN m = wx ∧ k ≤ Lr.length ∧ g = Lr.length - k ∧ i = .int .i64 k)
          case atStart => exact ⟨0, m, rfl, Nat.zero_le _, rfl, rfl⟩
          case round =>
            obtain ⟨k2, m2, rfl, hk2, rfl, rfl⟩ := hrel
            by_cases hlt2 : k2 < Lr.length
            · have hsum2 := hs2.out
              have hlg : Ll.length + k2 < Lg.length := by omega
              clear hsum2
              have e1 := hOg.adr (by omega)
              have e2 := hOr.adr (by omega)
              subst e1 e2
              obtain ⟨x, hx1, hx2⟩ : ∃ x : Nat, w5.cell? ⟨gg, Ll.length + k2, none⟩ = some (.pointer (some ⟨x, 0, none⟩)) ∧ w5.cell? ⟨gr, k2, none⟩ = some (.pointer (some ⟨x, 0, none⟩)) :=
                ⟨Lr[k2], by rw [hOg.cell _ hlg]; congr 4; simp only [HA.out]; rw [List.getElem_append_right (by omega)]; congr 1; omega, hOr.cell k2 hlt2⟩
              have hns := neq_same
              go_wp2_with fail
              go_quiet (fail)
              go_wp2_with fail
              go_roundg (Lr.length - (k2 + 1))
              case measure => omega
              case rel => exact ⟨k2 + 1, _, rfl, by omega, rfl, by go_num⟩
            · go_wp2_with fail
              refine (count_any (G5.drewN m2) n (Nat.le_refl _) (by omega)).mono ?_
              rintro e w' ⟨rfl, rfl⟩
              have hbc : ((Lg.length : Int) != (cnt C n : Int)) = false := by rw [HC.out]; simp
              go_wp2_with fail
              clear hbc
              go_loopg [12, 13] Lg.length (fun g p i wx => w5.drewN m2 = wx ∧ ∃ (k : Nat) (q : Int), k ≤ Lg.length ∧ g = Lg.length - k ∧ i = .int .i64 k ∧ p = .int .i64 q ∧ 0 ≤ q ∧ q ≤ 65536 ∧ ∀ h : k < Lg.length, q + w.heap.size < (Lg[k] : Int))
              case atStart => exact ⟨rfl, 0, 0, Nat.zero_le _, rfl, rfl, rfl, by omega, by omega, fun h => by
                obtain ⟨i, _, hi, _⟩ := own_mem (R := fun i => w.heap.size + 1 + i) (K := C) (k := n) Lg[0] (by rw [HG.out]; exact List.getElem_mem h)
                rw [hi]; omega⟩
              case round =>
                obtain ⟨rfl, k3, q, hk3, rfl, rfl, rfl, hq0, hq1, hq2⟩ := hrel
                by_cases hlt3 : k3 < Lg.length
                · have e1 := hOg.adr (by omega)
                  subst e1
                  have hcell := hOg.cell k3 hlt3
                  obtain ⟨i, hi, hxi, hCi⟩ := own_mem (R := fun i => w.heap.size + 1 + i) (K := C) (k := n) Lg[k3] (by rw [HG.out]; exact List.getElem_mem hlt3)
                  have hq3 := hq2 hlt3
                  have HX : Hid (Lg[k3] = w.heap.size + 1 + i) := hxi
                  rw [hxi] at hcell hq3
                  have f1 : w5.cell? ⟨w.heap.size + 1 + i, 0, none⟩ = some (.int .i64 ((i : Int) + 1)) := (hb25.cell (p := ⟨w.heap.size + 1 + i, 0, none⟩) (World.block_lt_of_cell? _ _ (hnum2 i hi))).trans (hnum2 i hi)
                  have f2 : w5.cell? ⟨w.heap.size, i, none⟩ = some (.pointer (some ⟨w.heap.size + 1 + i, 0, none⟩)) := (hb25.cell (p := ⟨w.heap.size, i, none⟩) (World.block_lt_of_cell? _ _ (hrow2 i hi))).trans (hrow2 i hi)
                  have f3 : w5.cell? ⟨w.heap.size + 1 + i, 12, none⟩ = some (.int .i64 (C i)) := (hb25.cell (p := ⟨w.heap.size + 1 + i, 12, none⟩) (World.block_lt_of_cell? _ _ (hK i hi))).trans (hK i hi)
                  have hqi : q < (i : Int) + 1 := by omega
                  have hCb : (C i == 0) = false := by simp [hCi]
                  have hns := neq_same
                  clear hxi hq2 hq3 hCi
                  go_wp2_with fail
                  go_roundg (Lg.length - (k3 + 1))
                  case measure => omega
                  case rel => exact ⟨rfl, k3 + 1, (i : Int) + 1, by omega, rfl, by go_num, rfl, by omega, by omega, fun h => by
                    have hP : Lg.Pairwise (· < ·) := by rw [← HG.out]; exact own_rises (fun i j h => by omega) n
                    have h12 := List.pairwise_iff_getElem.1 hP k3 (k3 + 1) hlt3 h (by omega)
                    rw [HX.out] at h12
                    omega⟩
                · go_wp2_with fail
                  go_ret
                  exact ⟨rfl, hbw5.trans ((belowN w5 m2).mono hbw5.size)⟩
end Go.Proofs.Qxb6615841aGreat
