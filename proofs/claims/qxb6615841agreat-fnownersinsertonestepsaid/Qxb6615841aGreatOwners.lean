/-
  The walk over (*Plan).Owners.
-/
import Derived.Test.Qxb6615841aGreatRecs
import Derived.Maps.AppendAt
import Derived.Lib.Builder
namespace Go.Proofs.Qxb6615841aGreat
open Go.RowKit Go.Deep

/-- The owners among the first k steps: R j is step j's recipe, K j its cleanup. -/
def own (R : Nat → Nat) (K : Nat → Int) : Nat → List Nat
  | 0 => []
  | k + 1 => own R K k ++ (if K k = 0 then [] else [R k])

theorem own_length (R : Nat → Nat) (K : Nat → Int) (k : Nat) : (own R K k).length = cnt K k := by
  induction k with
  | zero => rfl
  | succ k ih => simp only [own, cnt, List.length_append, ih]; split <;> simp

theorem own_add (R : Nat → Nat) (K : Nat → Int) (a b : Nat) : own R K (a + b) = own R K a ++ own (fun j => R (a + j)) (fun j => K (a + j)) b := by
  induction b with
  | zero => simp [own]
  | succ b ih => rw [← Nat.add_assoc]; simp only [own, ih, List.append_assoc]

theorem own_congr {R R' : Nat → Nat} {K K' : Nat → Int} {k : Nat} (hR : ∀ j, j < k → R j = R' j) (hK : ∀ j, j < k → K j = K' j) : own R K k = own R' K' k := by
  induction k with
  | zero => rfl
  | succ k ih =>
    simp only [own]
    rw [ih (fun j hj => hR j (by omega)) (fun j hj => hK j (by omega)), hR k (by omega), hK k (by omega)]

theorem own_mem {R : Nat → Nat} {K : Nat → Int} {k : Nat} : ∀ x ∈ own R K k, ∃ i, i < k ∧ x = R i ∧ K i ≠ 0 := by
  induction k with
  | zero => intro x hx; simp [own] at hx
  | succ k ih =>
    intro x hx
    simp only [own, List.mem_append] at hx
    rcases hx with hx | hx
    · obtain ⟨i, h1, h2, h3⟩ := ih x hx
      exact ⟨i, by omega, h2, h3⟩
    · by_cases hz : K k = 0
      · simp [hz] at hx
      · simp only [if_neg hz, List.mem_singleton] at hx
        exact ⟨k, by omega, hx, hz⟩

theorem own_rises {R : Nat → Nat} {K : Nat → Int} (hR : ∀ i j, i < j → R i < R j) (k : Nat) : (own R K k).Pairwise (· < ·) := by
  induction k with
  | zero => simp [own]
  | succ k ih =>
    simp only [own]
    rw [List.pairwise_append]
    refine ⟨ih, by split <;> simp, fun a ha b hb => ?_⟩
    obtain ⟨i, h1, rfl, _⟩ := own_mem a ha
    by_cases hz : K k = 0
    · simp [hz] at hb
    · simp only [if_neg hz, List.mem_singleton] at hb
      rw [hb]
      exact hR i k h1

/-- A pointer to a recipe is itself. -/
theorem neq_same (a : Addr) (w : World) : (binOp .neq 34 (.pointer (some a)) (.pointer (some a))).run Tryz.prog w = .ok (.bool false) w := by
  obtain ⟨i, hi, _⟩ := Option.map_eq_some_iff.1 Tryz.info43
  exact Lib.run_neq_ptr_same w a Tryz.underlying34 hi

def ptrs (L : List Nat) : List Value := L.map fun b => .pointer (some ⟨b, 0, none⟩)

/-- A plan's steps as Owners meets them. -/
structure Steps (w : World) (pb : Nat) (a : Option Addr) (n cap M o : Nat) (R : Nat → Nat) (K : Nat → Int) : Prop where
  pl : w.cell? ⟨pb, 1, none⟩ = some (.slice a n cap)
  adr : 0 < n → a = some ⟨M, o, none⟩
  ptr : ∀ j, j < n → w.cell? ⟨M, o + j * 2, none⟩ = some (.pointer (some ⟨R j, 0, none⟩))
  arg : ∀ j, j < n → w.cell? ⟨M, o + j * 2 + 1, none⟩ = some (.slice none 0 0)
  cln : ∀ j, j < n → w.cell? ⟨R j, 12, none⟩ = some (.int .i64 (K j))

def OwnersPost (w : World) (L : List Nat) (e : Ending) (w' : World) : Prop := ∃ v, e = .returned v ∧ w'.ownsRow w.heap.size 34 1 v L.length (ptrs L) ∧ Below w.heap.size w w'

theorem ownBlock_of {w : World} {base : Nat} {e : TypeId} {size : Nat} {v : Value} {n : Nat} {xs : List Value} (h : w.ownsRow base e size v n xs) : ∀ b, v.ownBlock = some b → base ≤ b := by
  rintro b hb
  rcases h.2 with ⟨rfl, _⟩ | ⟨g, cap, cur, rfl, hg, _⟩
  · simp [Value.ownBlock] at hb
  · simp [Value.ownBlock] at hb
    omega

set_option maxHeartbeats 1600000 in
theorem owners_own {w : World} {pb : Nat} {a : Option Addr} {n cap M o : Nat} {R : Nat → Nat} {K : Nat → Int} (S : Steps w pb a n cap M o R K) (hn : (n : Int) ≤ 65537) :
    Calls Tryz.prog 8 #[.pointer (some ⟨pb, 0, none⟩)] w (OwnersPost w (own R K n)) := by
  obtain ⟨i0, hi, hz0, hz1, hz2⟩ := info_parts Tryz.info34
  have h1 := S.pl
  go_enter Tryz.func8, Tryz.ntmps8
  go_wp2
  clear h1
  go_loopg [3, 11] n (fun g v i wr => ∃ k : Nat, k ≤ n ∧ g = n - k ∧ i = .int .i64 k ∧ wr.ownsRow w.heap.size 34 1 v (own R K k).length (ptrs (own R K k)) ∧ Below w.heap.size w wr)
  case atStart => exact ⟨0, Nat.zero_le _, rfl, rfl, World.ownsRow_nil _ _ _ _, Below.refl _ _⟩
  case round =>
    obtain ⟨k, hk, rfl, rfl, hown, hb⟩ := hrel
    by_cases hlt : k < n
    · have ha := S.adr (by omega)
      subst ha
      have hM : M < w.heap.size := World.block_lt_of_cell? _ _ (S.ptr k hlt)
      have hRk : R k < w.heap.size := World.block_lt_of_cell? _ _ (S.cln k hlt)
      have hsz := hb.size
      have hMw : M < wr.heap.size := by omega
      have hRw : R k < wr.heap.size := by omega
      have g0 : wr.cell? ⟨M, o + k * 2, none⟩ = some (.pointer (some ⟨R k, 0, none⟩)) := (hb.cell (p := ⟨M, o + k * 2, none⟩) hM).trans (S.ptr k hlt)
      have g1 : wr.cell? ⟨M, o + k * 2 + 1, none⟩ = some (.slice none 0 0) := (hb.cell (p := ⟨M, o + k * 2 + 1, none⟩) hM).trans (S.arg k hlt)
      have g2 : wr.cell? ⟨R k, 12, none⟩ = some (.int .i64 (K k)) := (hb.cell (p := ⟨R k, 12, none⟩) hRk).trans (S.cln k hlt)
      by_cases hz : K k = 0
      · have hbz : (K k != 0) = false := by simp [hz]
        have E : Hid (own R K (k + 1) = own R K k) := show own R K (k + 1) = own R K k by simp [own, hz]
        clear hz
        go_wp2_with fail
        go_roundg (n - (k + 1))
        case measure => omega
        case rel => exact ⟨k + 1, by omega, rfl, by go_num, by rw [E.out]; exact hown.alloc _, hb.alloc hb.size _⟩
      · have hbz : (K k != 0) = true := by simp [hz]
        have E : Hid (own R K (k + 1) = own R K k ++ [R k]) := show own R K (k + 1) = own R K k ++ [R k] by simp [own, hz]
        clear hz
        have hlen := cnt_le K k
        rw [← own_length R K k] at hlen
        go_wp2_with (at_builtin; refine wpList_append_own _ rfl (.tmp 21) (.tmp 24) 24 rfl w.heap.size 34 i0 (.pointer none) 1 8 Tryz.underlying24 hi hz0 hz1 hz2 rfl (by decide) _ _ _ rfl ((hown.alloc _).alloc _) ⟨wr.heap.size + 1, 0, none⟩ 1 1 [.pointer (some ⟨R k, 0, none⟩)] rfl rfl ?c1 ?c2 ?c3 ?c4 ?c5 ?_)
        case c1 =>
          intro j u hj
          match j, hj with
          | 0, hj => simp at hj; subst hj; simp [Addr.add]
        case c2 => intro u hu; simp at hu; subst hu; rfl
        case c3 => unfold maxLen; omega
        case c4 => omega
        case c5 => simp; omega
        · intro v' w1 hown' hgrow _
          have hb1 : Below w.heap.size w w1 := Below.grown ((hb.alloc hb.size _).alloc (by simp; omega) _) hgrow (by simp; omega) (ownBlock_of hown)
          have hown2 : w1.ownsRow w.heap.size 34 1 v' (own R K (k + 1)).length (ptrs (own R K (k + 1))) := by
            rw [E.out, List.length_append]
            simpa [ptrs] using hown'
          clear hown hown' hgrow hb g0 g1 g2 hi hz0 hz1 hz2
          go_wp2_with fail
          go_roundg (n - (k + 1))
          case measure => omega
          case rel => exact ⟨k + 1, by omega, rfl, by go_num, hown2, hb1⟩
    · have e : n = k := by omega
      subst e
      go_wp2
      go_ret
      exact ⟨_, rfl, hown, hb⟩

/-- A slice of pointers to the blocks L, as the laws read it. -/
structure Owned (w : World) (a : Option Addr) (g : Nat) (L : List Nat) : Prop where
  adr : 0 < L.length → a = some ⟨g, 0, none⟩
  cell : ∀ k (h : k < L.length), w.cell? ⟨g, k, none⟩ = some (.pointer (some ⟨L[k], 0, none⟩))

theorem Owned.below {w w' : World} {B : Nat} {a : Option Addr} {g : Nat} {L : List Nat} (h : Owned w a g L) (hb : Below B w w') (hB : w.heap.size ≤ B) : Owned w' a g L :=
  ⟨h.adr, fun k hk => by
    have hc := h.cell k hk
    rw [hb.cell (p := ⟨g, k, none⟩) (Nat.lt_of_lt_of_le (World.block_lt_of_cell? _ _ hc) hB)]
    exact hc⟩

def OwnedPost (w : World) (L : List Nat) (e : Ending) (w' : World) : Prop := ∃ a cap g, e = .returned (.slice a L.length cap) ∧ Owned w' a g L ∧ Below w.heap.size w w'

theorem owners_any {w : World} {pb : Nat} {a : Option Addr} {n cap M o : Nat} {R : Nat → Nat} {K : Nat → Int} (S : Steps w pb a n cap M o R K) (hn : (n : Int) ≤ 65537) :
    Calls Tryz.prog 8 #[.pointer (some ⟨pb, 0, none⟩)] w (OwnedPost w (own R K n)) := by
  refine (owners_own S hn).mono ?_
  rintro e w' ⟨v, rfl, hown, hb⟩
  rcases hown.2 with ⟨rfl, h0⟩ | ⟨g, c, cur, rfl, hg, hh, hle, hm, hs, ht⟩
  · refine ⟨none, 0, 0, by rw [h0], ⟨fun h => by omega, fun k hk => by omega⟩, hb⟩
  · refine ⟨_, c, g, rfl, ⟨fun _ => rfl, fun k hk => ?_⟩, hb⟩
    have h1 := hown.cellAt k (by omega)
    rw [h1]
    simp [ptrs, hk]
end Go.Proofs.Qxb6615841aGreat
