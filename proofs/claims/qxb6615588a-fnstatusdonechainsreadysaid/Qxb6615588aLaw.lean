/-
  The walk over FnStatusDoneChainsReady itself.
-/
import Derived.Test.Qxb6615588aShift
namespace Go.Proofs.Qxb6615588a
open Go.RowKit Go.Deep

theorem Try.info32 : (Try.prog.info? 32).map (fun i => (i.zero, i.size, i.bytes)) = some (some (.slice none 0 0), 1, 24) := by kernel_rfl
theorem Try.info33 : (Try.prog.info? 33).map (fun i => (i.zero, i.size, i.bytes)) = some (some (.int .i64 0), 1, 8) := by kernel_rfl

/-- The new grid's own row, when t of its rows are laid. -/
def top (N rows t : Nat) : Nat → Value := fun j => if j < t then .slice (some ⟨N + 1 + j, 0, none⟩) rows rows else .slice none 0 0

structure Outer (w wr : World) (len rows t : Nat) (Z : Nat → Nat → Int) : Prop where
  since : w.Since w.heap.size wr
  size : wr.heap.size = w.heap.size + 1 + t
  top : wr.rowIs w.heap.size 32 len (top w.heap.size rows t)
  done : ∀ j, j < t → wr.rowIs (w.heap.size + 1 + j) 33 rows (fun r => .int .i64 (Z j r))

structure Inner (w wi : World) (len rows t r : Nat) (Z : Nat → Nat → Int) : Prop where
  since : w.Since w.heap.size wi
  size : wi.heap.size = w.heap.size + 1 + t + 1
  top : wi.rowIs w.heap.size 32 len (top w.heap.size rows t)
  done : ∀ j, j < t → wi.rowIs (w.heap.size + 1 + j) 33 rows (fun r => .int .i64 (Z j r))
  cur : wi.rowIs (w.heap.size + 1 + t) 33 rows (fun i => if i < r then .int .i64 (Z t i) else .int .i64 0)

theorem since_drewN (w : World) (n : Nat) : w.Since w.heap.size (w.drewN n) := ⟨rfl, rfl, rfl, Nat.le_refl _, fun _ _ => rfl⟩

theorem outer_start (w : World) (n len rows : Nat) (Z : Nat → Nat → Int) : Outer w ((w.drewN n).alloc (.cells (madeCells #[.slice none 0 0] len) 32)) len rows 0 Z := by
  have h : Outer w (w.alloc (.cells (madeCells #[.slice none 0 0] len) 32)) len rows 0 Z :=
    ⟨(World.Since.refl _ _).alloc (Nat.le_refl _) _, by simp, (World.rowIs_made w _ len 32).congr (fun j _ => by simp [top]), fun j hj => absurd hj (Nat.not_lt_zero _)⟩
  exact ⟨⟨h.since.os, h.since.tape, h.since.output, h.since.size, h.since.block⟩, h.size, h.top, h.done⟩

theorem inner_start {w wr : World} {len rows t : Nat} {Z : Nat → Nat → Int} (h : Outer w wr len rows t Z) : Inner w (wr.alloc (.cells (madeCells #[.int .i64 0] rows) 33)) len rows t 0 Z := by
  have hnew := World.rowIs_made wr (.int .i64 0) rows 33
  rw [h.size] at hnew
  exact ⟨h.since.alloc (by rw [h.size]; omega) _, by simp [h.size], h.top.alloc _, fun j hj => (h.done j hj).alloc _, hnew.congr (fun i _ => by simp)⟩

theorem inner_step {w wi : World} {len rows t r : Nat} {Z : Nat → Nat → Int} (h : Inner w wi len rows t r Z) :
    Inner w (wi.setCell ⟨w.heap.size + 1 + t, r, none⟩ (.int .i64 (Z t r))) len rows t (r + 1) Z := by
  refine ⟨h.since.setCell (by show w.heap.size ≤ w.heap.size + 1 + t; omega) _, by simp [h.size], h.top.setOther (by show w.heap.size ≠ w.heap.size + 1 + t; omega) _,
    fun j hj => (h.done j hj).setOther (by show w.heap.size + 1 + j ≠ w.heap.size + 1 + t; omega) _, (h.cur.set r _).congr (fun i _ => ?_)⟩
  by_cases e : i = r
  · subst e; simp
  · rw [if_neg e]
    by_cases hlt : i < r
    · rw [if_pos hlt, if_pos (by omega)]
    · rw [if_neg hlt, if_neg (by omega)]

theorem inner_done {w wi : World} {len rows t : Nat} {Z : Nat → Nat → Int} (h : Inner w wi len rows t rows Z) :
    Outer w (wi.setCell ⟨w.heap.size, t, none⟩ (.slice (some ⟨w.heap.size + 1 + t, 0, none⟩) rows rows)) len rows (t + 1) Z := by
  refine ⟨h.since.setCell (Nat.le_refl _) _, by simp [h.size]; omega, (h.top.set t _).congr (fun j _ => ?_), fun j hj => ?_⟩
  · simp only [top]
    by_cases e : j = t
    · subst e; simp
    · rw [if_neg e]
      by_cases hlt : j < t
      · rw [if_pos hlt, if_pos (by omega)]
      · rw [if_neg hlt, if_neg (by omega)]
  · by_cases e : j = t
    · subst e
      exact (h.cur.setOther (by show w.heap.size + 1 + j ≠ w.heap.size; omega) _).congr (fun i hi => by rw [if_pos hi])
    · exact (h.done j (by omega)).setOther (by show w.heap.size + 1 + j ≠ w.heap.size; omega) _

theorem built_of {w wr : World} {len rows : Nat} {Z : Nat → Nat → Int} (h : Outer w wr len rows len Z) (o : Obj) (hc : (wr.alloc o).cell? ⟨wr.heap.size, 14, none⟩ = some (.slice (some ⟨w.heap.size, 0, none⟩) len len)) :
    Built (wr.alloc o) wr.heap.size w.heap.size len rows Z :=
  ⟨hc, fun t ht => by rw [(h.top.alloc o).cell ht]; simp [top, ht], fun t ht r hr => ((h.done t ht).alloc o).cell hr⟩

/-- Where the run of done cells stops: the methods' answer at every task. -/
theorem key_of {Z : Nat → Nat → Int} {len r k : Nat} (hr : rdy Z r k = true) (hstop : ¬ (k < len ∧ Z k r = 2)) (t : Nat) (ht : t ≤ len) : rdy Z r t = decide (t ≤ k) := by
  by_cases h : t ≤ k
  · rw [rdy_mono h hr]; simp [h]
  · rw [rdy_false (n := k) (by omega) (fun e => hstop ⟨by omega, e⟩)]; simp [h]

/-- What the law answers. -/
def LawPost (w : World) (e : Ending) (w' : World) : Prop := e = .returned (.bool true) ∧ Below w.heap.size w w'

theorem below_of {w w' : World} (h : w.Since w.heap.size w') : Below w.heap.size w w' := ⟨h.os, h.tape, h.output, h.size, h.block⟩

set_option maxHeartbeats 1000000 in
set_option maxRecDepth 100000 in
theorem law_any {w : World} {a0 : Option Addr} {len cap gb go : Nat} {A : Nat → Option Addr} {L C Ab Ao : Nat → Nat} {Z : Nat → Nat → Int} (G : Grid w a0 len gb go A L C Ab Ao Z)
    (hlen : len ≤ 9223372036854775807) (hL : ∀ r, r < len → L r ≤ 9223372036854775807) : Calls Try.prog 5 #[.slice a0 len cap] w (LawPost w) := by
  go_enter Try.func5, Try.ntmps5
  go_wp2_with fail
  refine (bytes_any G hlen hL).mono ?_
  rintro e w' ⟨⟨b, rfl, hb⟩, rfl⟩
  cases b with
  | false =>
    go_wp2_with fail
    go_ret
    exact ⟨rfl, Below.refl _ _⟩
  | true =>
    have hL1 := hb rfl
    clear hb hL
    by_cases h256 : len ≤ 256
    · go_wp2_with fail
      refine (fit_any G hlen hL1).mono ?_
      rintro e w' ⟨⟨b, rfl, hb⟩, n, rfl⟩
      cases b with
      | false =>
        go_wp2_with fail
        go_ret
        exact ⟨rfl, below_of (since_drewN w n)⟩
      | true =>
        have HB : Hid (∀ r, r < len → L r = L 0 ∧ ∀ c, c < L r → 0 ≤ Z r c ∧ Z r c ≤ 3) := (hb rfl).2
        clear hb
        have hmk31 := run_make_row' (P := Try.prog) 31 32 (.slice none 0 0) 24 Try.underlying31 Try.info32 rfl .i64 .i64 len (by omega) hlen
        by_cases hl0 : 0 < len
        · have ha := G.adr hl0
          subst ha
          have hrow0 : w.cell? ⟨gb, go, none⟩ = some (.slice (A 0) (L 0) (C 0)) := by simpa using G.row 0 hl0
          have hL0 := hL1 0 hl0
          clear hL1
          go_wp2_with fail
          clear hrow0 hmk31
          go_loopg [5] len (fun g i wr => ∃ t : Nat, t ≤ len ∧ g = len - t ∧ i = .int .i64 t ∧ Outer w wr len (L 0) t Z)
          case atStart => exact ⟨0, Nat.zero_le _, rfl, rfl, outer_start w n len (L 0) Z⟩
          case round =>
            obtain ⟨t, ht, rfl, rfl, hO⟩ := hrel
            by_cases hlt : t < len
            · have hmk32 := run_make_row' (P := Try.prog) 32 33 (.int .i64 0) 8 Try.underlying32 Try.info33 rfl .i64 .i64 (L 0) (by omega) (by omega)
              have hsize := hO.size
              go_wp2_with fail
              have hI0 := inner_start hO
              clear hmk32 hO
              go_loopg [7] (L 0) (fun g i wi => ∃ r : Nat, r ≤ L 0 ∧ g = L 0 - r ∧ i = .int .i64 r ∧ Inner w wi len (L 0) t r Z)
              case atStart => exact ⟨0, Nat.zero_le _, rfl, rfl, hI0⟩
              case round =>
                obtain ⟨r, hr, rfl, rfl, hI⟩ := hrel
                clear hI0 hsize
                by_cases hrl : r < L 0
                · obtain ⟨hLt, _⟩ := HB.out t hlt
                  have hrt : r < L t := by omega
                  clear hLt
                  obtain ⟨hAt, hcz⟩ := G.cell t hlt r hrt
                  have g1 : wr.cell? ⟨gb, go + t, none⟩ = some (.slice (some ⟨Ab t, Ao t, none⟩) (L t) (C t)) := by
                    rw [hI.since.cell (a := ⟨gb, go + t, none⟩) (World.block_lt_of_cell? _ _ (G.row t hlt)), G.row t hlt, hAt]
                  have g2 : wr.cell? ⟨Ab t, Ao t + r, none⟩ = some (.int .i64 (Z t r)) := by
                    rw [hI.since.cell (a := ⟨Ab t, Ao t + r, none⟩) (World.block_lt_of_cell? _ _ hcz)]
                    exact hcz
                  have g3 : wr.cell? ⟨w.heap.size + 1 + t, r, none⟩ = some (.int .i64 0) := by simpa using hI.cur.cell hrl
                  have g4 : wr.frozen? ⟨w.heap.size + 1 + t, r, none⟩ = false := hI.cur.frozen r
                  clear hAt hcz
                  go_wp2_with fail
                  go_roundg (L 0 - (r + 1))
                  case measure => omega
                  case rel => exact ⟨r + 1, by omega, rfl, by go_num, inner_step hI⟩
                · have er : r = L 0 := by omega
                  subst er
                  have g1 : wr.cell? ⟨w.heap.size, t, none⟩ = some (top w.heap.size (L 0) t t) := hI.top.cell hlt
                  have g2 : wr.frozen? ⟨w.heap.size, t, none⟩ = false := hI.top.frozen t
                  go_wp2_with fail
                  go_roundg (len - (t + 1))
                  case measure => omega
                  case rel => exact ⟨t + 1, by omega, rfl, by go_num, inner_done hI⟩
            · have et : len = t := by omega
              subst et
              go_wp2_with fail
              refine (new_any _ _ _).mono ?_
              rintro e w' ⟨rfl, o, rfl, hc⟩
              have B := built_of hO o hc
              have hsince := hO.since.alloc (by rw [hO.size]; omega) o
              clear hc hO
              generalize hS : wr.heap.size = S at B ⊢
              generalize hwb : wr.alloc o = wb at B hsince ⊢
              clear hS hwb
              go_wp2_with fail
              go_loopg [9] (L 0) (fun g i wx => wb = wx ∧ ∃ r : Nat, r ≤ L 0 ∧ g = L 0 - r ∧ i = .int .i64 r)
              case atStart => exact ⟨rfl, 0, Nat.zero_le _, rfl, rfl⟩
              case round =>
                obtain ⟨rfl, r, hr, rfl, rfl⟩ := hrel
                by_cases hrl : r < L 0
                · go_wp2_with fail
                  go_loopg [10] len (fun g i wx => wb = wx ∧ ∃ k : Nat, k ≤ len ∧ g = len - k ∧ i = .int .i64 k ∧ rdy Z r k = true)
                  case atStart => exact ⟨rfl, 0, Nat.zero_le _, rfl, rfl, rfl⟩
                  case round =>
                    obtain ⟨rfl, k, hk, rfl, rfl, hrd⟩ := hrel
                    have HR : Hid (rdy Z r k = true) := hrd
                    clear hrd
                    by_cases hgo : k < len ∧ Z k r = 2
                    · obtain ⟨hkl, hz⟩ := hgo
                      have HZ : Hid (Z k r = 2) := hz
                      have hzb : (Z k r == 2) = true := by simp [hz]
                      obtain ⟨hLt, _⟩ := HB.out k hkl
                      have hrt : r < L k := by omega
                      clear hLt hz
                      obtain ⟨hAt, hcz⟩ := G.cell k hkl r hrt
                      have g1 : wb.cell? ⟨gb, go + k, none⟩ = some (.slice (some ⟨Ab k, Ao k, none⟩) (L k) (C k)) := by
                        rw [hsince.cell (a := ⟨gb, go + k, none⟩) (World.block_lt_of_cell? _ _ (G.row k hkl)), G.row k hkl, hAt]
                      have g2 : wb.cell? ⟨Ab k, Ao k + r, none⟩ = some (.int .i64 (Z k r)) := by
                        rw [hsince.cell (a := ⟨Ab k, Ao k + r, none⟩) (World.block_lt_of_cell? _ _ hcz)]
                        exact hcz
                      clear hAt hcz
                      go_wp2_with fail
                      go_roundg (len - (k + 1))
                      case measure => omega
                      case rel => exact ⟨rfl, k + 1, by omega, rfl, by go_num, by simp [rdy, HR.out, HZ.out]⟩
                    · have key : Hid (∀ t, t ≤ len → rdy Z r t = decide (t ≤ k)) := key_of HR.out hgo
                      by_cases hkl : k < len
                      · have hz : (Z k r == 2) = false := by
                          have : ¬ Z k r = 2 := fun e => hgo ⟨hkl, e⟩
                          simpa using this
                        obtain ⟨hLt, _⟩ := HB.out k hkl
                        have hrt : r < L k := by omega
                        clear hLt hgo
                        obtain ⟨hAt, hcz⟩ := G.cell k hkl r hrt
                        have g1 : wb.cell? ⟨gb, go + k, none⟩ = some (.slice (some ⟨Ab k, Ao k, none⟩) (L k) (C k)) := by
                          rw [hsince.cell (a := ⟨gb, go + k, none⟩) (World.block_lt_of_cell? _ _ (G.row k hkl)), G.row k hkl, hAt]
                        have g2 : wb.cell? ⟨Ab k, Ao k + r, none⟩ = some (.int .i64 (Z k r)) := by
                          rw [hsince.cell (a := ⟨Ab k, Ao k + r, none⟩) (World.block_lt_of_cell? _ _ hcz)]
                          exact hcz
                        clear hAt hcz
                        go_wp2_with fail
                        go_loopg [11] (len + 1) (fun g i wx => wb = wx ∧ ∃ t : Nat, t ≤ len + 1 ∧ g = len + 1 - t ∧ i = .int .i64 t)
                        case atStart => exact ⟨rfl, 0, Nat.zero_le _, rfl, rfl⟩
                        case round =>
                          obtain ⟨rfl, t, ht, rfl, rfl⟩ := hrel
                          by_cases htl : t ≤ len
                          · have k1 := key.out t htl
                            by_cases h0 : 0 < t
                            · have k2 := rdy_prev (Z := Z) (r := r) h0
                              cases hp : rdy Z r (t - 1) with
                              | false =>
                                have hrt : rdy Z r t = false := by rw [k2, hp]; rfl
                                have htk : ¬ t ≤ k := by rw [hrt] at k1; simpa using k1
                                clear k1 k2
                                go_wp2_with fail
                                refine (ready_at B t r _ rfl htl hrl h256).mono ?_
                                rintro e w' ⟨rfl, rfl⟩
                                go_wp2_with fail
                                refine (ready_at B (t - 1) r _ (by omega) (by omega) hrl h256).mono ?_
                                rintro e w' ⟨rfl, rfl⟩
                                go_wp2_with fail
                                go_roundg (len + 1 - (t + 1))
                                case measure => omega
                                case rel => exact ⟨rfl, t + 1, by omega, rfl, by go_num⟩
                              | true =>
                                cases hz : (Z (t - 1) r == 2) with
                                | false =>
                                  have hrt : rdy Z r t = false := by rw [k2, hp, hz]; rfl
                                  have htk : ¬ t ≤ k := by rw [hrt] at k1; simpa using k1
                                  clear k1 k2
                                  go_wp2_with fail
                                  refine (ready_at B t r _ rfl htl hrl h256).mono ?_
                                  rintro e w' ⟨rfl, rfl⟩
                                  go_wp2_with fail
                                  refine (ready_at B (t - 1) r _ (by omega) (by omega) hrl h256).mono ?_
                                  rintro e w' ⟨rfl, rfl⟩
                                  go_wp2_with fail
                                  refine (status_at B (t - 1) r _ (by omega) (by omega) hrl).mono ?_
                                  rintro e w' ⟨rfl, rfl⟩
                                  go_wp2_with fail
                                  go_roundg (len + 1 - (t + 1))
                                  case measure => omega
                                  case rel => exact ⟨rfl, t + 1, by omega, rfl, by go_num⟩
                                | true =>
                                  have hrt : rdy Z r t = true := by rw [k2, hp, hz]; rfl
                                  have htk : t ≤ k := by rw [hrt] at k1; simpa using k1
                                  clear k1 k2
                                  go_wp2_with fail
                                  refine (ready_at B t r _ rfl htl hrl h256).mono ?_
                                  rintro e w' ⟨rfl, rfl⟩
                                  go_wp2_with fail
                                  refine (ready_at B (t - 1) r _ (by omega) (by omega) hrl h256).mono ?_
                                  rintro e w' ⟨rfl, rfl⟩
                                  go_wp2_with fail
                                  refine (status_at B (t - 1) r _ (by omega) (by omega) hrl).mono ?_
                                  rintro e w' ⟨rfl, rfl⟩
                                  go_wp2_with fail
                                  go_roundg (len + 1 - (t + 1))
                                  case measure => omega
                                  case rel => exact ⟨rfl, t + 1, by omega, rfl, by go_num⟩
                            · have hrt : rdy Z r t = true := by have : t = 0 := by omega
                                                                subst this; rfl
                              have htk : t ≤ k := by omega
                              clear k1
                              go_wp2_with fail
                              refine (ready_at B t r _ rfl htl hrl h256).mono ?_
                              rintro e w' ⟨rfl, rfl⟩
                              go_wp2_with fail
                              go_roundg (len + 1 - (t + 1))
                              case measure => omega
                              case rel => exact ⟨rfl, t + 1, by omega, rfl, by go_num⟩
                          · go_wp2_with fail
                            go_roundg (L 0 - (r + 1))
                            case measure => omega
                            case rel => exact ⟨rfl, r + 1, by omega, rfl, by go_num⟩
                      · clear hgo
                        go_wp2_with fail
                        go_loopg [11] (len + 1) (fun g i wx => wb = wx ∧ ∃ t : Nat, t ≤ len + 1 ∧ g = len + 1 - t ∧ i = .int .i64 t)
                        case atStart => exact ⟨rfl, 0, Nat.zero_le _, rfl, rfl⟩
                        case round =>
                          obtain ⟨rfl, t, ht, rfl, rfl⟩ := hrel
                          by_cases htl : t ≤ len
                          · have k1 := key.out t htl
                            by_cases h0 : 0 < t
                            · have k2 := rdy_prev (Z := Z) (r := r) h0
                              cases hp : rdy Z r (t - 1) with
                              | false =>
                                have hrt : rdy Z r t = false := by rw [k2, hp]; rfl
                                have htk : ¬ t ≤ k := by rw [hrt] at k1; simpa using k1
                                clear k1 k2
                                go_wp2_with fail
                                refine (ready_at B t r _ rfl htl hrl h256).mono ?_
                                rintro e w' ⟨rfl, rfl⟩
                                go_wp2_with fail
                                refine (ready_at B (t - 1) r _ (by omega) (by omega) hrl h256).mono ?_
                                rintro e w' ⟨rfl, rfl⟩
                                go_wp2_with fail
                                go_roundg (len + 1 - (t + 1))
                                case measure => omega
                                case rel => exact ⟨rfl, t + 1, by omega, rfl, by go_num⟩
                              | true =>
                                cases hz : (Z (t - 1) r == 2) with
                                | false =>
                                  have hrt : rdy Z r t = false := by rw [k2, hp, hz]; rfl
                                  have htk : ¬ t ≤ k := by rw [hrt] at k1; simpa using k1
                                  clear k1 k2
                                  go_wp2_with fail
                                  refine (ready_at B t r _ rfl htl hrl h256).mono ?_
                                  rintro e w' ⟨rfl, rfl⟩
                                  go_wp2_with fail
                                  refine (ready_at B (t - 1) r _ (by omega) (by omega) hrl h256).mono ?_
                                  rintro e w' ⟨rfl, rfl⟩
                                  go_wp2_with fail
                                  refine (status_at B (t - 1) r _ (by omega) (by omega) hrl).mono ?_
                                  rintro e w' ⟨rfl, rfl⟩
                                  go_wp2_with fail
                                  go_roundg (len + 1 - (t + 1))
                                  case measure => omega
                                  case rel => exact ⟨rfl, t + 1, by omega, rfl, by go_num⟩
                                | true =>
                                  have hrt : rdy Z r t = true := by rw [k2, hp, hz]; rfl
                                  have htk : t ≤ k := by rw [hrt] at k1; simpa using k1
                                  clear k1 k2
                                  go_wp2_with fail
                                  refine (ready_at B t r _ rfl htl hrl h256).mono ?_
                                  rintro e w' ⟨rfl, rfl⟩
                                  go_wp2_with fail
                                  refine (ready_at B (t - 1) r _ (by omega) (by omega) hrl h256).mono ?_
                                  rintro e w' ⟨rfl, rfl⟩
                                  go_wp2_with fail
                                  refine (status_at B (t - 1) r _ (by omega) (by omega) hrl).mono ?_
                                  rintro e w' ⟨rfl, rfl⟩
                                  go_wp2_with fail
                                  go_roundg (len + 1 - (t + 1))
                                  case measure => omega
                                  case rel => exact ⟨rfl, t + 1, by omega, rfl, by go_num⟩
                            · have hrt : rdy Z r t = true := by have : t = 0 := by omega
                                                                subst this; rfl
                              have htk : t ≤ k := by omega
                              clear k1
                              go_wp2_with fail
                              refine (ready_at B t r _ rfl htl hrl h256).mono ?_
                              rintro e w' ⟨rfl, rfl⟩
                              go_wp2_with fail
                              go_roundg (len + 1 - (t + 1))
                              case measure => omega
                              case rel => exact ⟨rfl, t + 1, by omega, rfl, by go_num⟩
                          · go_wp2_with fail
                            go_roundg (L 0 - (r + 1))
                            case measure => omega
                            case rel => exact ⟨rfl, r + 1, by omega, rfl, by go_num⟩
                · go_wp2_with fail
                  go_ret
                  exact ⟨rfl, below_of hsince⟩
        · have hmk31' := hmk31
          go_wp2_with fail
          refine wp_loop_rounds 1 ?_
          rw [rounds_succ]
          go_wp2_with fail
          refine (new_any _ _ _).mono ?_
          rintro e w' ⟨rfl, o, rfl, hc⟩
          clear hc
          go_wp2_with fail
          refine wp_loop_rounds 1 ?_
          rw [rounds_succ]
          go_wp2_with fail
          go_ret
          exact ⟨rfl, below_of (((since_drewN w n).alloc (Nat.le_refl _) _).alloc (by simp) _)⟩
    · go_wp2_with fail
      go_ret
      exact ⟨rfl, Below.refl _ _⟩
end Go.Proofs.Qxb6615588a
