/-
  The walk over FnStatusGivesBackTheTextItWasReadFrom itself.
-/
import Derived.Test.Qxb6615588aFmtState
namespace Go.Proofs.Qxb6615588aFmt
open Go.RowKit Go.Deep Go.Stop

theorem Tryf.info26 : (Tryf.prog.info? 26).map (fun i => (i.zero, i.size, i.bytes)) = some (some (.slice none 0 0), 1, 24) := by kernel_rfl
theorem Tryf.info27 : (Tryf.prog.info? 27).map (fun i => (i.zero, i.size, i.bytes)) = some (some (.int .i64 0), 1, 8) := by kernel_rfl

/-- What the law answers. -/
def LawPost (w : World) (e : Ending) (w' : World) : Prop := e = .returned (.bool true) ∧ Below w.heap.size w w'

/-- '[]byte(s)' in every world. -/
theorem conv_to (w : World) (s : ByteArray) : (convert 9 31 (.string s)).run Tryf.prog w = .ok (.slice (some ⟨w.heap.size, 0, none⟩) s.size (grownCap w s.size 0 5))
      (w.drew.alloc (.cells (bytesRow s (grownCap w s.size 0 5)) 5 ((bytesRow s (grownCap w s.size 0 5)).size, (bytesRow s (grownCap w s.size 0 5)).size + 1))) :=
  run_bytes_of_string w 9 31 5 s Tryf.underlying9 Tryf.underlying31 Tryf.underlying5

theorem bytesRow_at (s : ByteArray) (c j : Nat) (hj : j < s.data.toList.length) : (bytesRow s c)[j]? = some (.int .u8 (s.data.toList[j].toNat : Int)) := by
  have hj' : j < s.data.size := by simpa using hj
  unfold bytesRow
  rw [Array.getElem?_append_left (by simpa using hj')]
  simp
  exact ⟨s.data[j], by simp, rfl⟩

/-- The world in which UnmarshalText is called: the status variable's block, the text's bytes. -/
theorem conv_world (wr : World) (s : ByteArray) (c : Nat) (fr : Nat × Nat) (W : World) (hW : W = ((wr.alloc (.cells #[.int .i64 0] 27)).alloc (.cells (bytesRow s c) 5 fr)).drew) :
    Below wr.heap.size wr W ∧ W.cell? ⟨wr.heap.size, 0, none⟩ = some (.int .i64 0) ∧ W.frozen? ⟨wr.heap.size, 0, none⟩ = false ∧ BytesAt W ⟨wr.heap.size + 1, 0, none⟩ s ∧ wr.heap.size < W.heap.size := by
  subst hW
  refine ⟨(((Below.refl _ _).alloc (Nat.le_refl _) _).alloc (by simp) _).drew, by simp, by simp, fun j hj => ?_, by simp; omega⟩
  rw [show (⟨wr.heap.size + 1, 0, none⟩ : Addr).add j = ⟨wr.heap.size + 1, 0 + j, none⟩ from by simp [Addr.add]; exact Eq.symm]
  show ((wr.alloc (.cells #[.int .i64 0] 27)).alloc (.cells (bytesRow s c) 5 fr)).cell? ⟨wr.heap.size + 1, 0 + j, none⟩ = _
  have h := World.cell?_alloc_mark (wr.alloc (.cells #[.int .i64 0] 27)) (bytesRow s c) 5 fr j
  rw [show (wr.alloc (.cells #[.int .i64 0] 27)).heap.size = wr.heap.size + 1 from by simp] at h
  rw [Nat.zero_add, h]
  exact bytesRow_at s c j hj

/-- What is known behind UnmarshalText: nothing that was there has turned, and the variable holds the status. -/
def Left1 (wr : World) (s : ByteArray) (w' : World) : Prop := Below wr.heap.size wr w' ∧ w'.cell? ⟨wr.heap.size, 0, none⟩ = some (.int .i64 (sc s))

theorem unm_yes_at (wr : World) (s : ByteArray) (c c' : Nat) (fr : Nat × Nat) (W : World) (hW : W = ((wr.alloc (.cells #[.int .i64 0] 27)).alloc (.cells (bytesRow s c) 5 fr)).drew) (T : Texts wr) (hw0 : 0 < wr.heap.size) (hc : 0 ≤ cls s.toList) :
    Calls Tryf.prog 6 #[.pointer (some ⟨wr.heap.size, 0, none⟩), .slice (some ⟨wr.heap.size + 1, 0, none⟩) s.size c'] W fun e w' => e = .returned .nilIface ∧ Left1 wr s w' := by
  obtain ⟨hb, h1, h2, h3, h4⟩ := conv_world wr s c fr W hW
  clear hW
  refine (unm_yes s wr.heap.size ⟨wr.heap.size + 1, 0, none⟩ c' W (T.below hb hw0) h1 h2 h3 hc).mono ?_
  rintro e w' ⟨he, n, hw⟩
  subst hw
  refine ⟨he, (hb.trans ((belowN W n).mono (by omega))).setCell (Nat.le_refl _) _, ?_⟩
  have e1 : sc s = cls s.toList := by unfold sc; rw [if_pos hc]
  rw [e1]
  exact World.cell?_setCell_same (W.drewN n) _ _ h1

theorem unm_no_at (F : Interp) (wr : World) (s : ByteArray) (c c' : Nat) (fr : Nat × Nat) (W : World) (hW : W = ((wr.alloc (.cells #[.int .i64 0] 27)).alloc (.cells (bytesRow s c) 5 fr)).drew) (hF : F.answers wr.tape) (T : Texts wr) (hw0 : 0 < wr.heap.size) (hc : cls s.toList < 0) :
    Calls Tryf.prog 6 #[.pointer (some ⟨wr.heap.size, 0, none⟩), .slice (some ⟨wr.heap.size + 1, 0, none⟩) s.size c'] W fun e w' => (∃ x, e = .returned (.iface 59 (.pointer (some x)))) ∧ Left1 wr s w' := by
  obtain ⟨hb, h1, h2, h3, h4⟩ := conv_world wr s c fr W hW
  clear hW
  refine (unm_no F s wr.heap.size ⟨wr.heap.size + 1, 0, none⟩ c' W (by rw [hb.tape]; exact hF) (T.below hb hw0) h3 hc).mono ?_
  rintro e w' ⟨he, hb2⟩
  refine ⟨he, hb.trans (hb2.mono (by omega)), ?_⟩
  have e1 : sc s = 0 := by unfold sc; rw [if_neg (by omega)]
  rw [e1, hb2.cell (p := ⟨wr.heap.size, 0, none⟩) h4]
  exact h1

set_option maxHeartbeats 2000000 in
set_option maxRecDepth 100000 in
theorem law_any (F : Interp) {w : World} {a0 : Option Addr} {len cap gb go : Nat} {A : Nat → Option Addr} {L C Ab Ao : Nat → Nat} {Z : Nat → Nat → ByteArray} (G : Grid w a0 len gb go A L C Ab Ao Z) (T : Texts w) (hF : F.answers w.tape)
    (hlen : len ≤ 9223372036854775807) (hL : ∀ r, r < len → L r ≤ 9223372036854775807) (hZ : ∀ r, r < len → ∀ c, c < L r → (Z r c).size ≤ 9223372036854775807) : Calls Tryf.prog 3 #[.slice a0 len cap] w (LawPost w) := by
  go_enter Tryf.func3, Tryf.ntmps3
  go_wp2_with fail
  refine (bytes_any G hlen hL hZ).mono ?_
  rintro e w' ⟨⟨b, rfl, hb⟩, rfl⟩
  cases b with
  | false =>
    go_wp2_with fail
    go_ret
    exact ⟨rfl, Below.refl _ _⟩
  | true =>
    have HB : Hid (∀ r, r < len → L r ≤ 1048576 ∧ ∀ c, c < L r → (Z r c).size ≤ 1048576) := hb rfl
    clear hb hL hZ
    by_cases h4096 : len ≤ 4096
    · go_wp2_with fail
      refine (fit_any G hlen HB.out).mono ?_
      rintro e w' ⟨⟨b, rfl, hb⟩, n, rfl⟩
      cases b with
      | false =>
        go_wp2_with fail
        go_ret
        exact ⟨rfl, belowN w n⟩
      | true =>
        have HL : Hid (∀ r, r < len → L r = L 0) := hb rfl
        clear hb
        have hw0 : 0 < w.heap.size := by have := World.block_lt_of_cell? _ _ T.t0; exact this
        have hmk25 := run_make_row' (P := Tryf.prog) 25 26 (.slice none 0 0) 24 Tryf.underlying25 Tryf.info26 rfl .i64 .i64 len (by omega) hlen
        by_cases hl0 : 0 < len
        · have ha := G.adr hl0
          subst ha
          have hrow0 : w.cell? ⟨gb, go, none⟩ = some (.slice (A 0) (L 0) (C 0)) := by simpa using G.row 0 hl0
          have hL0 := (HB.out 0 hl0).1
          go_wp2_with fail
          clear hrow0 hmk25
          go_loopg [5] len (fun g i wr => ∃ t : Nat, ∃ K : Nat → Nat, t ≤ len ∧ g = len - t ∧ i = .int .i64 t ∧ Outer w wr len (L 0) t K Z)
          case atStart => exact ⟨0, fun _ => 0, Nat.zero_le _, rfl, rfl, outer_start w n len (L 0) _ Z⟩
          case round =>
            obtain ⟨t, K, ht, rfl, rfl, hO⟩ := hrel
            by_cases hlt : t < len
            · have hmk26 := run_make_row' (P := Tryf.prog) 26 27 (.int .i64 0) 8 Tryf.underlying26 Tryf.info27 rfl .i64 .i64 (L 0) (by omega) (by omega)
              go_wp2_with fail
              have hI0 := inner_start hO
              clear hmk26 hO
              generalize wr.heap.size = q at hI0 ⊢
              generalize (wr.alloc (.cells (madeCells #[.int .i64 0] (L 0)) 27)) = wr0 at hI0 ⊢
              go_loopg [7] (L 0) (fun g i wi => ∃ r : Nat, r ≤ L 0 ∧ g = L 0 - r ∧ i = .int .i64 r ∧ Inner w wi len (L 0) t r q K Z)
              case atStart => exact ⟨0, Nat.zero_le _, rfl, rfl, hI0⟩
              case round =>
                obtain ⟨r, hr, rfl, rfl, hI⟩ := hrel
                clear hI0
                by_cases hrl : r < L 0
                · have hrt : r < L t := by have := HL.out t hlt; omega
                  obtain ⟨hAt, hcz⟩ := G.cell t hlt r hrt
                  have g1 : wr.cell? ⟨gb, go + t, none⟩ = some (.slice (some ⟨Ab t, Ao t, none⟩) (L t) (C t)) := by
                    rw [hI.bel.cell (p := ⟨gb, go + t, none⟩) (World.block_lt_of_cell? _ _ (G.row t hlt)), G.row t hlt, hAt]
                  have g2 : wr.cell? ⟨Ab t, Ao t + r, none⟩ = some (.string (Z t r)) := by
                    rw [hI.bel.cell (p := ⟨Ab t, Ao t + r, none⟩) (World.block_lt_of_cell? _ _ hcz)]
                    exact hcz
                  have hcv := conv_to
                  have hgb : gb < wr.heap.size := World.block_lt_of_cell? _ _ g1
                  have hab : Ab t < wr.heap.size := World.block_lt_of_cell? _ _ g2
                  clear hAt hcz
                  have hwr0 : 0 < wr.heap.size := by have := hI.bel.size; omega
                  have hTr : Texts wr := T.below hI.bel hw0
                  by_cases hyes : 0 ≤ cls (Z t r).toList
                  · go_wp2_with fail
                    refine (unm_yes_at wr (Z t r) _ _ _ _ rfl hTr hwr0 hyes).mono ?_
                    rintro e w3 ⟨rfl, hL1⟩
                    obtain ⟨hb3, hst⟩ := hL1
                    have hI3 := inner_below hI hb3
                    have k1 : w3.cell? ⟨gb, go + t, none⟩ = some (.slice (some ⟨Ab t, Ao t, none⟩) (L t) (C t)) := (hb3.cell (p := ⟨gb, go + t, none⟩) hgb).trans g1
                    have k2 : w3.cell? ⟨Ab t, Ao t + r, none⟩ = some (.string (Z t r)) := (hb3.cell (p := ⟨Ab t, Ao t + r, none⟩) hab).trans g2
                    have k3 : w3.cell? ⟨q, r, none⟩ = some (.int .i64 0) := by simpa using hI3.cur.cell hrl
                    have k4 : w3.frozen? ⟨q, r, none⟩ = false := hI3.cur.frozen r
                    have hisb : isSt (Z t r).toList = true := by simp [isSt]; omega
                    generalize wr.heap.size = pb at hst ⊢
                    clear g1 g2 hcv hgb hab hwr0 hTr hb3
                    go_wp2_with fail
                    refine (is_any _ _).mono ?_
                    rintro e w' ⟨rfl, rfl⟩
                    go_wp2_with fail
                    go_roundg (L 0 - (r + 1))
                    case measure => omega
                    case rel => exact ⟨r + 1, by omega, rfl, by go_num, inner_step hI3⟩
                  · have hFr : F.answers wr.tape := by rw [hI.bel.tape]; exact hF
                    go_wp2_with fail
                    refine (unm_no_at F wr (Z t r) _ _ _ _ rfl hFr hTr hwr0 (by omega)).mono ?_
                    rintro e w3 ⟨⟨x, rfl⟩, hL1⟩
                    obtain ⟨hb3, hst⟩ := hL1
                    have hI3 := inner_below hI hb3
                    have k1 : w3.cell? ⟨gb, go + t, none⟩ = some (.slice (some ⟨Ab t, Ao t, none⟩) (L t) (C t)) := (hb3.cell (p := ⟨gb, go + t, none⟩) hgb).trans g1
                    have k2 : w3.cell? ⟨Ab t, Ao t + r, none⟩ = some (.string (Z t r)) := (hb3.cell (p := ⟨Ab t, Ao t + r, none⟩) hab).trans g2
                    have k3 : w3.cell? ⟨q, r, none⟩ = some (.int .i64 0) := by simpa using hI3.cur.cell hrl
                    have k4 : w3.frozen? ⟨q, r, none⟩ = false := hI3.cur.frozen r
                    have hisb : isSt (Z t r).toList = false := by simp [isSt]; omega
                    generalize wr.heap.size = pb at hst ⊢
                    clear g1 g2 hcv hgb hab hwr0 hTr hb3
                    go_wp2_with fail
                    refine (is_any _ _).mono ?_
                    rintro e w' ⟨rfl, rfl⟩
                    go_wp2_with fail
                    go_roundg (L 0 - (r + 1))
                    case measure => omega
                    case rel => exact ⟨r + 1, by omega, rfl, by go_num, inner_step hI3⟩
                · have er : L 0 = r := by omega
                  have hI3 : Inner w wr len (L 0) t (L 0) q K Z := by rw [er]; rw [er] at hI; exact hI
                  clear hI
                  have g1 : wr.cell? ⟨w.heap.size, t, none⟩ = some (topv K (L 0) t t) := hI3.top.cell hlt
                  have g2 : wr.frozen? ⟨w.heap.size, t, none⟩ = false := hI3.top.frozen t
                  clear er
                  go_wp2_with fail
                  go_roundg (len - (t + 1))
                  case measure => omega
                  case rel => exact ⟨t + 1, _, by omega, rfl, by go_num, inner_done hI3⟩
            · have et : len = t := by omega
              subst et
              go_wp2_with fail
              refine (new_any _ _ _).mono ?_
              rintro e w' ⟨rfl, o, rfl, hc⟩
              have B := built_of hO o hc
              have hbel := hO.bel.alloc hO.bel.size o
              clear hc hO
              generalize hS : wr.heap.size = S at B ⊢
              generalize hwb : wr.alloc o = wb at B hbel ⊢
              clear hS hwb
              have hTb : Texts wb := T.below hbel hw0
              go_wp2_with fail
              go_loopg [11] len (fun g i wx => wb = wx ∧ ∃ t : Nat, t ≤ len ∧ g = len - t ∧ i = .int .i64 t)
              case atStart => exact ⟨rfl, 0, Nat.zero_le _, rfl, rfl⟩
              case round =>
                obtain ⟨rfl, t, ht, rfl, rfl⟩ := hrel
                by_cases htl : t < len
                · go_wp2_with fail
                  go_loopg [12] (L 0) (fun g i wx => wb = wx ∧ ∃ r : Nat, r ≤ L 0 ∧ g = L 0 - r ∧ i = .int .i64 r)
                  case atStart => exact ⟨rfl, 0, Nat.zero_le _, rfl, rfl⟩
                  case round =>
                    obtain ⟨rfl, r, hr, rfl, rfl⟩ := hrel
                    by_cases hrl : r < L 0
                    · have hrt : r < L t := by have := HL.out t htl; omega
                      obtain ⟨hAt, hcz⟩ := G.cell t htl r hrt
                      have g1 : wb.cell? ⟨gb, go + t, none⟩ = some (.slice (some ⟨Ab t, Ao t, none⟩) (L t) (C t)) := by
                        rw [hbel.cell (p := ⟨gb, go + t, none⟩) (World.block_lt_of_cell? _ _ (G.row t htl)), G.row t htl, hAt]
                      have g2 : wb.cell? ⟨Ab t, Ao t + r, none⟩ = some (.string (Z t r)) := by
                        rw [hbel.cell (p := ⟨Ab t, Ao t + r, none⟩) (World.block_lt_of_cell? _ _ hcz)]
                        exact hcz
                      have hsr := sc_range (Z t r)
                      clear hAt hcz
                      by_cases hyes : 0 ≤ cls (Z t r).toList
                      · have hisb : isSt (Z t r).toList = true := by simp [isSt]; omega
                        go_wp2_with fail
                        refine (is_any _ _).mono ?_
                        rintro e w' ⟨rfl, rfl⟩
                        go_wp2_with fail
                        refine (status_any B t r htl hrl).mono ?_
                        rintro e w' ⟨rfl, rfl⟩
                        go_wp2_with fail
                        refine (string_at _ (Z t r) (txt_of_yes _ hyes) hsr.1 hsr.2 _ hTb).mono ?_
                        rintro e w' ⟨rfl, rfl⟩
                        go_wp2_with fail
                        go_roundg (L 0 - (r + 1))
                        case measure => omega
                        case rel => exact ⟨rfl, r + 1, by omega, rfl, by go_num⟩
                      · have hisb : isSt (Z t r).toList = false := by simp [isSt]; omega
                        go_wp2_with fail
                        refine (is_any _ _).mono ?_
                        rintro e w' ⟨rfl, rfl⟩
                        go_wp2_with fail
                        refine (status_any B t r htl hrl).mono ?_
                        rintro e w' ⟨rfl, rfl⟩
                        go_wp2_with fail
                        refine (string_at _ _ (txt_of_no _ (by omega)) hsr.1 hsr.2 _ hTb).mono ?_
                        rintro e w' ⟨rfl, rfl⟩
                        go_wp2_with fail
                        go_roundg (L 0 - (r + 1))
                        case measure => omega
                        case rel => exact ⟨rfl, r + 1, by omega, rfl, by go_num⟩
                    · go_wp2_with fail
                      go_roundg (len - (t + 1))
                      case measure => omega
                      case rel => exact ⟨rfl, t + 1, by omega, rfl, by go_num⟩
                · go_wp2_with fail
                  go_ret
                  exact ⟨rfl, hbel⟩
        · go_wp2_with fail
          refine wp_loop_rounds 1 ?_
          rw [rounds_succ]
          go_wp2_with fail
          refine (new_any _ _ _).mono ?_
          rintro e w' ⟨rfl, o, rfl, hc⟩
          clear hc
          go_wp2_with fail
          refine wp_loop_rounds 1 ?_
          rw [rounds_succ]
          go_wp2_with fail
          go_ret
          exact ⟨rfl, ((belowN w n).alloc (Nat.le_refl _) _).alloc (by simp) _⟩
    · go_wp2_with fail
      go_ret
      exact ⟨rfl, Below.refl _ _⟩
end Go.Proofs.Qxb6615588aFmt
