/-
  The told and tied card of FnStatusGivesBackTheTextItWasReadFrom: the walk lifted to the given statement.
-/
import Derived.Test.Qxb6615588aFmtLaw
import Derived.Test.Qxb6615588aFmtTie
import Derived.Test.Qxb6615588aFmtCards
import Derived.ProofKit
import Derived.ChangeVars
import Derived.SliceStrings
import Derived.OpenShut
import Derived.Carry
import Derived.WalkSmall
import Derived.LaidMore
import Derived.Stop.Joined
import Derived.Stop.JoinedTold
import Derived.SevenTiedAt
import Derived.Deep.Slices
import Derived.Deep.DeepWitnessRef
namespace Go.Proofs.Qxb6615588aFmt
open Go.ChangeShapes Go.WideShapes Go.ChangeAt Go.RowKit Go.Deep Go.Stop
set_option linter.unusedVariables false

theorem own : ownKnob Tryf.prog.godebug = none := by kernel_rfl
theorem laidOut : laidOutB Tryf.pinned.checked.prog = true := by kernel_rfl
theorem Tryf.cells24 : Tryf.prog.cellsOf 24 = 1 := by kernel_rfl
theorem Tryf.cells9 : Tryf.prog.cellsOf 9 = 1 := by kernel_rfl
theorem Tryf.cells39 : Tryf.prog.cellsOf 39 = 4 := by kernel_rfl

/-- The table's name in the dump. -/
def nm : String := Rows.fnStatusGivesBackTheTextItWasReadFromSpec.vars.headD ""
theorem gTab : Tryf.prog.globalNamed nm = some 0 := by kernel_rfl
theorem tTab : (Tryf.prog.globals[0]?).map (·.type) = some 39 := by kernel_rfl

theorem str_of_bytes {s : ByteArray} {l : List UInt8} (h : s.data.toList = l) : s = ⟨l.toArray⟩ := by
  obtain ⟨⟨m⟩⟩ := s
  simp at h
  rw [h]

/-- WHAT THE CONDITION GIVES THE WALKS: the table's four cells. -/
theorem texts_of {W : World} (h : laidMetH Tryf.prog Rows.fnStatusGivesBackTheTextItWasReadFromRow.laid W) : Texts W := by
  rw [MakeChecks.laidMetH_plain _ _ _ (by kernel_rfl)] at h
  obtain ⟨ps, ⟨g0, t0, cs0, f0, p0, q0, hg0, ht0, hv0, hd0, _⟩, _, _⟩ := h
  obtain rfl := Option.some.inj (gTab.symm.trans hg0)
  obtain rfl := Option.some.inj (tTab.symm.trans ht0)
  obtain ⟨xs, m1, rfl, hx1, hlen, hn4, hel⟩ := DataW.trod_array Tryf.underlying39 hd0
  simp only [Rows.laid_example_com_rowcall_rowcall_internal_shift_statusTexts, Prod.mk.injEq, DataW.agg.injEq] at hx1
  have each : ∀ i, i < 4 → ∀ l : List UInt8, (xs.map (·.1))[i]? = some (.lit (.string l)) → W.cell? ⟨0, i, none⟩ = some (.string ⟨l.toArray⟩) := by
    intro i hi l hl
    have h1 := hel i hi
    rw [List.getElem?_map, Option.map_eq_some_iff] at hl
    obtain ⟨x, hx, hxl⟩ := hl
    rw [hx, Tryf.cells9, Nat.mul_one] at h1
    obtain ⟨s, hs, hxs, _⟩ := DataW.trod_string Tryf.underlying9 h1
    subst hxs
    simp only [DataW.lit.injEq, Lit.string.injEq] at hxl
    rw [str_of_bytes hxl] at hs
    have hc := World.var?_cell hg0 hv0 i
    rw [hc]
    have h2 : (cs0.toList.drop i).head? = some (.string ⟨l.toArray⟩) := by
      have := congrArg List.head? hs
      rw [List.head?_take] at this
      simpa using this
    rw [List.head?_drop] at h2
    simpa using h2
  exact ⟨each 0 (by omega) _ (by rw [← hx1.1]; rfl), each 1 (by omega) _ (by rw [← hx1.1]; rfl), each 2 (by omega) _ (by rw [← hx1.1]; rfl), each 3 (by omega) _ (by rw [← hx1.1]; rfl)⟩

/-- The door's own heap meets the condition. -/
theorem door_met (os : Os) (args : Array Value) : laidMetH Tryf.prog Rows.fnStatusGivesBackTheTextItWasReadFromRow.laid ((World.doorLaid Tryf.prog 14 os).forCall (fun _ _ => 0) ⟨#[], args, []⟩).memory :=
  laidMetH_of_parts3 (fuel := 8) (laidMet_of_run' 8 (by kernel_rfl) (by kernel_rfl)) (by kernel_rfl) (by kernel_rfl)

section
variable {H : Type} {enc : TypeId × Value → H} {w : World}

/-- A slice of slices of strings that came in. -/
theorem open_str_rows {fuel : Nat} {cs : List Value} {x : DataW H × List MemPlace} (h : DataW.trod enc Tryf.prog w 0 (fun _ => true) true fuel 22 cs = some x) :
    cs = [.slice none 0 0] ∨
    ∃ (a : Addr) (len cap : Nat) (A : Nat → Option Addr) (L C : Nat → Nat) (Z : Nat → List ByteArray), cs = [.slice (some a) len cap] ∧ len ≤ cap ∧ cap ≤ maxLen ∧
      ∀ r, r < cap → w.cell? (a.add r) = some (.slice (A r) (L r) (C r)) ∧ L r ≤ C r ∧ C r ≤ maxLen ∧ (∀ s ∈ Z r, s.size ≤ maxLen) ∧ (Z r).length = C r ∧ (A r = none → C r = 0) ∧
        ∀ a', A r = some a' → ∀ c, c < C r → w.cell? (a'.add c) = some (.string ((Z r).getD c ByteArray.empty)) := by
  rcases open_slice1 Tryf.underlying22 Tryf.cells24 h with h0 | ⟨a, len, cap, m, n, V, D, Pl, rfl, _, hl, hm, hmm, rfl, hx⟩
  · exact Or.inl h0.1
  right
  simp only [if_true] at hmm
  have hmm' := hmm.symm
  subst hmm'
  have each : ∀ r, r < cap → ∃ y : Option Addr × Nat × Nat × List ByteArray, V r = .slice y.1 y.2.1 y.2.2.1 ∧ y.2.1 ≤ y.2.2.1 ∧ y.2.2.1 ≤ maxLen ∧ (∀ s ∈ y.2.2.2, s.size ≤ maxLen) ∧ y.2.2.2.length = y.2.2.1 ∧ (y.1 = none → y.2.2.1 = 0) ∧
      ∀ a', y.1 = some a' → ∀ c, c < y.2.2.1 → w.cell? (a'.add c) = some (.string (y.2.2.2.getD c ByteArray.empty)) := by
    intro r hr
    rcases open_strings Tryf.underlying24 Tryf.underlying9 Tryf.cells9 (hx r hr).2 with ⟨hcs, _⟩ | ⟨a', len', cap', ss, hcs, _, hl', hm', hz, _, hcell, hws⟩
    · exact ⟨(none, 0, 0, []), by simpa using hcs, Nat.le_refl _, Nat.zero_le _, by simp, rfl, fun _ => rfl, fun _ hh => by cases hh⟩
    · simp only [if_true] at hz
      refine ⟨(some a', len', cap', ss), by simpa using hcs, hl', hm', hws, hz, (fun hh => by cases hh), fun a'' hh c hc => ?_⟩
      cases hh
      exact hcell c (by rw [hz]; exact hc)
  obtain ⟨y, hy⟩ := choose_lt each
  refine ⟨a, len, cap, fun r => (y r).1, fun r => (y r).2.1, fun r => (y r).2.2.1, fun r => (y r).2.2.2, rfl, hl, hm, fun r hr => ?_⟩
  obtain ⟨e1, r1, r2, r3, r4, r5, r6⟩ := hy r hr
  exact ⟨by rw [(hx r hr).1, e1], r1, r2, r3, r4, r5, r6⟩
end

theorem walk_grid (F : Interp) {w : World} {a : Addr} {len cap : Nat} {A : Nat → Option Addr} {L C : Nat → Nat} {Z : Nat → List ByteArray} (T : Texts w) (hF : F.answers w.tape) (hl : len ≤ cap) (hm : cap ≤ maxLen)
    (hrows : ∀ r, r < cap → w.cell? (a.add r) = some (.slice (A r) (L r) (C r)) ∧ L r ≤ C r ∧ C r ≤ maxLen ∧ (∀ s ∈ Z r, s.size ≤ maxLen) ∧ (Z r).length = C r ∧ (A r = none → C r = 0) ∧
        ∀ a', A r = some a' → ∀ c, c < C r → w.cell? (a'.add c) = some (.string ((Z r).getD c ByteArray.empty))) :
    Calls Tryf.prog 3 #[.slice (some a) len cap] w (LawPost w) := by
  obtain ⟨gb, go, gs⟩ := a
  have hgs : 0 < len → gs = none := fun h => by simpa [Addr.add] using World.cell?_spot (hrows 0 (by omega)).1
  refine law_any F (gb := gb) (go := go) (A := A) (L := L) (C := C) (Ab := fun r => ((A r).getD default).block) (Ao := fun r => ((A r).getD default).off) (Z := fun r c => (Z r).getD c ByteArray.empty) ⟨fun h => by rw [hgs h], fun r hr => ?_, fun r hr c hc => ?_⟩ T hF
    (by unfold maxLen at hm; omega) (fun r hr => ?_) (fun r hr c hc => ?_)
  · have h := (hrows r (by omega)).1
    have hs := hgs (by omega)
    subst hs
    rw [add_plain] at h
    exact h
  · obtain ⟨_, h1, _, _, _, h3, h4⟩ := hrows r (by omega)
    cases hA : A r with
    | none => have := h3 hA; omega
    | some a' =>
      obtain ⟨ab, ao, asp⟩ := a'
      have hcell := h4 _ hA
      have has : asp = none := by simpa [Addr.add] using World.cell?_spot (hcell 0 (by omega))
      subst has
      exact ⟨rfl, by have := hcell c (by omega); rwa [add_plain] at this⟩
  · obtain ⟨_, h1, h2, _⟩ := hrows r (by omega)
    unfold maxLen at h2
    omega
  · obtain ⟨_, h1, _, h3, h4, _⟩ := hrows r (by omega)
    have hlt : c < (Z r).length := by omega
    have := h3 _ (List.getElem_mem hlt)
    unfold maxLen at this
    simpa [List.getD, hlt] using this

set_option maxRecDepth 100000 in
theorem lifted (os : Os) (started : os.Started) (H : Type) (enc : TypeId × Value → H) :
    ReturnsInTold none {} Tryf.checked os 3 .any Input.okWide ((OpenSpec.ofChange Rows.fnStatusGivesBackTheTextItWasReadFromSpec).preRow enc Tryf.prog Tryf.f3 Rows.fnStatusGivesBackTheTextItWasReadFromRow.domain false Rows.fnStatusGivesBackTheTextItWasReadFromRow.laid)
      (fun F => ((OpenSpec.ofChange Rows.fnStatusGivesBackTheTextItWasReadFromSpec).at F).post enc Tryf.prog Tryf.f3 false true false false) (aloneAtReturn Tryf.prog) nothingAlways := by
  refine returnsInTold_of_row (C := Tryf.checked) (s := OpenSpec.ofChange Rows.fnStatusGivesBackTheTextItWasReadFromSpec) (by kernel_rfl) own started (by kernel_rfl) Tryf.func3
    (OpenSpec.witness_stopped_atRef (enc := enc) (C := Tryf.checked) false (World.doorLaid Tryf.prog 14 os) #[.slice none 0 0] rfl (by kernel_rfl) (by kernel_rfl) (by kernel_rfl) (OpenSpec.preRow_of_B rfl 8 (by kernel_rfl) (by kernel_rfl) (door_met os _))) ?_
  intro F W base args ds gs before _ hF hval0 hW _ _ _ hL _
  have hT := texts_of hL
  have hval : ∀ (j : Nat) t v, Tryf.f3.params[j]? = some t → args[j]? = some v → Value.okWide Tryf.prog W .any base t v := hval0
  have hW' := hW
  obtain ⟨p, q, hA0, hV0, rfl, hfz, hnd⟩ := hW
  have hA : DataW.TrodAll enc Tryf.prog W 0 (fun _ => true) true Tryf.f3.params.toList args.toList ds p := hA0
  have hV : DataW.TrodVars enc Tryf.prog W (fun _ => true) [nm] gs q := hV0
  rw [Tryf.params3] at hA hval
  obtain ⟨v0, d0, rfl, rfl, h0⟩ := trodAll_one hA
  obtain ⟨g, t, cs, fuelv, d, p', rfl, hg, ht, hvar, hd, rfl⟩ := trodVars_one hV
  obtain rfl := Option.some.inj (gTab.symm.trans hg)
  obtain rfl := Option.some.inj (tTab.symm.trans ht)
  obtain ⟨a0, len0, cap0, rfl⟩ := okWide_slice Tryf.underlying22 (hval 0 22 v0 rfl rfl)
  have k0 := h0
  have lt0 : ∀ x ∈ p, x.block < W.heap.size := by obtain ⟨m, hm⟩ := k0; exact DataW.trod_lt m _ _ _ hm
  have ltv : ∀ x ∈ p', x.block < W.heap.size := DataW.trod_lt fuelv _ _ _ hd
  have hwalk : Calls Tryf.prog 3 #[.slice a0 len0 cap0] W (LawPost W) := by
    obtain ⟨fuel, hf⟩ := h0
    rcases open_str_rows hf with hcs | ⟨a, len', cap', A, L, C, Z, hcs, hl, hm, hrows⟩
    · simp [Value.cells] at hcs
      obtain ⟨rfl, rfl, rfl⟩ := hcs
      exact law_any F.told (gb := 0) (go := 0) (A := fun _ => none) (L := fun _ => 0) (C := fun _ => 0) (Ab := fun _ => 0) (Ao := fun _ => 0) (Z := fun _ _ => ByteArray.empty)
        ⟨fun h => absurd h (Nat.lt_irrefl _), fun r hr => absurd hr (Nat.not_lt_zero _), fun r hr => absurd hr (Nat.not_lt_zero _)⟩ hT hF (by omega) (fun r hr => absurd hr (Nat.not_lt_zero _)) (fun r hr => absurd hr (Nat.not_lt_zero _))
    · simp [Value.cells] at hcs
      obtain ⟨rfl, rfl, rfl⟩ := hcs
      exact walk_grid F.told hT hF hl hm hrows
  have hlt0 : 0 < W.heap.size := World.block_lt_of_cell? _ _ hT.t0
  clear hA0 hval0 hV0
  refine hwalk.mono fun e W' ⟨he, bel⟩ => ?_
  subst he
  obtain ⟨fuel', hd'⟩ := Below.trod laidOut (by kernel_rfl) (of_decide_eq_true (by kernel_rfl)) (v := .agg cs) (⟨fuelv, by simpa [Value.cells] using hd⟩ : DataW.Trod enc Tryf.prog W 0 (fun _ => true) true 39 (.agg cs) d p') bel ltv
  have hv' := trodVars_mk1 (enc := enc) (spare := fun b => decide (b < W.heap.size)) hg ht (var?_below bel hg hlt0 hvar) (by exact hd')
  exact ⟨_, rfl, _, _, _, [], p, MemPlace.row ⟨0, 0, none⟩ cs.size ++ p', hW', trodAll_mk1 (shut_bool Tryf.underlying4 _), trodAll_mk1 (Below.trod laidOut (by kernel_rfl) (of_decide_eq_true (by kernel_rfl)) k0 bel lt0), hv', bel.frame _, fun h => by cases h⟩

theorem stops : Tryf.pinned.checked.prog.stops = ["fmt.Sprintf", "fmt.errorf"] := by kernel_rfl
theorem stopKnobs : Tryf.pinned.checked.prog.stopKnobs = [] := by kernel_rfl
theorem quiet (os : Os) : Stop.quiet Tryf.pinned.checked.prog os := by
  intro k hk
  rw [stopKnobs] at hk
  cases hk

/-- THE STATEMENT. -/
theorem proved : Rows.FnStatusGivesBackTheTextItWasReadFromToldSaid :=
  Claim7.holds_of_told_tied_any_at .later 3 Tryf.f3 "fmt.Sprintf" ["fmt.errorf"] [] _ _ _ _ _ (by kernel_rfl) rfl rfl rfl laidOut (by kernel_rfl) rfl ⟨rfl, rfl, rfl, rfl, rfl, rfl, rfl⟩ rfl rfl (by kernel_rfl) (by kernel_rfl) Tryf.func3 (by kernel_rfl)
    (of_decide_eq_true (by kernel_rfl)) (by unfold Func.isWrapper; first | (rw [if_pos (by decide +kernel)]; kernel_rfl) | (rw [if_neg (by decide +kernel)]; exact ⟨rfl, rfl⟩)) stops.symm rfl stopKnobs.symm (by kernel_rfl)
    (by kernel_rfl) (by kernel_rfl) (by kernel_rfl) (by kernel_rfl) (by kernel_rfl) (by kernel_rfl) (by kernel_rfl) (by kernel_rfl) (by kernel_rfl) rfl (by kernel_rfl) rfl rfl
    rfl rfl
    rfl (by kernel_rfl) (by kernel_rfl) (by kernel_rfl) (by decide) (by kernel_rfl) fnStatusGivesBackTheTextItWasReadFrom_row_tie
    (OpenClaim.moreEntering_of (by kernel_rfl) (by kernel_rfl) (by kernel_rfl) (by kernel_rfl) (by kernel_rfl) (by kernel_rfl) (by kernel_rfl) (by kernel_rfl) (by kernel_rfl) (by kernel_rfl))
    ⟨_, WideRow.started_initial, quiet _⟩
    (fun os started _ H enc _ => lifted os started H enc)
end Go.Proofs.Qxb6615588aFmt
