/-
  The row of FnStatusDoneChainsReady: the walk lifted to the given statement.
-/
import Derived.Test.Qxb6615588aLaw
import Derived.ProofKit
import Derived.ShutString
import Derived.ChangeOld
import Derived.Deep.Matrix
namespace Go.Proofs.Qxb6615588a
open Go.ChangeShapes Go.WideShapes Go.ChangeAt Go.RowKit Go.Deep
set_option linter.unusedVariables false

theorem own : ownKnob Try.prog.godebug = none := by kernel_rfl
theorem laidOut : laidOutB Try.prog = true := by kernel_rfl
theorem Try.cells30 : Try.prog.cellsOf 30 = 1 := by kernel_rfl
theorem Try.cells3 : Try.prog.cellsOf 3 = 1 := by kernel_rfl

theorem walk_grid {w : World} {a : Addr} {len cap : Nat} {A : Nat → Option Addr} {L C : Nat → Nat} {Z : Nat → List Int} (hl : len ≤ cap) (hm : cap ≤ maxLen)
    (hrows : ∀ r, r < cap → w.cell? (a.add r) = some (.slice (A r) (L r) (C r)) ∧ L r ≤ C r ∧ C r ≤ maxLen ∧ (Z r).length = C r ∧ (∀ n ∈ Z r, (Lit.int .i64 n).wf = true) ∧ (A r = none → C r = 0) ∧
        ∀ a', A r = some a' → 0 ≤ a'.block ∧ ∀ c, c < C r → w.cell? (a'.add c) = some (.int .i64 ((Z r).getD c 0))) :
    Calls Try.prog 5 #[.slice (some a) len cap] w (LawPost w) := by
  obtain ⟨gb, go, gs⟩ := a
  have hgs : 0 < len → gs = none := fun h => by simpa [Addr.add] using World.cell?_spot (hrows 0 (by omega)).1
  refine law_any (gb := gb) (go := go) (A := A) (L := L) (C := C) (Ab := fun r => ((A r).getD default).block) (Ao := fun r => ((A r).getD default).off) (Z := fun r c => (Z r).getD c 0) ⟨fun h => by rw [hgs h], fun r hr => ?_, fun r hr c hc => ?_⟩ (by unfold maxLen at hm; omega) (fun r hr => ?_)
  · have h := (hrows r (by omega)).1
    have hs := hgs (by omega)
    subst hs
    rw [add_plain] at h
    exact h
  · obtain ⟨_, h1, _, _, _, h3, h4⟩ := hrows r (by omega)
    cases hA : A r with
    | none => have := h3 hA; omega
    | some a' =>
      obtain ⟨ab, ao, asp⟩ := a'
      obtain ⟨_, hcell⟩ := h4 _ hA
      have has : asp = none := by simpa [Addr.add] using World.cell?_spot (hcell 0 (by omega))
      subst has
      exact ⟨rfl, by have := hcell c (by omega); rwa [add_plain] at this⟩
  · obtain ⟨_, h1, h2, _⟩ := hrows r (by omega)
    unfold maxLen at h2
    omega

set_option maxRecDepth 100000 in
theorem lifted (os : Os) (started : os.Started) (H : Type) (enc : TypeId × Value → H) :
    ReturnsInHanded {} Try.checked os 5 .any (Rows.fnStatusDoneChainsReadySpec.pre6 enc Try.prog Try.f5 Rows.fnStatusDoneChainsReadyRow.domain false) (Rows.fnStatusDoneChainsReadySpec.post enc Try.prog Try.f5 false true false false) := by
  refine returnsInHanded_of_change (C := Try.checked) own started (by kernel_rfl) Try.func5
    (ChangeSpec.witness6 (enc := enc) (C := Try.checked) false ⟨#[], #[.slice none 0 0], []⟩ 8 (by kernel_rfl) (by kernel_rfl) (by kernel_rfl) (by kernel_rfl)) ?_
  intro W base args ds gs before hval0 hW hcnd _
  have hval : ∀ (j : Nat) t v, Try.f5.params[j]? = some t → args[j]? = some v → Value.okWide Try.prog W .any base t v := hval0
  have hW' := hW
  obtain ⟨p, q, hA0, hV, rfl, hfz, hnd⟩ := hW
  have hA : DataW.TrodAll enc Try.prog W 0 (fun _ => true) true Try.f5.params.toList args.toList ds p := hA0
  rw [Try.params5] at hA hval
  obtain ⟨v0, vs0, d0, ds0, p0, q0, hargs, rfl, rfl, h0, r0⟩ := trodAll_cons hA
  obtain ⟨rfl, rfl, rfl⟩ := trodAll_nil r0
  obtain rfl : args = #[v0] := by cases args; simp_all
  obtain ⟨rfl, rfl⟩ := trodVars_none hV
  obtain ⟨a0, len0, cap0, rfl⟩ := okWide_slice Try.underlying28 (hval 0 28 v0 rfl rfl)
  have k0 := h0
  have lt0 : ∀ x ∈ p0, x.block < W.heap.size := by obtain ⟨m, hm⟩ := k0; exact DataW.trod_lt m _ _ _ hm
  have hwalk : Calls Try.prog 5 #[.slice a0 len0 cap0] W (LawPost W) := by
    obtain ⟨fuel, hf⟩ := h0
    rcases open_int_rows Try.underlying28 Try.underlying30 Try.underlying3 Try.cells30 Try.cells3 hf with ⟨hcs, _⟩ | ⟨a, len', cap', A, L, C, Z, hcs, _, hl, hm, _, hrows⟩
    · simp [Value.cells] at hcs
      obtain ⟨rfl, rfl, rfl⟩ := hcs
      exact law_any (gb := 0) (go := 0) (A := fun _ => none) (L := fun _ => 0) (C := fun _ => 0) (Ab := fun _ => 0) (Ao := fun _ => 0) (Z := fun _ _ => 0)
        ⟨fun h => absurd h (Nat.lt_irrefl _), fun r hr => absurd hr (Nat.not_lt_zero _), fun r hr => absurd hr (Nat.not_lt_zero _)⟩ (by omega) (fun r hr => absurd hr (Nat.not_lt_zero _))
    · simp [Value.cells] at hcs
      obtain ⟨rfl, rfl, rfl⟩ := hcs
      exact walk_grid hl hm hrows
  clear hA0 hval0
  refine hwalk.mono fun e W' ⟨he, bel⟩ => ?_
  subst he
  exact ⟨_, rfl, _, _, _, [], _, [], hW', trodAll_mk1 (shut_bool Try.underlying4 _), (trodAll_mk1 (Below.trod laidOut (by kernel_rfl) (of_decide_eq_true (by kernel_rfl)) k0 bel lt0)), rfl, bel.frame _, fun h => by cases h⟩

theorem over : Rows.fnStatusDoneChainsReadyRow.holds Try.pinned (OpenSpec.ofChange Rows.fnStatusDoneChainsReadySpec) :=
  OpenClaim.holds_of_wide 5 Try.f5 rfl rfl rfl rfl rfl rfl rfl ⟨rfl, rfl, rfl, rfl, rfl⟩ rfl rfl rfl rfl rfl (by kernel_rfl) Try.func5 (by kernel_rfl)
    (of_decide_eq_true (by kernel_rfl)) (by unfold Func.isWrapper; first | (rw [if_pos (by decide +kernel)]; kernel_rfl) | (rw [if_neg (by decide +kernel)]; exact ⟨rfl, rfl⟩))
    (fun os started H enc _ => lifted os started H enc)

/-- THE STATEMENT. -/
theorem proved : Rows.FnStatusDoneChainsReadySaid := over
end Go.Proofs.Qxb6615588a
