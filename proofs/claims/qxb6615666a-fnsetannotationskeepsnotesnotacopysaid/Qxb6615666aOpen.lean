/-
  From the readings of the two slices that came in to what the walks are told.
-/
import Derived.Test.Qxb6615666aNotes
import Derived.ProofKit
import Derived.SliceStrings
import Derived.Deep.Slices
namespace Go.Proofs.Qxb6615666a
open Go.ChangeShapes Go.WideShapes Go.ChangeAt Go.RowKit Go.Deep

theorem Try.cells3 : Try.prog.cellsOf 3 = 1 := by kernel_rfl
theorem Try.cells9 : Try.prog.cellsOf 9 = 1 := by kernel_rfl

theorem args_of {H : Type} {enc : TypeId × Value → H} {W : World} {a0 a1 : Option Addr} {n0 c0 n1 c1 : Nat} {d0 d1 : DataW H} {p0 p1 : List MemPlace}
    (h0 : DataW.Trod enc Try.prog W 0 (fun _ => true) true 25 (.slice a0 n0 c0) d0 p0) (h1 : DataW.Trod enc Try.prog W 0 (fun _ => true) true 26 (.slice a1 n1 c1) d1 p1) :
    ∃ (ob oo sb so : Nat) (O : Nat → Int) (S : Nat → ByteArray), Args W a0 n0 a1 n1 ob oo sb so O S ∧ n0 ≤ 9223372036854775807 ∧ n1 ≤ 9223372036854775807 ∧ ∀ j, j < n1 → (S j).size ≤ 9223372036854775807 := by
  have x0 : ∃ (ob oo : Nat) (O : Nat → Int), (0 < n0 → a0 = some ⟨ob, oo, none⟩) ∧ (a0 = none → n0 = 0) ∧ (∀ j, j < n0 → W.cell? ⟨ob, oo + j, none⟩ = some (.int .i64 (O j))) ∧ n0 ≤ 9223372036854775807 := by
    obtain ⟨fuel, hf⟩ := h0
    rcases open_ints Try.underlying25 Try.underlying3 Try.cells3 hf with ⟨hcs, _⟩ | ⟨x, l, c, zs, hcs, _, hl, hm, hz, _, hcell, hwz⟩
    · simp [Value.cells] at hcs
      obtain ⟨rfl, rfl, rfl⟩ := hcs
      exact ⟨0, 0, fun _ => 0, by omega, fun _ => rfl, by omega, by omega⟩
    · simp [Value.cells] at hcs
      obtain ⟨rfl, rfl, rfl⟩ := hcs
      simp only [if_true] at hz
      obtain ⟨b, o, s⟩ := x
      have hs : 0 < n0 → s = none := fun h => by simpa [Addr.add] using World.cell?_spot (hcell 0 (by omega))
      refine ⟨b, o, fun j => zs.getD j 0, fun h => by rw [hs h], fun h => by simp at h, fun j hj => ?_, by unfold maxLen at hm; omega⟩
      have h := hcell j (by omega)
      have hs' := hs (by omega)
      subst hs'
      rwa [add_plain] at h
  have x1 : ∃ (sb so : Nat) (S : Nat → ByteArray), (0 < n1 → a1 = some ⟨sb, so, none⟩) ∧ (∀ j, j < n1 → W.cell? ⟨sb, so + j, none⟩ = some (.string (S j))) ∧ n1 ≤ 9223372036854775807 ∧ ∀ j, j < n1 → (S j).size ≤ 9223372036854775807 := by
    obtain ⟨fuel, hf⟩ := h1
    rcases open_strings Try.underlying26 Try.underlying9 Try.cells9 hf with ⟨hcs, _⟩ | ⟨x, l, c, ss, hcs, _, hl, hm, hz, _, hcell, hws⟩
    · simp [Value.cells] at hcs
      obtain ⟨rfl, rfl, rfl⟩ := hcs
      exact ⟨0, 0, fun _ => ByteArray.empty, by omega, by omega, by omega, by omega⟩
    · simp [Value.cells] at hcs
      obtain ⟨rfl, rfl, rfl⟩ := hcs
      simp only [if_true] at hz
      obtain ⟨b, o, s⟩ := x
      have hs : 0 < n1 → s = none := fun h => by simpa [Addr.add] using World.cell?_spot (hcell 0 (by omega))
      refine ⟨b, o, fun j => ss.getD j ByteArray.empty, fun h => by rw [hs h], fun j hj => ?_, by unfold maxLen at hm; omega, fun j hj => ?_⟩
      · have h := hcell j (by omega)
        have hs' := hs (by omega)
        subst hs'
        rwa [add_plain] at h
      · have hlt : j < ss.length := by omega
        have := hws _ (List.getElem_mem hlt)
        unfold maxLen at this
        simpa [List.getD, hlt] using this
  obtain ⟨ob, oo, O, e1, e2, e3, e4⟩ := x0
  obtain ⟨sb, so, S, f1, f2, f3, f4⟩ := x1
  exact ⟨ob, oo, sb, so, O, S, ⟨e1, e2, e3, f1, f2⟩, e4, f3, f4⟩
end Go.Proofs.Qxb6615666a
