/-
  The walks over the road of the two SetAnnotations laws: the two methods of Annotated.
-/
import Derived.Test.Qxb6615666aNotes
namespace Go.Proofs.Qxb6615666a
open Go.RowKit Go.Deep

/-- Behind a SetAnnotations on the value in block pb: all other blocks are as they were; the streams too. -/
structure Turned (pb : Nat) (w w' : World) : Prop where
  os : w'.os = w.os
  tape : w'.tape = w.tape
  output : w'.output = w.output
  size : w'.heap.size = w.heap.size + 1
  oth : ∀ b, b < w.heap.size → b ≠ pb → w'.heap[b]? = w.heap[b]?
  free : w.frozen? ⟨pb, 0, none⟩ = false → w'.frozen? ⟨pb, 0, none⟩ = false

theorem Turned.below {pb B : Nat} {w0 w w' : World} (h : Turned pb w w') (hb : Below B w0 w) (hB : B ≤ pb) (hs : B ≤ w.heap.size) : Below B w0 w' :=
  hb.trans ⟨h.os, h.tape, h.output, by rw [h.size]; omega, fun k hk => h.oth k (by omega) (by omega)⟩

theorem Turned.cell {pb : Nat} {w w' : World} (h : Turned pb w w') {a : Addr} (h1 : a.block < w.heap.size) (h2 : a.block ≠ pb) : w'.cell? a = w.cell? a := World.cell?_of_block (w := w) (h.oth _ h1 h2)
theorem Turned.frozen {pb : Nat} {w w' : World} (h : Turned pb w w') {a : Addr} (h1 : a.block < w.heap.size) (h2 : a.block ≠ pb) : w'.frozen? a = w.frozen? a := World.frozen?_of_block (w := w) (h.oth _ h1 h2)
theorem Turned.row {pb b n : Nat} {O : Nat → Int} {S : Nat → ByteArray} {w w' : World} (h : Turned pb w w') (hN : NoteRow w b n O S) (h2 : b ≠ pb) : NoteRow w' b n O S := World.rowIs.of_block hN (h.oth _ (World.rowIs.lt hN) h2)

theorem turned_of (pb : Nat) (w : World) (v p : Value) (hpb : pb < w.heap.size) : Turned pb w ((w.setCell ⟨pb, 0, none⟩ p).alloc (.cells #[v] 28)) := by
  have hsz : (w.setCell ⟨pb, 0, none⟩ p).heap.size = w.heap.size := by simp
  refine ⟨rfl, rfl, rfl, by simp, fun b hb hne => ?_, fun hf => ?_⟩
  · rw [Below.heap_alloc _ _ _ (by rw [hsz]; exact hb), Below.heap_setCell _ _ _ _ (by show b ≠ pb; exact hne)]
  · rw [World.frozen?_alloc_old _ _ _ (by rw [hsz]; exact Nat.ne_of_lt hpb)]
    simpa using hf

theorem cell_set (pb : Nat) (w : World) (o : Obj) (p old : Value) (hc : w.cell? ⟨pb, 0, none⟩ = some old) : ((w.setCell ⟨pb, 0, none⟩ p).alloc o).cell? ⟨pb, 0, none⟩ = some p := by
  rw [World.cell?_alloc_lt _ _ _ (by simpa using World.block_lt_of_cell? _ _ hc)]
  exact World.cell?_setCell_same w _ _ hc

theorem cell_new (pb : Nat) (w : World) (v p : Value) : ((w.setCell ⟨pb, 0, none⟩ p).alloc (.cells #[v] 28)).cell? ⟨w.heap.size, 0, none⟩ = some v := by
  have hsz : (w.setCell ⟨pb, 0, none⟩ p).heap.size = w.heap.size := by simp
  have h : ((w.setCell ⟨pb, 0, none⟩ p).alloc (.cells #[v] 28)).cell? ⟨(w.setCell ⟨pb, 0, none⟩ p).heap.size, 0, none⟩ = some v := World.cell?_alloc_mark _ _ _ _ 0
  rwa [hsz] at h

def SetPost (pb : Nat) (x : Option Addr) (n c : Nat) (w : World) (e : Ending) (w' : World) : Prop :=
  e = .returned (.tuple #[]) ∧ Turned pb w w' ∧ w'.cell? ⟨pb, 0, none⟩ = some (.pointer (some ⟨w.heap.size, 0, none⟩)) ∧ w'.cell? ⟨w.heap.size, 0, none⟩ = some (.slice x n c)

theorem set_some (pb : Nat) (x : Option Addr) (n c : Nat) (w : World) (old : Value) (h0 : 0 < n) (hc : w.cell? ⟨pb, 0, none⟩ = some old) (hf : w.frozen? ⟨pb, 0, none⟩ = false) :
    Calls Try.prog 10 #[.pointer (some ⟨pb, 0, none⟩), .slice x n c] w (SetPost pb x n c w) := by
  have hlt : pb < w.heap.size := World.block_lt_of_cell? _ _ hc
  have hn0 : ((n : Int) == 0) = false := by simp; omega
  go_enter Try.func10, Try.ntmps10
  go_wp2
  go_end0
  exact ⟨rfl, turned_of pb w _ _ hlt, cell_set pb w _ _ _ hc, cell_new pb w _ _⟩

def SetNil (pb : Nat) (w : World) (e : Ending) (w' : World) : Prop :=
  e = .returned (.tuple #[]) ∧ Turned pb w w' ∧ w'.cell? ⟨pb, 0, none⟩ = some (.pointer none)

theorem set_nil (pb : Nat) (x : Option Addr) (c : Nat) (w : World) (old : Value) (hc : w.cell? ⟨pb, 0, none⟩ = some old) (hf : w.frozen? ⟨pb, 0, none⟩ = false) :
    Calls Try.prog 10 #[.pointer (some ⟨pb, 0, none⟩), .slice x 0 c] w (SetNil pb w) := by
  have hlt : pb < w.heap.size := World.block_lt_of_cell? _ _ hc
  go_enter Try.func10, Try.ntmps10
  go_wp2
  go_end0
  exact ⟨rfl, turned_of pb w _ _ hlt, cell_set pb w _ _ _ hc⟩

theorem get_some (pb q : Nat) (x : Option Addr) (n c : Nat) (w : World) (h1 : w.cell? ⟨pb, 0, none⟩ = some (.pointer (some ⟨q, 0, none⟩))) (h2 : w.cell? ⟨q, 0, none⟩ = some (.slice x n c)) :
    Calls Try.prog 11 #[.pointer (some ⟨pb, 0, none⟩)] w fun e w' => e = .returned (.slice x n c) ∧ w = w' := by
  go_enter Try.func11, Try.ntmps11
  go_wp2
  go_ret
  exact ⟨rfl, rfl⟩

theorem get_nil (pb : Nat) (w : World) (h1 : w.cell? ⟨pb, 0, none⟩ = some (.pointer none)) :
    Calls Try.prog 11 #[.pointer (some ⟨pb, 0, none⟩)] w fun e w' => e = .returned (.slice none 0 0) ∧ w = w' := by
  go_enter Try.func11, Try.ntmps11
  go_wp2
  go_ret
  exact ⟨rfl, rfl⟩
end Go.Proofs.Qxb6615666a
