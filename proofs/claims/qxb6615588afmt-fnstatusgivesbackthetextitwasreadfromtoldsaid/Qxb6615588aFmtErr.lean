/-
  The walks over the road of FnStatusGivesBackTheTextItWasReadFrom: fmt.Errorf over its stop.
-/
import Derived.Test.Qxb6615588aFmtText
import Derived.Laws.Cells
import Derived.Laws.IdiomStrings
import Derived.Stop.CallBack
import Derived.Stop.IfaceNil
import Derived.Stop.FmtTextSlices
namespace Go.Proofs.Qxb6615588aFmt
open Go.RowKit Go.Deep Go.Extern.Stop Go.Stop Go.Extern

theorem call14 (args : Array Value) (w : World) : (callFunc 14 args).run Tryf.prog w = ((FmtStop.errorf #[9, 56] #[29] args).run Tryf.prog w).andThen fun v w' => .ok (.value v) w' :=
  run_callFunc_extern Tryf.func14 (by kernel_rfl) (by kernel_rfl) (by kernel_rfl) (by kernel_rfl) args w

theorem guardOk (name : String) (w : World) : (FmtStop.guard name).run Tryf.prog w = .ok () w := by kernel_rfl

/-- The format's bytes. -/
abbrev form : ByteArray := ⟨#[37, 113, 32, 105, 115, 32, 110, 111, 116, 32, 97, 32, 115, 116, 97, 116, 117, 115, 32, 40, 116, 111, 100, 111, 44, 32, 113, 97, 44, 32, 100, 111, 110, 101, 44, 32, 102, 97, 105, 108, 101, 100, 41]⟩

theorem fmt1 : FmtStop.printed? form 1 = some [(0, 113, false)] := by kernel_rfl
theorem fmt1r (w : World) : (FmtDoors.printed form 1).run Tryf.prog w = .ok [(0, 113, false)] w := by kernel_rfl
theorem ptr59 (w : World) : (FmtStop.ptrTo "errors.errorString").run Tryf.prog w = .ok 59 w := by kernel_rfl
theorem elem59 (w : World) : (elemOf 59).run Tryf.prog w = .ok 61 w := by kernel_rfl

/-- The name of the slice's type, its bytes. -/
def bytesName : String := String.ofList [Char.ofNat 91, Char.ofNat 93, Char.ofNat 117, Char.ofNat 105, Char.ofNat 110, Char.ofNat 116, Char.ofNat 56]

theorem value5 (name : String) (x : Int) (w : World) : (FmtStop.value name FmtStop.depth 5 [.int .u8 x]).run Tryf.prog w = .ok (digits 8 (x % 2 ^ 64).toNat) w := by kernel_rfl

theorem values5 (name : String) (w : World) : ∀ xs : List Int, (List.mapM ((fun c => FmtStop.value name FmtStop.depth 5 [c]) ∘ Value.int IntKind.u8) xs).run Tryf.prog w = .ok (xs.map fun x => digits 8 (x % 18446744073709551616).toNat) w
  | [] => by simp [List.mapM_nil]
  | x :: xs => by
    have ih := values5 name w xs
    have h := value5 name x w
    simp [List.mapM_cons, h, ih, Result.andThen]

/-- A slice of bytes in memory, as the operand of '%q': it can be read. -/
theorem opBytes (name : String) (a : Addr) (cap : Nat) (xs : List Int) (w : World) (hc : ∀ j v, (xs.map (Value.int .u8))[j]? = some v → w.cell? (a.add j) = some v) :
    ∃ r, (FmtStop.operand name true 113 false (.iface 31 (.slice (some a) xs.length cap))).run Tryf.prog w = .ok r w := by
  have h1 : (typeStr 31).run Tryf.prog w = .ok bytesName w := by kernel_rfl
  have d2 : Tryf.t31.desc = .slice 5 := rfl
  have hb : (FmtStop.bare (FmtStop.asked true 113 false) 31).run Tryf.prog w = .ok true w := by kernel_rfl
  have hs : (FmtStop.scalar 5).run Tryf.prog w = .ok true w := by kernel_rfl
  have hy : (Extern.Stop.isByte 5).run Tryf.prog w = .ok true w := by kernel_rfl
  have hsh : (FmtStop.shape name (FmtStop.asked true 113 false) FmtStop.depth 5).run Tryf.prog w = .ok (6 :: FmtStop.pack "uint8".toUTF8.data.toList) w := by kernel_rfl
  have hl := run_loadCells_list (P := Tryf.prog) w a (xs.map (Value.int .u8)) hc
  rw [List.length_map] at hl
  have hw : Tryf.prog.funcs.any (·.name == FmtStop.writeWord) = true := by kernel_rfl
  have hno : ¬ ∀ (i : Nat) (x : i < Tryf.prog.funcs.size), ¬ Tryf.prog.funcs[i].name = FmtStop.writeWord := fun hno => by
    obtain ⟨i, hi, _, _, he⟩ := Array.any_iff_exists.1 hw
    exact absurd (by simpa using he) (hno i hi)
  simp [FmtStop.operand, h1, hb, hs, hy, hsh, hl, values5]
  rw [if_neg hno]
  exact ⟨_, _, rfl⟩

/-- What fmt.Errorf hands back at that format and that operand: an error that is not nil. -/
def ErrPost (w : World) (e : Ending) (w' : World) : Prop := (∃ x, e = .returned (.iface 59 (.pointer (some x)))) ∧ Below w.heap.size w w'

theorem errorf_any (F : Interp) (a : Addr) (cap : Nat) (xs : List Int) (blk : Nat) (w : World) (hF : F.answers w.tape) (hb : w.cell? ⟨blk, 0, none⟩ = some (.iface 31 (.slice (some a) xs.length cap)))
    (hc : ∀ j v, (xs.map (Value.int .u8))[j]? = some v → w.cell? (a.add j) = some v) : Calls Tryf.prog 12 #[.string form, .slice (some ⟨blk, 0, none⟩) 1 1] w (ErrPost w) := by
  have hF' := answers_open hF
  obtain ⟨⟨r1, r2⟩, hop⟩ := opBytes "fmt.errorf" a cap xs w hc
  have h14 := call14
  have hgd := guardOk
  have hf1 := fmt1
  have hf2 := fmt1r
  have hp := ptr59
  have hel := elem59
  clear hc
  go_enter Tryf.func12, Tryf.ntmps12
  go_wp2
  go_ret
  exact ⟨⟨_, rfl⟩, ((Below.refl _ _).alloc (Nat.le_refl _) _).drew⟩

theorem index_q (s : ByteArray) (w : World) (T : Texts w) : Calls Tryf.prog 11 #[.slice (some ⟨0, 0, none⟩) 4 4, .string s] w fun e w' => e = .returned (.int .i64 (cls s.toList)) ∧ w' = w := index_any s w T

theorem Texts.drewN {w : World} (T : Texts w) (n : Nat) : Texts (w.drewN n) := ⟨T.t0, T.t1, T.t2, T.t3⟩

theorem belowN (w : World) (n : Nat) : Below w.heap.size w (w.drewN n) := ⟨rfl, rfl, rfl, Nat.le_refl _, fun _ _ => rfl⟩

/-- The bytes of a string in a row of memory. -/
def BytesAt (w : World) (a : Addr) (s : ByteArray) : Prop := ∀ j (hj : j < s.data.toList.length), w.cell? (a.add j) = some (.int .u8 (s.data.toList[j].toNat : Int))

theorem conv_back (w : World) (a : Addr) (cap : Nat) (s : ByteArray) (h : BytesAt w a s) (n : Nat) :
    (convert 31 9 (.slice (some a) s.size cap)).run Tryf.prog (w.drewN n) = .ok (.string s) (w.drewN n) := by
  have hc := run_convert_bytes_back (P := Tryf.prog) (w.drewN n) 31 9 5 a cap s.data.toList Tryf.underlying31 Tryf.underlying5 Tryf.underlying9 (fun j hj => h j hj)
  have e : s.data.toList.length = s.size := Array.length_toList
  rw [e] at hc
  simpa using hc

def UnmYes (pb : Nat) (c : Int) (w : World) (e : Ending) (w' : World) : Prop := e = .returned .nilIface ∧ ∃ n, w' = (w.drewN n).setCell ⟨pb, 0, none⟩ (.int .i64 c)

set_option maxHeartbeats 400000 in
theorem unm_yes (s : ByteArray) (pb : Nat) (a : Addr) (cap : Nat) (w : World) (T : Texts w) (hp : w.cell? ⟨pb, 0, none⟩ = some (.int .i64 0)) (hpf : w.frozen? ⟨pb, 0, none⟩ = false) (hB : BytesAt w a s) (hc : 0 ≤ cls s.toList) :
    Calls Tryf.prog 6 #[.pointer (some ⟨pb, 0, none⟩), .slice (some a) s.size cap] w (UnmYes pb (cls s.toList) w) := by
  have hcv := conv_back w a cap s hB
  go_enter Tryf.func6, Tryf.ntmps6
  go_wp2_with fail
  go_quiet ((go_at_call 11; exact Calls.quiet_of_same (index_q s _ (T.drewN _))))
  go_wp2_with fail
  go_ret
  exact ⟨rfl, nq, rfl⟩

theorem errorf_s (F : Interp) (a : Addr) (cap : Nat) (s : ByteArray) (blk : Nat) (w : World) (hF : F.answers w.tape) (hb : w.cell? ⟨blk, 0, none⟩ = some (.iface 31 (.slice (some a) s.size cap)))
    (hB : BytesAt w a s) : Calls Tryf.prog 12 #[.string form, .slice (some ⟨blk, 0, none⟩) 1 1] w (ErrPost w) := by
  have e : (s.data.toList.map fun b => (b.toNat : Int)).length = s.size := by rw [List.length_map]; exact Array.length_toList
  refine errorf_any F a cap (s.data.toList.map fun b => (b.toNat : Int)) blk w hF (by rw [e]; exact hb) (fun j v hj => ?_)
  rw [List.map_map, List.getElem?_map, Option.map_eq_some_iff] at hj
  obtain ⟨b, hb1, rfl⟩ := hj
  obtain ⟨hlt, rfl⟩ := List.getElem?_eq_some_iff.1 hb1
  exact hB j hlt

theorem new_cell (w : World) (v : Value) (t : TypeId) : (w.alloc (.cells #[v] t)).cell? ⟨w.heap.size, 0, none⟩ = some v := by simp

set_option maxHeartbeats 400000 in
theorem unm_no (F : Interp) (s : ByteArray) (pb : Nat) (a : Addr) (cap : Nat) (w : World) (hF : F.answers w.tape) (T : Texts w) (hB : BytesAt w a s) (hc : cls s.toList < 0) :
    Calls Tryf.prog 6 #[.pointer (some ⟨pb, 0, none⟩), .slice (some a) s.size cap] w (ErrPost w) := by
  have hcv := conv_back w a cap s hB
  go_enter Tryf.func6, Tryf.ntmps6
  go_wp2_with fail
  go_quiet ((go_at_call 11; exact Calls.quiet_of_same (index_q s _ (T.drewN _))))
  go_wp2_with fail
  have hbel : Below w.heap.size w ((w.drewN nq).alloc (.cells #[.iface 31 (.slice (some a) s.size cap)] 20)) := (belowN w nq).alloc (Nat.le_refl _) _
  have hcell : ((w.drewN nq).alloc (.cells #[.iface 31 (.slice (some a) s.size cap)] 20)).cell? ⟨w.heap.size, 0, none⟩ = some (.iface 31 (.slice (some a) s.size cap)) := new_cell (w.drewN nq) _ 20
  refine (errorf_s F a cap s w.heap.size _ (by exact hF) (by exact hcell) (by exact fun j hj => cell_later hbel (hB j hj))).mono ?_
  rintro e w' ⟨⟨x, rfl⟩, hb⟩
  go_wp2_with fail
  go_ret
  exact ⟨⟨x, rfl⟩, hbel.trans (hb.mono (by simp))⟩
end Go.Proofs.Qxb6615588aFmt
