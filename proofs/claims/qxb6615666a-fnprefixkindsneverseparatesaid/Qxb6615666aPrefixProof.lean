/-
  FnPrefixKindsNeverSeparate: the walk and the row.
-/
import Derived.Test.Qxb6615666aRows
import Derived.WalkKit
import Derived.WalkSpells
import Derived.WalkLawsBesides
import Derived.Deep.LoopGhost
import Derived.ProofKit
import Derived.OpenShut
import Derived.ShutString
namespace Go.Proofs.Qxb6615666a.fnPrefixKindsNeverSeparate
open Go.ChangeShapes Go.WideShapes Go.ChangeAt Go.RowKit
open Go.ChangeMaps (open_string shut_string)
set_option linter.unusedVariables false      -- a walk need not use every 'w<i>' (that an integer argument fits its kind)

theorem own : ownKnob Try.prog.godebug = none := by kernel_rfl

theorem pre_yes (k : Int) (w : World) (h : k = 10 ∨ k = 11) : Calls Try.prog 6 #[.int .u8 k] w fun e w' => e = .returned (.bool true) ∧ w = w' := by
  rcases h with rfl | rfl
  all_goals
    go_enter Try.func6, Try.ntmps6
    go_wp2
    go_ret
    exact ⟨rfl, rfl⟩

theorem pre_no (k : Int) (w : World) (h : k < 10 ∨ 11 < k) : Calls Try.prog 6 #[.int .u8 k] w fun e w' => e = .returned (.bool false) ∧ w = w' := by
  have h1 : (k == 10) = false := by simp; omega
  have h2 : (k == 11) = false := by simp; omega
  go_enter Try.func6, Try.ntmps6
  go_wp2
  go_ret
  exact ⟨rfl, rfl⟩

theorem sep_no (k p : Int) (w : World) (h : k < 6 ∨ 9 < k) : Calls Try.prog 7 #[.int .u8 k, .int .i64 p] w fun e w' => e = .returned (.string ⟨#[]⟩) ∧ w = w' := by
  have h1 : (k == 6) = false := by simp; omega
  have h2 : (k == 7) = false := by simp; omega
  have h3 : (k == 8) = false := by simp; omega
  have h4 : (k == 9) = false := by simp; omega
  go_enter Try.func7, Try.ntmps7
  go_wp2
  go_ret
  exact ⟨rfl, rfl⟩

def SepYes (w : World) (e : Ending) (w' : World) : Prop := (∃ c : UInt8, e = .returned (.string ⟨#[c, 32]⟩) ∨ e = .returned (.string ⟨#[32]⟩)) ∧ w = w'

theorem sep_yes (k : Int) (w : World) (h : 6 ≤ k) (h' : k ≤ 9) : Calls Try.prog 7 #[.int .u8 k, .int .i64 1] w (SepYes w) := by
  rcases (show k = 6 ∨ k = 7 ∨ k = 8 ∨ k = 9 from by omega) with rfl | rfl | rfl | rfl
  · go_enter Try.func7, Try.ntmps7
    go_wp2
    go_ret
    exact ⟨⟨0, .inr rfl⟩, rfl⟩
  · go_enter Try.func7, Try.ntmps7
    go_wp2
    go_ret
    exact ⟨⟨44, .inl rfl⟩, rfl⟩
  · go_enter Try.func7, Try.ntmps7
    go_wp2
    go_ret
    exact ⟨⟨44, .inl rfl⟩, rfl⟩
  · go_enter Try.func7, Try.ntmps7
    go_wp2
    go_ret
    exact ⟨⟨58, .inl rfl⟩, rfl⟩

/-- How many prefix kinds, and how many separating kinds, lie below v. -/
def cp (v : Nat) : Nat := if v ≤ 10 then 0 else if v = 11 then 1 else 2
def cs (v : Nat) : Nat := if v ≤ 6 then 0 else if v ≤ 10 then v - 6 else 4

/-- What the law answers. -/
def LawPost (w : World) (e : Ending) (w' : World) : Prop := e = .returned (.bool true) ∧ Grown w w'

theorem walk (a0 : Int) (a1 : Int) (w0 : (Lit.int .u8 a0).wf = true) (w1 : (Lit.int .i64 a1).wf = true) (w : World) :
    Calls Try.prog 3 #[.int .u8 a0, .int .i64 a1] w (LawPost w) := by
  go_enter Try.func3, Try.ntmps3
  go_wp2_with fail
  go_loopg [5, 6, 7] 256 (fun g p s i wr => w = wr ∧ ∃ v : Nat, v ≤ 256 ∧ 256 ≤ v + g ∧ p = .int .i64 (cp v) ∧ s = .int .i64 (cs v) ∧ i = .int .i64 v)
  case atStart => exact ⟨rfl, 0, by omega, by omega, rfl, rfl, rfl⟩
  case round =>
    obtain ⟨rfl, v, hv, hgk, rfl, rfl, rfl⟩ := hrel
    have hcp : cp v ≤ 2 := by unfold cp; split <;> (try split) <;> omega
    have hcs : cs v ≤ 4 := by unfold cs; split <;> (try split) <;> omega
    by_cases hlt : (v : Int) < 256
    · have hwr : IntKind.u8.wrap (v : Int) = v := IntWalk.u8_in _ ⟨by omega, by omega⟩
      by_cases hsep : 6 ≤ v ∧ v ≤ 9
      · obtain ⟨hs1, hs2⟩ := hsep
        have e1 : cp (v + 1) = cp v := by unfold cp; rw [if_pos (by omega), if_pos (by omega)]
        have e2 : cs (v + 1) = cs v + 1 := by unfold cs; rw [if_neg (by omega), if_pos (by omega), if_pos (show v ≤ 10 by omega)]; split <;> omega
        have E : Hid (cp (v + 1) = cp v ∧ cs (v + 1) = cs v + 1) := ⟨e1, e2⟩
        clear e1 e2
        go_wp2_with fail
        refine (pre_no _ _ (by omega)).mono ?_
        rintro e w' ⟨rfl, rfl⟩
        go_wp2_with fail
        refine (sep_yes _ _ (by omega) (by omega)).mono ?_
        rintro e w' ⟨⟨c, rfl | rfl⟩, rfl⟩
        all_goals
          go_wp2_with fail
          go_roundg (gk - 1)
          case measure => omega
          case rel => exact ⟨rfl, v + 1, by omega, by omega, by rw [E.out.1], by rw [E.out.2]; go_num, by go_num⟩
      · by_cases hpre : v = 10 ∨ v = 11
        · have e1 : cp (v + 1) = cp v + 1 := by
            unfold cp
            rcases hpre with rfl | rfl <;> rfl
          have e2 : cs (v + 1) = cs v := by
            unfold cs
            rcases hpre with rfl | rfl <;> rfl
          have E : Hid (cp (v + 1) = cp v + 1 ∧ cs (v + 1) = cs v) := ⟨e1, e2⟩
          have H1 : Hid ((v : Int) = 10 ∨ (v : Int) = 11) := show (v : Int) = 10 ∨ (v : Int) = 11 by omega
          have H2 : Hid ((v : Int) < 6 ∨ 9 < (v : Int)) := show (v : Int) < 6 ∨ 9 < (v : Int) by omega
          clear e1 e2 hpre hsep
          go_wp2_with fail
          refine (pre_yes _ _ H1.out).mono ?_
          rintro e w' ⟨rfl, rfl⟩
          go_wp2_with fail
          refine (sep_no _ _ _ H2.out).mono ?_
          rintro e w' ⟨rfl, rfl⟩
          go_wp2_with fail
          refine (sep_no _ _ _ H2.out).mono ?_
          rintro e w' ⟨rfl, rfl⟩
          go_wp2_with fail
          refine (sep_no _ _ _ H2.out).mono ?_
          rintro e w' ⟨rfl, rfl⟩
          go_wp2_with fail
          go_roundg (gk - 1)
          case measure => omega
          case rel => exact ⟨rfl, v + 1, by omega, by omega, by rw [E.out.1]; go_num, by rw [E.out.2], by go_num⟩
        · have e1 : cp (v + 1) = cp v := by
            unfold cp
            by_cases h : v ≤ 10
            · rw [if_pos h, if_pos (by omega)]
            · rw [if_neg h, if_neg (by omega), if_neg (by omega), if_neg (by omega)]
          have e2 : cs (v + 1) = cs v := by
            unfold cs
            by_cases h : v ≤ 6
            · rw [if_pos h, if_pos (by omega)]
            · rw [if_neg h, if_neg (by omega), if_neg (by omega), if_neg (by omega)]
          have E : Hid (cp (v + 1) = cp v ∧ cs (v + 1) = cs v) := ⟨e1, e2⟩
          have H1 : Hid ((v : Int) < 10 ∨ 11 < (v : Int)) := show (v : Int) < 10 ∨ 11 < (v : Int) by omega
          have H2 : Hid ((v : Int) < 6 ∨ 9 < (v : Int)) := show (v : Int) < 6 ∨ 9 < (v : Int) by omega
          clear e1 e2 hpre hsep
          go_wp2_with fail
          refine (pre_no _ _ H1.out).mono ?_
          rintro e w' ⟨rfl, rfl⟩
          go_wp2_with fail
          refine (sep_no _ _ _ H2.out).mono ?_
          rintro e w' ⟨rfl, rfl⟩
          go_wp2_with fail
          go_roundg (gk - 1)
          case measure => omega
          case rel => exact ⟨rfl, v + 1, by omega, by omega, by rw [E.out.1], by rw [E.out.2], by go_num⟩
    · have ev : v = 256 := by omega
      have b1 : (((cp v : Nat) : Int) == 2) = true := by rw [ev]; rfl
      have b2 : (((cs v : Nat) : Int) == 4) = true := by rw [ev]; rfl
      clear ev hgk hv hcp hcs
      by_cases hk : a0 = 10 ∨ a0 = 11
      · have H1 : Hid (a0 = 10 ∨ a0 = 11) := hk
        have H2 : Hid (a0 < 6 ∨ 9 < a0) := show a0 < 6 ∨ 9 < a0 by omega
        clear hk
        go_wp2_with fail
        refine (pre_yes _ _ H1.out).mono ?_
        rintro e w' ⟨rfl, rfl⟩
        go_wp2_with fail
        refine (sep_no _ _ _ H2.out).mono ?_
        rintro e w' ⟨rfl, rfl⟩
        go_wp2_with fail
        go_ret
        exact ⟨rfl, Grown.refl _⟩
      · have H1 : Hid (a0 < 10 ∨ 11 < a0) := show a0 < 10 ∨ 11 < a0 by omega
        clear hk
        go_wp2_with fail
        refine (pre_no _ _ H1.out).mono ?_
        rintro e w' ⟨rfl, rfl⟩
        go_wp2_with fail
        go_ret
        exact ⟨rfl, Grown.refl _⟩

/-! ### THE ROW's STEP: WRITTEN OUT: LEAVE IT -/
set_option maxRecDepth 100000 in
theorem lifted (os : Os) (started : os.Started) (H : Type) (enc : TypeId × Value → H) :
    ReturnsInHanded {} Try.checked os 3 .any (Rows.fnPrefixKindsNeverSeparateSpec.pre6 enc Try.prog Try.f3 Rows.fnPrefixKindsNeverSeparateRow.domain false) (Rows.fnPrefixKindsNeverSeparateSpec.post enc Try.prog Try.f3 false true false false) := by
  refine returnsInHanded_of_change (C := Try.checked) own started (by kernel_rfl) Try.func3
    (ChangeSpec.witness6 (enc := enc) (C := Try.checked) false ⟨#[], #[.int .u8 0, .int .i64 0], []⟩ 8 (by kernel_rfl) (by kernel_rfl) (by kernel_rfl) (by kernel_rfl)) ?_
  intro W base args ds gs before hval0 hW hcnd _
  have hval : ∀ (j : Nat) t v, Try.f3.params[j]? = some t → args[j]? = some v → Value.okWide Try.prog W .any base t v := hval0
  have hW' := hW
  obtain ⟨p, q, hA0, hV, rfl, hfz, hnd⟩ := hW
  have hA : DataW.TrodAll enc Try.prog W 0 (fun _ => true) true Try.f3.params.toList args.toList ds p := hA0
  rw [Try.params3] at hA hval
  obtain ⟨v0, vs0, d0, ds0, p0, q0, hargs, rfl, rfl, h0, r0⟩ := trodAll_cons hA
  obtain ⟨v1, vs1, d1, ds1, p1, q1, rfl, rfl, rfl, h1, r1⟩ := trodAll_cons r0
  obtain ⟨rfl, rfl, rfl⟩ := trodAll_nil r1
  obtain rfl : args = #[v0, v1] := by cases args; simp_all
  obtain ⟨rfl, rfl⟩ := trodVars_none hV
  obtain ⟨a0, rfl, rfl, rfl, w0⟩ := open_int Try.underlying5 (hval 0 5 v0 rfl rfl) h0
  obtain ⟨a1, rfl, rfl, rfl, w1⟩ := open_int Try.underlying3 (hval 1 3 v1 rfl rfl) h1
  clear hA0 hval0
  simp only [List.append_nil] at hW'
  refine (walk a0 a1 w0 w1 W).mono fun e W' ⟨he, hg⟩ => ?_
  subst he
  exact ⟨_, rfl, post_of_same (pa := []) (pv := []) hW' (fun _ _ _ => (trodAll_cons_mk (shut_bool Try.underlying4 _) trodAll_mk0)) (fun sp _ => (trodAll_cons_mk (shut_int Try.underlying5 w0) (trodAll_cons_mk (shut_int Try.underlying3 w1) trodAll_mk0))) (fun _ _ => rfl) rfl
    (hg.frame _) hg.2.1 (ok_one (by kernel_rfl) rfl (okWide_bool_mk Try.underlying4 _))⟩

theorem over : Rows.fnPrefixKindsNeverSeparateRow.holds Try.pinned (OpenSpec.ofChange Rows.fnPrefixKindsNeverSeparateSpec) :=
  OpenClaim.holds_of_wide 3 Try.f3 rfl rfl rfl rfl rfl rfl rfl ⟨rfl, rfl, rfl, rfl, rfl⟩ rfl rfl rfl rfl rfl (by kernel_rfl) Try.func3 (by kernel_rfl)
    (of_decide_eq_true (by kernel_rfl)) (by unfold Func.isWrapper; first | (rw [if_pos (by decide +kernel)]; kernel_rfl) | (rw [if_neg (by decide +kernel)]; exact ⟨rfl, rfl⟩))
    (fun os started H enc _ => lifted os started H enc)

/-- ████ THE STATEMENT ████ -/
theorem proved : Rows.FnPrefixKindsNeverSeparateSaid :=
  over
end Go.Proofs.Qxb6615666a.fnPrefixKindsNeverSeparate
