/-
  The walks over the road of FnStatusDoneChainsReady: the Shift that the law builds, and its two methods.
-/
import Derived.Test.Qxb6615588aGrid
namespace Go.Proofs.Qxb6615588a
open Go.RowKit Go.Deep

theorem ret_bool {a b : Bool} (h : a = b) : Ending.returned (.bool a) = .returned (.bool b) := by rw [h]

/-- A new Shift: its status field holds the slice that was handed over. -/
def NewPost (v : Addr) (n : Nat) (w : World) (e : Ending) (w' : World) : Prop :=
  e = .returned (.pointer (some ⟨w.heap.size, 0, none⟩)) ∧ ∃ o, w' = w.alloc o ∧ (w.alloc o).cell? ⟨w.heap.size, 14, none⟩ = some (.slice (some v) n n)

theorem new_any (v : Addr) (n : Nat) (w : World) : Calls Try.prog 14 #[.slice (some v) n n] w (NewPost v n w) := by
  go_enter Try.func14, Try.ntmps14
  go_wp2
  go_ret
  exact ⟨rfl, _, rfl, by simp⟩

/-- The Shift as the methods meet it. -/
structure Built (w : World) (S N len rows : Nat) (Z : Nat → Nat → Int) : Prop where
  stat : w.cell? ⟨S, 14, none⟩ = some (.slice (some ⟨N, 0, none⟩) len len)
  top : ∀ t, t < len → w.cell? ⟨N, t, none⟩ = some (.slice (some ⟨N + 1 + t, 0, none⟩) rows rows)
  cell : ∀ t, t < len → ∀ r, r < rows → w.cell? ⟨N + 1 + t, r, none⟩ = some (.int .i64 (Z t r))

theorem status_any {w : World} {S N len rows : Nat} {Z : Nat → Nat → Int} (B : Built w S N len rows Z) (t r : Nat) (ht : t < len) (hr : r < rows) :
    Calls Try.prog 16 #[.pointer (some ⟨S, 0, none⟩), .int .i64 t, .int .i64 r] w fun e w' => e = .returned (.int .i64 (Z t r)) ∧ w = w' := by
  have h1 := B.stat
  have h2 := B.top t ht
  have h3 := B.cell t ht r hr
  go_enter Try.func16, Try.ntmps16
  go_wp2
  go_ret
  exact ⟨rfl, rfl⟩

/-- The row's first n cells are done. -/
def rdy (Z : Nat → Nat → Int) (r : Nat) : Nat → Bool
  | 0 => true
  | n + 1 => rdy Z r n && (Z n r == 2)

theorem rdy_mono {Z : Nat → Nat → Int} {r : Nat} {n k : Nat} (h : n ≤ k) (hk : rdy Z r k = true) : rdy Z r n = true := by
  induction k with
  | zero => have : n = 0 := by omega
            subst this; exact hk
  | succ k ih =>
    by_cases e : n = k + 1
    · subst e; exact hk
    · simp only [rdy, Bool.and_eq_true] at hk
      exact ih (by omega) hk.1

theorem rdy_false {Z : Nat → Nat → Int} {r : Nat} {n k : Nat} (h : n < k) (hn : Z n r ≠ 2) : rdy Z r k = false := by
  cases hb : rdy Z r k with
  | false => rfl
  | true =>
    have := rdy_mono (n := n + 1) (by omega) hb
    simp only [rdy, Bool.and_eq_true, beq_iff_eq] at this
    exact absurd this.2 hn

def ReadyPost (Z : Nat → Nat → Int) (t r : Nat) (w : World) (e : Ending) (w' : World) : Prop := e = .returned (.bool (rdy Z r t)) ∧ w = w'

theorem ready_any {w : World} {S N len rows : Nat} {Z : Nat → Nat → Int} (B : Built w S N len rows Z) (t r : Nat) (ht : t ≤ len) (hr : r < rows) (_hlen : len ≤ 256) :
    Calls Try.prog 15 #[.pointer (some ⟨S, 0, none⟩), .int .i64 t, .int .i64 r] w (ReadyPost Z t r w) := by
  have h1 := B.stat
  go_enter Try.func15, Try.ntmps15
  go_wp2
  go_loopg [9] t (fun g i wr => w = wr ∧ ∃ k : Nat, k ≤ t ∧ g = t - k ∧ i = .int .i64 k ∧ rdy Z r k = true)
  case atStart => exact ⟨rfl, 0, by omega, rfl, rfl, rfl⟩
  case round =>
    obtain ⟨rfl, k, hk, rfl, rfl, hrd⟩ := hrel
    have HR : Hid (rdy Z r k = true) := hrd
    clear hrd
    by_cases hlt : k < t
    · have h2 := B.top k (by omega)
      have h3 := B.cell k (by omega) r hr
      by_cases h : Z k r = 2
      · have hb : (Z k r != 2) = false := by simp [h]
        have HZ : Hid (Z k r = 2) := h
        clear h
        go_wp2
        go_roundg (t - (k + 1))
        case measure => omega
        case rel => exact ⟨rfl, k + 1, by omega, rfl, by go_num, by simp [rdy, HR.out, HZ.out]⟩
      · have hb : (Z k r != 2) = true := by simp [h]
        go_wp2
        go_ret
        exact ⟨ret_bool (rdy_false hlt h).symm, rfl⟩
    · go_wp2
      go_ret
      have e : k = t := by omega
      subst e
      exact ⟨ret_bool HR.out.symm, rfl⟩

/-- The two methods' contracts, the task told as a number of whatever spelling. -/
theorem ready_at {w : World} {S N len rows : Nat} {Z : Nat → Nat → Int} (B : Built w S N len rows Z) (t r : Nat) (x : Int) (hx : x = t) (ht : t ≤ len) (hr : r < rows) (hlen : len ≤ 256) :
    Calls Try.prog 15 #[.pointer (some ⟨S, 0, none⟩), .int .i64 x, .int .i64 r] w (ReadyPost Z t r w) := by
  subst hx; exact ready_any B t r ht hr hlen

theorem status_at {w : World} {S N len rows : Nat} {Z : Nat → Nat → Int} (B : Built w S N len rows Z) (t r : Nat) (x : Int) (hx : x = t) (ht : t < len) (hr : r < rows) :
    Calls Try.prog 16 #[.pointer (some ⟨S, 0, none⟩), .int .i64 x, .int .i64 r] w fun e w' => e = .returned (.int .i64 (Z t r)) ∧ w = w' := by
  subst hx; exact status_any B t r ht hr

theorem rdy_prev {Z : Nat → Nat → Int} {r t : Nat} (ht : 0 < t) : rdy Z r t = (rdy Z r (t - 1) && (Z (t - 1) r == 2)) := by
  obtain ⟨s, rfl⟩ : ∃ s, t = s + 1 := ⟨t - 1, by omega⟩
  simp [rdy]
end Go.Proofs.Qxb6615588a
