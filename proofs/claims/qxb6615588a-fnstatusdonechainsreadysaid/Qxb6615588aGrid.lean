/-
  The walks over the road of FnStatusDoneChainsReady: the grid that came in, and the two functions that bound it.
-/
import Derived.Test.Qxb6615588aRows
import Derived.WalkKit
import Derived.WalkSpells
import Derived.WalkLawsBesides
import Derived.Deep.LoopGhost
import Derived.Deep.OwnRows
import Derived.Deep.QuietTactic
import Derived.BigQuiet
namespace Go.Proofs.Qxb6615588a
open Go.RowKit Go.Deep

/-- What the walks are told of the grid that came in. -/
structure Grid (w : World) (a0 : Option Addr) (len gb go : Nat) (A : Nat → Option Addr) (L C Ab Ao : Nat → Nat) (Z : Nat → Nat → Int) : Prop where
  adr : 0 < len → a0 = some ⟨gb, go, none⟩
  row : ∀ r, r < len → w.cell? ⟨gb, go + r, none⟩ = some (.slice (A r) (L r) (C r))
  cell : ∀ r, r < len → ∀ c, c < L r → A r = some ⟨Ab r, Ao r, none⟩ ∧ w.cell? ⟨Ab r, Ao r + c, none⟩ = some (.int .i64 (Z r c))

set_option maxHeartbeats 400000 in
theorem bytes_any {w : World} {a0 : Option Addr} {len cap gb go : Nat} {A : Nat → Option Addr} {L C Ab Ao : Nat → Nat} {Z : Nat → Nat → Int} (G : Grid w a0 len gb go A L C Ab Ao Z)
    (hlen : len ≤ 9223372036854775807) (hL : ∀ r, r < len → L r ≤ 9223372036854775807) :
    Calls Try.prog 12 #[.slice a0 len cap] w fun e w' => (∃ b, e = .returned (.bool b) ∧ (b = true → ∀ r, r < len → L r ≤ 1048576)) ∧ w = w' := by
  go_enter Try.func12, Try.ntmps12
  go_wp2
  · go_ret
    exact ⟨⟨false, rfl, by simp⟩, rfl⟩
  · go_loopg [3, 4] len (fun g n i wr => w = wr ∧ ∃ k q : Nat, k ≤ len ∧ g = len - k ∧ q ≤ 1048576 ∧ n = .int .i64 q ∧ i = .int .i64 k ∧ ∀ r, r < k → L r ≤ 1048576)
    case atStart => exact ⟨rfl, 0, len, by omega, rfl, by omega, rfl, rfl, by omega⟩
    case round =>
      obtain ⟨rfl, k, q, hk, rfl, hq, rfl, rfl, hall⟩ := hrel
      by_cases hlt : k < len
      · have ha := G.adr (by omega)
        subst ha
        have hrow := G.row k hlt
        have hLk := hL k hlt
        go_wp2
        · go_ret
          exact ⟨⟨false, rfl, by simp⟩, rfl⟩
        · go_ret
          exact ⟨⟨false, rfl, by simp⟩, rfl⟩
        · go_roundg (len - (k + 1))
          case measure => omega
          case rel => exact ⟨rfl, k + 1, q + L k, by omega, rfl, by omega, by go_num, by go_num, fun r hr => by
            by_cases e : r = k
            · subst e; omega
            · exact hall r (by omega)⟩
      · go_wp2
        go_ret
        exact ⟨⟨true, rfl, fun _ r hr => hall r (by omega)⟩, rfl⟩

/-- What 'zzIntCellsFit' answers. -/
def FitPost (w : World) (len : Nat) (L : Nat → Nat) (Z : Nat → Nat → Int) (e : Ending) (w' : World) : Prop :=
  (∃ b, e = .returned (.bool b) ∧ (b = true → len ≤ 256 ∧ ∀ r, r < len → L r = L 0 ∧ ∀ c, c < L r → 0 ≤ Z r c ∧ Z r c ≤ 3)) ∧ ∃ n, w' = w.drewN n

set_option maxHeartbeats 1000000 in
theorem fit_any {w : World} {a0 : Option Addr} {len cap gb go : Nat} {A : Nat → Option Addr} {L C Ab Ao : Nat → Nat} {Z : Nat → Nat → Int} (G : Grid w a0 len gb go A L C Ab Ao Z)
    (hlen : len ≤ 9223372036854775807) (hL : ∀ r, r < len → L r ≤ 1048576) :
    Calls Try.prog 13 #[.slice a0 len cap] w (FitPost w len L Z) := by
  go_enter Try.func13, Try.ntmps13
  go_wp2
  · go_ret
    exact ⟨⟨false, rfl, by simp⟩, 0, rfl⟩
  · go_loopg [3, 4] len (fun g n i wr => w = wr ∧ ∃ k q : Nat, k ≤ len ∧ g = len - k ∧ q ≤ 1048576 ∧ n = .int .i64 q ∧ i = .int .i64 k)
    case atStart => exact ⟨rfl, 0, 0, by omega, rfl, by omega, rfl, rfl⟩
    case round =>
      obtain ⟨rfl, k, q, hk, rfl, hq, rfl, rfl⟩ := hrel
      by_cases hlt : k < len
      · have ha := G.adr (by omega)
        subst ha
        have hrow := G.row k hlt
        have hLk := hL k hlt
        go_wp2
        · go_ret
          exact ⟨⟨false, rfl, by simp⟩, 0, rfl⟩
        · go_roundg (len - (k + 1))
          case measure => omega
          case rel => exact ⟨rfl, k + 1, q + (24 + 8 * L k), by omega, rfl, by omega, by go_num, by go_num⟩
      · go_wp2
        go_loopg [5, 6] len (fun g i c wr => ∃ k n : Nat, w.drewN n = wr ∧ k ≤ len ∧ g = len - k ∧ i = .int .i64 k ∧ ∀ r, r < k → L r = L 0 ∧ ∀ c, c < L r → 0 ≤ Z r c ∧ Z r c ≤ 3)
        case atStart => exact ⟨0, 0, rfl, by omega, rfl, rfl, by omega⟩
        case round =>
          obtain ⟨t, n, rfl, ht, rfl, rfl, hall⟩ := hrel
          by_cases htl : t < len
          · have ha := G.adr (by omega)
            subst ha
            have hrow := G.row t htl
            have hrow0 : w.cell? ⟨gb, go, none⟩ = some (.slice (A 0) (L 0) (C 0)) := by simpa using G.row 0 (by omega)
            have hLt := hL t htl
            have hL0 := hL 0 (by omega)
            by_cases heq : L t = L 0
            · have hne : (((L t : Nat) : Int) != ((L 0 : Nat) : Int)) = false := by rw [heq]; simp
              have HE : Hid (L t = L 0) := heq
              clear heq
              go_wp2
              go_region
              go_wp2
              clear hrow0
              go_loopg [6] (L t) (fun g i wr => w.drewN (n + 1) = wr ∧ ∃ k : Nat, k ≤ L t ∧ g = L t - k ∧ i = .int .i64 k ∧ ∀ c, c < k → 0 ≤ Z t c ∧ Z t c ≤ 3)
              case atStart => exact ⟨rfl, 0, by omega, rfl, rfl, by omega⟩
              case round =>
                obtain ⟨rfl, c, hc, rfl, rfl, hin⟩ := hrel
                by_cases hcl : c < L t
                · obtain ⟨hAt, hcell⟩ := G.cell t htl c hcl
                  rw [hAt] at hrow
                  clear hAt
                  by_cases hz0 : Z t c < 0
                  · go_wp2
                    go_ret
                    exact ⟨⟨false, rfl, by simp⟩, n + 1, rfl⟩
                  · by_cases hz3 : 3 < Z t c
                    · go_wp2
                      go_ret
                      exact ⟨⟨false, rfl, by simp⟩, n + 1, rfl⟩
                    · go_wp2
                      go_roundg (L t - (c + 1))
                      case measure => omega
                      case rel => exact ⟨rfl, c + 1, by omega, rfl, by go_num, fun x hx => by
                        by_cases e : x = c
                        · subst e; omega
                        · exact hin x (by omega)⟩
                · go_wp2
                  go_roundg (len - (t + 1))
                  case measure => omega
                  case rel => exact ⟨t + 1, n + 1, rfl, by omega, rfl, by go_num, fun r hr => by
                    by_cases e : r = t
                    · subst e; exact ⟨HE.out, fun c' hc' => hin c' (by omega)⟩
                    · exact hall r (by omega)⟩
            · have hne : (((L t : Nat) : Int) != ((L 0 : Nat) : Int)) = true := by simp; omega
              clear heq
              go_wp2
              go_region
              go_wp2
              go_ret
              exact ⟨⟨false, rfl, by simp⟩, n + 1, rfl⟩
          · go_wp2
            go_ret
            exact ⟨⟨true, rfl, fun _ => ⟨by omega, fun r hr => hall r (by omega)⟩⟩, n, rfl⟩
end Go.Proofs.Qxb6615588a
