/-
  The walks over the road of FnStatusGivesBackTheTextItWasReadFrom: the grid of texts that came in, and the two functions that bound it.
-/
import Derived.Test.Qxb6615588aFmtText
namespace Go.Proofs.Qxb6615588aFmt
open Go.RowKit Go.Deep

/-- What the walks are told of the grid that came in. -/
structure Grid (w : World) (a0 : Option Addr) (len gb go : Nat) (A : Nat → Option Addr) (L C Ab Ao : Nat → Nat) (Z : Nat → Nat → ByteArray) : Prop where
  adr : 0 < len → a0 = some ⟨gb, go, none⟩
  row : ∀ r, r < len → w.cell? ⟨gb, go + r, none⟩ = some (.slice (A r) (L r) (C r))
  cell : ∀ r, r < len → ∀ c, c < L r → A r = some ⟨Ab r, Ao r, none⟩ ∧ w.cell? ⟨Ab r, Ao r + c, none⟩ = some (.string (Z r c))

def BytesPost (w : World) (len : Nat) (L : Nat → Nat) (Z : Nat → Nat → ByteArray) (e : Ending) (w' : World) : Prop :=
  (∃ b, e = .returned (.bool b) ∧ (b = true → ∀ r, r < len → L r ≤ 1048576 ∧ ∀ c, c < L r → (Z r c).size ≤ 1048576)) ∧ w = w'

set_option maxHeartbeats 800000 in
theorem bytes_any {w : World} {a0 : Option Addr} {len cap gb go : Nat} {A : Nat → Option Addr} {L C Ab Ao : Nat → Nat} {Z : Nat → Nat → ByteArray} (G : Grid w a0 len gb go A L C Ab Ao Z)
    (hlen : len ≤ 9223372036854775807) (hL : ∀ r, r < len → L r ≤ 9223372036854775807) (hZ : ∀ r, r < len → ∀ c, c < L r → (Z r c).size ≤ 9223372036854775807) :
    Calls Tryf.prog 4 #[.slice a0 len cap] w (BytesPost w len L Z) := by
  go_enter Tryf.func4, Tryf.ntmps4
  go_wp2
  · go_ret
    exact ⟨⟨false, rfl, by simp⟩, rfl⟩
  · go_loopg [3, 4] len (fun g n i wr => w = wr ∧ ∃ k q : Nat, k ≤ len ∧ g = len - k ∧ q ≤ 1048576 ∧ n = .int .i64 q ∧ i = .int .i64 k ∧ ∀ r, r < k → L r ≤ 1048576 ∧ ∀ c, c < L r → (Z r c).size ≤ 1048576)
    case atStart => exact ⟨rfl, 0, len, by omega, rfl, by omega, rfl, rfl, by omega⟩
    case round =>
      obtain ⟨rfl, k, q, hk, rfl, hq, rfl, rfl, hall⟩ := hrel
      have HA : Hid (∀ r, r < k → L r ≤ 1048576 ∧ ∀ c, c < L r → (Z r c).size ≤ 1048576) := hall
      clear hall
      by_cases hlt : k < len
      · have ha := G.adr (by omega)
        subst ha
        have hrow := G.row k hlt
        have hLk := hL k hlt
        go_wp2
        · go_ret
          exact ⟨⟨false, rfl, by simp⟩, rfl⟩
        · go_ret
          exact ⟨⟨false, rfl, by simp⟩, rfl⟩
        · go_loopg [3, 5] (L k) (fun g n i wr => w = wr ∧ ∃ c q : Nat, c ≤ L k ∧ g = L k - c ∧ q ≤ 1048576 ∧ n = .int .i64 q ∧ i = .int .i64 c ∧ ∀ x, x < c → (Z k x).size ≤ 1048576)
          case atStart => exact ⟨rfl, 0, q + L k, by omega, rfl, by omega, by go_num, rfl, by omega⟩
          case round =>
            obtain ⟨rfl, c, q2, hc, rfl, hq2, rfl, rfl, hin⟩ := hrel
            have HI : Hid (∀ x, x < c → (Z k x).size ≤ 1048576) := hin
            clear hin
            by_cases hcl : c < L k
            · obtain ⟨hAk, hcell⟩ := G.cell k hlt c hcl
              rw [hAk] at hrow
              have hZk := hZ k hlt c hcl
              clear hAk
              go_wp2
              · go_ret
                exact ⟨⟨false, rfl, by simp⟩, rfl⟩
              · go_ret
                exact ⟨⟨false, rfl, by simp⟩, rfl⟩
              · go_roundg (L k - (c + 1))
                case measure => omega
                case rel => exact ⟨rfl, c + 1, q2 + (Z k c).size, by omega, rfl, by omega, by go_num, by go_num, fun x hx => by
                  by_cases e : x = c
                  · subst e; omega
                  · exact HI.out x (by omega)⟩
            · go_wp2
              go_roundg (len - (k + 1))
              case measure => omega
              case rel => exact ⟨rfl, k + 1, q2, by omega, rfl, by omega, rfl, by go_num, fun r hr => by
                by_cases e : r = k
                · subst e; exact ⟨by omega, fun x hx => HI.out x (by omega)⟩
                · exact HA.out r (by omega)⟩
      · go_wp2
        go_ret
        exact ⟨⟨true, rfl, fun _ r hr => HA.out r (by omega)⟩, rfl⟩

/-- What 'zzTextCellsFit' answers. -/
def FitPost (w : World) (len : Nat) (L : Nat → Nat) (e : Ending) (w' : World) : Prop :=
  (∃ b, e = .returned (.bool b) ∧ (b = true → ∀ r, r < len → L r = L 0)) ∧ ∃ n, w' = w.drewN n

theorem first_eq (L : Nat → Nat) (r : Nat) (h : r < 1) : L r = L 0 := by rw [show r = 0 from by omega]

set_option maxHeartbeats 1000000 in
set_option maxRecDepth 100000 in
theorem fit_any {w : World} {a0 : Option Addr} {len cap gb go : Nat} {A : Nat → Option Addr} {L C Ab Ao : Nat → Nat} {Z : Nat → Nat → ByteArray} (G : Grid w a0 len gb go A L C Ab Ao Z)
    (hlen : len ≤ 9223372036854775807) (hB : ∀ r, r < len → L r ≤ 1048576 ∧ ∀ c, c < L r → (Z r c).size ≤ 1048576) :
    Calls Tryf.prog 5 #[.slice a0 len cap] w (FitPost w len L) := by
  have HB : Hid (∀ r, r < len → L r ≤ 1048576 ∧ ∀ c, c < L r → (Z r c).size ≤ 1048576) := hB
  clear hB
  go_enter Tryf.func5, Tryf.ntmps5
  go_wp2
  · go_ret
    exact ⟨⟨false, rfl, by simp⟩, 0, rfl⟩
  · go_loopg [3, 4] len (fun g n i wr => w = wr ∧ ∃ k q : Nat, k ≤ len ∧ g = len - k ∧ q ≤ 1048576 ∧ n = .int .i64 q ∧ i = .int .i64 k)
    case atStart => exact ⟨rfl, 0, 0, by omega, rfl, by omega, rfl, rfl⟩
    case round =>
      obtain ⟨rfl, k, q, hk, rfl, hq, rfl, rfl⟩ := hrel
      by_cases hlt : k < len
      · have ha := G.adr (by omega)
        subst ha
        have hrow := G.row k hlt
        have hLk := (HB.out k hlt).1
        obtain ⟨y, hy⟩ : ∃ y : Nat, ((q : Int) + 24) = (y : Int) := ⟨q + 24, by omega⟩
        have hy0 : (y : Int) ≤ 1048600 := by omega
        go_wp2
        · go_ret
          exact ⟨⟨false, rfl, by simp⟩, 0, rfl⟩
        · clear hy
          go_loopg [3, 5] (L k) (fun g n i wr => w = wr ∧ ∃ c q : Nat, c ≤ L k ∧ g = L k - c ∧ q ≤ 1048576 ∧ n = .int .i64 q ∧ i = .int .i64 c)
          case atStart => exact ⟨rfl, 0, y, by omega, rfl, by omega, rfl, rfl⟩
          case round =>
            obtain ⟨rfl, c, q2, hc, rfl, hq2, rfl, rfl⟩ := hrel
            by_cases hcl : c < L k
            · obtain ⟨hAk, hcell⟩ := G.cell k hlt c hcl
              rw [hAk] at hrow
              have hZk := (HB.out k hlt).2 c hcl
              clear hAk
              go_wp2
              · go_ret
                exact ⟨⟨false, rfl, by simp⟩, 0, rfl⟩
              · go_roundg (L k - (c + 1))
                case measure => omega
                case rel => exact ⟨rfl, c + 1, q2 + (16 + (Z k c).size), by omega, rfl, by omega, by go_num, by go_num⟩
            · go_wp2
              go_roundg (len - (k + 1))
              case measure => omega
              case rel => exact ⟨rfl, k + 1, q2, by omega, rfl, by omega, rfl, by go_num⟩
      · go_wp2
        go_loopg [6] len (fun g i wr => ∃ k n : Nat, w.drewN n = wr ∧ 1 ≤ k ∧ k ≤ len + 1 ∧ g = len + 1 - k ∧ i = .int .i64 k ∧ ∀ r, r < k → r < len → L r = L 0)
        case atStart => exact ⟨1, 0, rfl, by omega, by omega, by omega, rfl, fun r hr _ => first_eq L r hr⟩
        case round =>
          obtain ⟨t, n, rfl, h1, ht, rfl, rfl, hall⟩ := hrel
          have HA : Hid (∀ r, r < t → r < len → L r = L 0) := hall
          clear hall
          by_cases htl : t < len
          · have ha := G.adr (by omega)
            subst ha
            have hrow := G.row t htl
            have hrow0 : w.cell? ⟨gb, go, none⟩ = some (.slice (A 0) (L 0) (C 0)) := by simpa using G.row 0 (by omega)
            by_cases heq : L t = L 0
            · have hne : (((L t : Nat) : Int) != ((L 0 : Nat) : Int)) = false := by rw [heq]; simp
              have HE : Hid (L t = L 0) := heq
              clear heq
              go_wp2
              go_region
              go_wp2
              go_roundg (len + 1 - (t + 1))
              case measure => omega
              case rel => exact ⟨t + 1, n + 1, rfl, by omega, by omega, rfl, by go_num, fun r hr hrl => by
                by_cases e : r = t
                · subst e; exact HE.out
                · exact HA.out r (by omega) hrl⟩
            · have hne : (((L t : Nat) : Int) != ((L 0 : Nat) : Int)) = true := by simp; omega
              clear heq
              go_wp2
              go_region
              go_wp2
              go_ret
              exact ⟨⟨false, rfl, by simp⟩, n + 1, rfl⟩
          · go_wp2
            go_ret
            exact ⟨⟨true, rfl, fun _ r hr => HA.out r (by omega) hr⟩, n, rfl⟩
end Go.Proofs.Qxb6615588aFmt
