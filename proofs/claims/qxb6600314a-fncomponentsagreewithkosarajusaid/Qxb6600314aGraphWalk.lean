import Derived.Test.Qxb6600314aRows
import Derived.WalkKit
import Derived.WalkSpells
import Derived.WalkSmall
import Derived.OpenShut
import Derived.Deep.OwnRows
import Derived.Deep.QuietTactic
import Derived.BigQuiet
namespace Go.Proofs.Qxb6600314a
open Go.RowKit

/-- Row i of a graph. -/
def rw' (g : List (List Int)) (i : Nat) : List Int := g.getD i []

/-- The graph g lies in w behind the slice address a, in blocks below B. -/
structure GAt (w : World) (B : Nat) (a : Option Addr) (g : List (List Int)) : Prop where
  lenLe : ∀ i, (rw' g i).length ≤ maxLen
  row : ∀ i, i < g.length → ∃ b o A C, a = some ⟨b, o, none⟩ ∧ b < B ∧ w.cell? ⟨b, o + i, none⟩ = some (.slice A (rw' g i).length C) ∧ (A = none → C = 0) ∧ C ≤ maxLen ∧ (rw' g i).length ≤ C ∧
    ∀ k, k < (rw' g i).length → ∃ b' o', A = some ⟨b', o', none⟩ ∧ b' < B ∧ w.cell? ⟨b', o' + k, none⟩ = some (.int .i64 ((rw' g i).getD k 0))

theorem GAt.below {w w' : World} {B : Nat} {a : Option Addr} {g : List (List Int)} (h : GAt w B a g) (hb : Below B w w') : GAt w' B a g := by
  refine ⟨h.lenLe, fun i hi => ?_⟩
  obtain ⟨b, o, A, C, h1, h2, h3, h4, h5, h6, h7⟩ := h.row i hi
  refine ⟨b, o, A, C, h1, h2, (hb.cell (p := ⟨b, o + i, none⟩) h2).trans h3, h4, h5, h6, fun k hk => ?_⟩
  obtain ⟨b', o', k1, k2, k3⟩ := h7 k hk
  exact ⟨b', o', k1, k2, (hb.cell (p := ⟨b', o' + k, none⟩) k2).trans k3⟩

/-- The lengths of the first k rows, summed. -/
def tot (g : List (List Int)) : Nat → Nat
  | 0 => 0
  | k + 1 => tot g k + (rw' g k).length

/-- It answers some Bool, and the world stands. -/
def AnyB (w : World) (e : Ending) (w' : World) : Prop := ∃ r, e = .returned (.bool r) ∧ w' = w

set_option maxHeartbeats 400000 in
theorem bytes13 (a : Option Addr) (cap B : Nat) (g : List (List Int)) (w : World) (h : GAt w B a g) (hn : g.length ≤ maxLen) :
    Calls Try.prog 13 #[.slice a g.length cap] w (AnyB w) := by
  unfold maxLen at hn
  have HG : Hid (GAt w B a g) := h
  clear h
  obtain ⟨n, hnn⟩ : ∃ n, n = g.length := ⟨_, rfl⟩
  rw [← hnn] at hn ⊢
  have HN : Hid (n = g.length) := hnn
  clear hnn
  by_cases hbig : 1048576 < n
  · go_enter Try.func13, Try.ntmps13
    go_wp2
    go_ret
    exact ⟨_, rfl, rfl⟩
  · go_enter Try.func13, Try.ntmps13
    go_wp2
    go_loop [3, 4] (fun z i => ∃ (k : Nat) (Z : Int), k ≤ n ∧ i = .int .i64 k ∧ z = .int .i64 Z ∧ 0 ≤ Z ∧ Z ≤ 1048576) (fun _ i => n - (intOf i).toNat)
    case atStart => exact ⟨0, n, by omega, rfl, rfl, by omega, by omega⟩
    case round =>
      obtain ⟨k, Z, hk, rfl, rfl, z0, z1⟩ := hrel
      by_cases hlt : k < n
      · obtain ⟨b, o, A, C, ha, hb, hc, -, -, -, -⟩ := HG.out.row k (by rw [← HN.out]; exact hlt)
        have hL := HG.out.lenLe k
        obtain ⟨L, hL'⟩ : ∃ L, L = (rw' g k).length := ⟨_, rfl⟩
        rw [← hL'] at hL hc
        unfold maxLen at hL
        clear hL'
        subst ha
        by_cases h1 : 1048576 < L
        · go_wp2
          go_ret
          exact ⟨_, rfl, rfl⟩
        · by_cases h2 : 1048576 < Z + L
          · go_wp2
            go_ret
            exact ⟨_, rfl, rfl⟩
          · go_wp2
            go_round
            case rel => exact ⟨k + 1, Z + L, by omega, by go_num, rfl, by omega, by omega⟩
            case measure => simp [intOf]; omega
      · go_wp2
        go_ret
        exact ⟨_, rfl, rfl⟩
set_option maxHeartbeats 400000 in
theorem bytes7 (a : Option Addr) (cap B : Nat) (g : List (List Int)) (w : World) (h : GAt w B a g) (hn : g.length ≤ maxLen) :
    Calls Try.prog 7 #[.slice a g.length cap] w (AnyB w) := by
  unfold maxLen at hn
  have HG : Hid (GAt w B a g) := h
  clear h
  obtain ⟨n, hnn⟩ : ∃ n, n = g.length := ⟨_, rfl⟩
  rw [← hnn] at hn ⊢
  have HN : Hid (n = g.length) := hnn
  clear hnn
  by_cases hbig : 1048576 < n
  · go_enter Try.func7, Try.ntmps7
    go_wp2
    go_ret
    exact ⟨_, rfl, rfl⟩
  · go_enter Try.func7, Try.ntmps7
    go_wp2
    go_loop [3, 4] (fun z i => ∃ (k : Nat) (Z : Int), k ≤ n ∧ i = .int .i64 k ∧ z = .int .i64 Z ∧ 0 ≤ Z ∧ Z ≤ 1048576) (fun _ i => n - (intOf i).toNat)
    case atStart => exact ⟨0, n, by omega, rfl, rfl, by omega, by omega⟩
    case round =>
      obtain ⟨k, Z, hk, rfl, rfl, z0, z1⟩ := hrel
      by_cases hlt : k < n
      · obtain ⟨b, o, A, C, ha, hb, hc, -, -, -, -⟩ := HG.out.row k (by rw [← HN.out]; exact hlt)
        have hL := HG.out.lenLe k
        obtain ⟨L, hL'⟩ : ∃ L, L = (rw' g k).length := ⟨_, rfl⟩
        rw [← hL'] at hL hc
        unfold maxLen at hL
        clear hL'
        subst ha
        by_cases h1 : 1048576 < L
        · go_wp2
          go_ret
          exact ⟨_, rfl, rfl⟩
        · by_cases h2 : 1048576 < Z + L
          · go_wp2
            go_ret
            exact ⟨_, rfl, rfl⟩
          · go_wp2
            go_round
            case rel => exact ⟨k + 1, Z + L, by omega, by go_num, rfl, by omega, by omega⟩
            case measure => simp [intOf]; omega
      · go_wp2
        go_ret
        exact ⟨_, rfl, rfl⟩

/-- What graphTooBig tells. -/
def SmallB (g : List (List Int)) (w : World) (e : Ending) (w' : World) : Prop := ∃ r, e = .returned (.bool r) ∧ w' = w ∧ (r = false → 24 * g.length + 8 * tot g g.length ≤ 1048576)

set_option maxHeartbeats 400000 in
theorem tooBig (a : Option Addr) (cap B : Nat) (g : List (List Int)) (w : World) (h : GAt w B a g) (hn : g.length ≤ maxLen) :
    Calls Try.prog 8 #[.slice a g.length cap] w (SmallB g w) := by
  unfold maxLen at hn
  have HG : Hid (GAt w B a g) := h
  clear h
  obtain ⟨n, hnn⟩ : ∃ n, n = g.length := ⟨_, rfl⟩
  rw [← hnn] at hn ⊢
  have HN : Hid (n = g.length) := hnn
  clear hnn
  by_cases hbig : 65536 < n
  · go_enter Try.func8, Try.ntmps8
    go_wp2
    go_ret
    exact ⟨_, rfl, rfl, by intro h; cases h⟩
  · by_cases hb2 : 1048576 < 24 * (n : Int)
    · go_enter Try.func8, Try.ntmps8
      go_wp2
      go_ret
      exact ⟨_, rfl, rfl, by intro h; cases h⟩
    · go_enter Try.func8, Try.ntmps8
      go_wp2
      go_loop [3, 4] (fun z i => ∃ (k : Nat), k ≤ n ∧ i = .int .i64 k ∧ z = .int .i64 ((24 * n + 8 * tot g k : Nat) : Int) ∧ 24 * n + 8 * tot g k ≤ 1048576) (fun _ i => n - (intOf i).toNat)
      case atStart => exact ⟨0, by omega, rfl, by simp [tot], by simp [tot]; omega⟩
      case round =>
        obtain ⟨k, hk, rfl, hz, z1⟩ := hrel
        obtain ⟨T, hT⟩ : ∃ T, T = 24 * n + 8 * tot g k := ⟨_, rfl⟩
        rw [← hT] at hz z1
        subst hz
        have HT : Hid (T = 24 * n + 8 * tot g k) := hT
        clear hT
        by_cases hlt : k < n
        · obtain ⟨b, o, A, C, ha, hb, hc, -, -, -, -⟩ := HG.out.row k (by rw [← HN.out]; exact hlt)
          have hL := HG.out.lenLe k
          obtain ⟨L, hL'⟩ : ∃ L, L = (rw' g k).length := ⟨_, rfl⟩
          rw [← hL'] at hL hc
          unfold maxLen at hL
          have HL : Hid (L = (rw' g k).length) := hL'
          clear hL'
          subst ha
          by_cases h1 : 1048576 < L
          · go_wp2
            go_ret
            exact ⟨_, rfl, rfl, by intro h; cases h⟩
          · by_cases h2 : 1048576 < (T : Int) + 8 * L
            · go_wp2
              go_ret
              exact ⟨_, rfl, rfl, by intro h; cases h⟩
            · go_wp2
              go_round
              case rel =>
                have e : 24 * n + 8 * tot g (k + 1) = T + 8 * L := by rw [HT.out, tot, ← HL.out]; omega
                exact ⟨k + 1, by omega, by go_num, by rw [e]; go_num, by rw [e]; omega⟩
              case measure => simp [intOf]; omega
        · have e : k = n := by omega
          have he : 24 * g.length + 8 * tot g g.length ≤ 1048576 := by rw [← HN.out, ← e]; have := HT.out; rw [← e] at this; omega
          have HE : Hid (24 * g.length + 8 * tot g g.length ≤ 1048576) := he
          clear e he
          go_wp2
          go_ret
          exact ⟨_, rfl, rfl, fun _ => HE.out⟩
end Go.Proofs.Qxb6600314a
