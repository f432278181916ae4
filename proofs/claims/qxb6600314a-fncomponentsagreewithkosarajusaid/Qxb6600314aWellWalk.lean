import Derived.Test.Qxb6600314aBackWalk
namespace Go.Proofs.Qxb6600314a
open Go.RowKit

/-- What graphWellFormed tells. -/
def WellB (g : List (List Int)) (w : World) (e : Ending) (w' : World) : Prop :=
  ∃ r, e = .returned (.bool r) ∧ w' = w ∧ (r = true → ∀ i j, i < g.length → j < (rw' g i).length → 0 ≤ (rw' g i).getD j 0 ∧ (rw' g i).getD j 0 < g.length)

set_option maxHeartbeats 400000 in
theorem wellFormed (a : Option Addr) (cap : Nat) (g : List (List Int)) (w : World) (h : GAt w w.heap.size a g) (hn : g.length ≤ 65536) (hr : ∀ i, (rw' g i).length ≤ 1048576) :
    Calls Try.prog 9 #[.slice a g.length cap] w (WellB g w) := by
  have HG : Hid (GAt w w.heap.size a g) := h
  have HS : Hid (∀ i, (rw' g i).length ≤ 1048576) := hr
  clear h hr
  obtain ⟨n, hnn⟩ : ∃ n, n = g.length := ⟨_, rfl⟩
  rw [← hnn] at hn ⊢
  have HN : Hid (n = g.length) := hnn
  clear hnn
  go_enter Try.func9, Try.ntmps9
  go_wp2
  go_loop [4] (fun i => ∃ k : Nat, k ≤ n ∧ i = .int .i64 k ∧ ∀ i j, i < k → j < (rw' g i).length → 0 ≤ (rw' g i).getD j 0 ∧ (rw' g i).getD j 0 < (n : Int)) (fun i => n - (intOf i).toNat)
  case atStart => exact ⟨0, by omega, rfl, by omega⟩
  case round =>
    obtain ⟨k, hk, rfl, hok⟩ := hrel
    have HK : Hid (∀ i j, i < k → j < (rw' g i).length → 0 ≤ (rw' g i).getD j 0 ∧ (rw' g i).getD j 0 < (n : Int)) := hok
    clear hok
    by_cases hlt : k < n
    · obtain ⟨b, o, A, C, ha, hb, hc, hA0, hC1, hC2, hrow⟩ := HG.out.row k (by rw [← HN.out]; exact hlt)
      have hL := HS.out k
      obtain ⟨L, hL'⟩ : ∃ L, L = (rw' g k).length := ⟨_, rfl⟩
      rw [← hL'] at hL hc hrow
      have HL : Hid (L = (rw' g k).length) := hL'
      have HROW : Hid (∀ j, j < L → ∃ b' o', A = some ⟨b', o', none⟩ ∧ b' < w.heap.size ∧ w.cell? ⟨b', o' + j, none⟩ = some (.int .i64 ((rw' g k).getD j 0))) := hrow
      clear hL' hrow hA0 hC1 hC2
      rw [ha]
      clear ha
      go_wp2
      go_loop [6] (fun i => ∃ t : Nat, t ≤ L ∧ i = .int .i64 t ∧ ∀ j, j < t → 0 ≤ (rw' g k).getD j 0 ∧ (rw' g k).getD j 0 < (n : Int)) (fun i => L - (intOf i).toNat)
      case atStart => exact ⟨0, by omega, rfl, by omega⟩
      case round =>
        obtain ⟨t, ht, rfl, hok⟩ := hrel
        have HT : Hid (∀ j, j < t → 0 ≤ (rw' g k).getD j 0 ∧ (rw' g k).getD j 0 < (n : Int)) := hok
        clear hok
        by_cases htl : t < L
        · obtain ⟨b', o', hA, hb', hct⟩ := HROW.out t htl
          subst hA
          obtain ⟨z, hz⟩ : ∃ z, z = (rw' g k).getD t 0 := ⟨_, rfl⟩
          rw [← hz] at hct
          have HZ : Hid (z = (rw' g k).getD t 0) := hz
          clear hz hc
          by_cases z1 : z < 0
          · go_wp2
            go_ret
            exact ⟨_, rfl, rfl, by intro h; cases h⟩
          · by_cases z2 : (n : Int) ≤ z
            · go_wp2
              go_ret
              exact ⟨_, rfl, rfl, by intro h; cases h⟩
            · go_wp2
              go_round
              case rel =>
                refine ⟨t + 1, by omega, by go_num, fun j hj => ?_⟩
                by_cases e : j = t
                · subst e; rw [← HZ.out]; omega
                · exact HT.out j (by omega)
              case measure => simp [intOf]; omega
        · clear hc
          go_wp2
          go_round
          case rel =>
            refine ⟨k + 1, by omega, by go_num, fun i j hi hj => ?_⟩
            by_cases e : i = k
            · subst e; exact HT.out j (by have := HL.out; omega)
            · exact HK.out i j (by omega) hj
          case measure => simp [intOf]; omega
    · go_wp2
      go_ret
      exact ⟨_, rfl, rfl, fun _ i j hi hj => by
        have := HK.out i j (by have := HN.out; omega) hj
        have := HN.out
        omega⟩
end Go.Proofs.Qxb6600314a
