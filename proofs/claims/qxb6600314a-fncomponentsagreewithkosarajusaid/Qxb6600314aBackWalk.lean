import Derived.Test.Qxb6600314aCompWalk
import Derived.Test.Qxb6600314aBackPlain
namespace Go.Proofs.Qxb6600314a
open Go.RowKit

/-- A graph of whole numbers whose entries are not negative, as a graph of natural numbers. -/
def toN (g : List (List Int)) : List (List Nat) := g.map fun r => r.map Int.toNat

theorem toN_length (g : List (List Int)) : (toN g).length = g.length := by simp [toN]
theorem toN_row (g : List (List Int)) (i : Nat) : rowN (toN g) i = (rw' g i).map Int.toNat := by
  simp only [rowN, toN, rw', List.getD, List.getElem?_map]
  cases g[i]? <;> rfl
theorem toN_rowlen (g : List (List Int)) (i : Nat) : (rowN (toN g) i).length = (rw' g i).length := by rw [toN_row]; simp
theorem toN_at (g : List (List Int)) (i k : Nat) : (rowN (toN g) i).getD k 0 = ((rw' g i).getD k 0).toNat := by
  rw [toN_row]
  simp only [List.getD, List.getElem?_map]
  cases (rw' g i)[k]? <;> rfl

theorem rw'_out (g : List (List Int)) (i : Nat) (h : g.length ≤ i) : rw' g i = [] := by
  simp [rw', List.getD, List.getElem?_eq_none h]

theorem castG_toN (g : List (List Int)) (h : ∀ i k, i < g.length → k < (rw' g i).length → 0 ≤ (rw' g i).getD k 0) : castG (toN g) = g := by
  apply List.ext_getElem (by simp [castG, toN])
  intro i h1 h2
  have hr : rw' g i = g[i] := by simp [rw', List.getD, h2]
  simp only [castG, toN, List.getElem_map, List.map_map]
  apply List.ext_getElem (by simp)
  intro k k1 k2
  have := h i k h2 (by rw [hr]; exact k2)
  rw [hr] at this
  simp only [List.getD, k2, List.getElem?_eq_getElem, Option.getD_some] at this
  simp only [List.getElem_map, Function.comp]
  omega

/-- zz: ZZcomponents is components under another name. -/
theorem zzcomp_any (a : Option Addr) (cap : Nat) (g : List (List Nat)) (w : World) (h : GAt w w.heap.size a (castG g)) (hn : g.length ≤ 65536) (hr : ∀ i, (rowN g i).length ≤ 1048576) (fin : TS) (hout : Outer g g.length 0 (startS g.length) fin) :
    Calls Try.prog 11 #[.slice a g.length cap] w (CompPost w g.length fin) := by
  have HC : Hid (Calls Try.prog 19 #[.slice a g.length cap] w (CompPost w g.length fin)) := comp_any a cap g w h hn hr fin hout
  clear h hout hr hn
  go_enter Try.func11, Try.ntmps11
  go_wp2_with fail
  refine HC.out.mono ?_
  rintro e w' ⟨rfl, hrep⟩
  go_wp2
  go_ret
  exact ⟨rfl, hrep⟩

theorem clone_any (a : Option Addr) (cap : Nat) (g : List (List Int)) (w : World) (h : GAt w w.heap.size a g) (hnil : a = none → g.length = 0 ∧ cap = 0) (hn : g.length ≤ 65536) (hr : ∀ i, (rw' g i).length ≤ 1048576) :
    Calls Try.prog 10 #[.slice a g.length cap] w (Cloned w g) := by
  cases a with
  | some x => exact clone_some x cap g w h hn hr
  | none =>
    obtain ⟨h0, h1⟩ := hnil rfl
    obtain rfl : g = [] := List.eq_nil_of_length_eq_zero h0
    subst h1
    exact clone_nil w

theorem tot_ge (g : List (List Int)) : ∀ k i, i < k → (rw' g i).length ≤ tot g k := by
  intro k
  induction k with
  | zero => intro i hi; omega
  | succ k ih =>
    intro i hi
    rw [tot]
    by_cases e : i = k
    · subst e; omega
    · have := ih i (by omega); omega

theorem rows_small (g : List (List Int)) (h : 24 * g.length + 8 * tot g g.length ≤ 1048576) (i : Nat) : (rw' g i).length ≤ 1048576 := by
  by_cases hi : i < g.length
  · have := tot_ge g g.length i hi; omega
  · rw [rw'_out g i (by omega)]; simp

set_option maxHeartbeats 1000000 in
theorem backWalk (a : Option Addr) (cap : Nat) (g : List (List Int)) (w : World) (h : GAt w w.heap.size a g) (hnil : a = none → g.length = 0 ∧ cap = 0) (hn : g.length ≤ maxLen) :
    Calls Try.prog 4 #[.slice a g.length cap] w fun e w' => e = .returned (.bool true) ∧ Below w.heap.size w w' := by
  have HG : Hid (GAt w w.heap.size a g) := h
  have HNil : Hid (a = none → g.length = 0 ∧ cap = 0) := hnil
  have HM : Hid (g.length ≤ maxLen) := hn
  have hB := bytes13 a cap w.heap.size g w h hn
  have hT := tooBig a cap w.heap.size g w h hn
  have HB : Hid (Calls Try.prog 13 #[.slice a g.length cap] w (AnyB w)) := hB
  have HT : Hid (Calls Try.prog 8 #[.slice a g.length cap] w (SmallB g w)) := hT
  unfold maxLen at hn
  clear h hnil hB hT
  obtain ⟨n, hnn⟩ : ∃ n, n = g.length := ⟨_, rfl⟩
  rw [← hnn] at hn HB HT ⊢
  have HN : Hid (n = g.length) := hnn
  clear hnn
  go_enter Try.func4, Try.ntmps4
  go_wp2_with fail
  refine HB.out.mono ?_
  rintro e w' ⟨r, rfl, hw'⟩
  replace hw' := hw'.symm
  subst hw'
  cases r with
  | false =>
    go_wp2
    go_ret
    exact ⟨rfl, Below.refl _ _⟩
  | true =>
    go_wp2_with fail
    refine HT.out.mono ?_
    rintro e w' ⟨r, rfl, hw', hsm⟩
    replace hw' := hw'.symm
    subst hw'
    cases r with
    | true =>
      go_wp2
      go_ret
      exact ⟨rfl, Below.refl _ _⟩
    | false =>
      have hsm' := hsm rfl
      have HS : Hid (24 * g.length + 8 * tot g g.length ≤ 1048576) := hsm'
      have hn2 : n ≤ 65536 := by rw [HN.out]; omega
      clear hsm hsm' HB HT
      go_wp2
      go_loop [3] (fun i => ∃ k : Nat, k ≤ n ∧ i = .int .i64 k ∧ ∀ i j, i < k → j < (rw' g i).length → 0 ≤ (rw' g i).getD j 0 ∧ (rw' g i).getD j 0 < i) (fun i => n - (intOf i).toNat)
      case atStart => exact ⟨0, by omega, rfl, by omega⟩
      case round =>
        obtain ⟨k, hk, rfl, hok⟩ := hrel
        have HK : Hid (∀ i j, i < k → j < (rw' g i).length → 0 ≤ (rw' g i).getD j 0 ∧ (rw' g i).getD j 0 < i) := hok
        clear hok
        by_cases hlt : k < n
        · obtain ⟨b, o, A, C, ha, hb, hc, hA0, hC1, hC2, hrow⟩ := HG.out.row k (by rw [← HN.out]; exact hlt)
          have hL := rows_small g HS.out k
          obtain ⟨L, hL'⟩ : ∃ L, L = (rw' g k).length := ⟨_, rfl⟩
          rw [← hL'] at hL hc hrow
          have HL : Hid (L = (rw' g k).length) := hL'
          have HROW : Hid (∀ j, j < L → ∃ b' o', A = some ⟨b', o', none⟩ ∧ b' < w.heap.size ∧ w.cell? ⟨b', o' + j, none⟩ = some (.int .i64 ((rw' g k).getD j 0))) := hrow
          have HA : Hid (a = some ⟨b, o, none⟩) := ha
          clear hL' hrow hA0 hC1 hC2
          rw [ha]
          clear ha
          go_wp2
          go_loop [5] (fun i => ∃ t : Nat, t ≤ L ∧ i = .int .i64 t ∧ ∀ j, j < t → 0 ≤ (rw' g k).getD j 0 ∧ (rw' g k).getD j 0 < k) (fun i => L - (intOf i).toNat)
          case atStart => exact ⟨0, by omega, rfl, by omega⟩
          case round =>
            obtain ⟨t, ht, rfl, hok⟩ := hrel
            have HT : Hid (∀ j, j < t → 0 ≤ (rw' g k).getD j 0 ∧ (rw' g k).getD j 0 < k) := hok
            clear hok
            by_cases htl : t < L
            · obtain ⟨b', o', hA, hb', hct⟩ := HROW.out t htl
              subst hA
              obtain ⟨z, hz⟩ : ∃ z, z = (rw' g k).getD t 0 := ⟨_, rfl⟩
              rw [← hz] at hct
              have HZ : Hid (z = (rw' g k).getD t 0) := hz
              clear hz hc
              by_cases z1 : z < 0
              · go_wp2
                go_ret
                exact ⟨rfl, Below.refl _ _⟩
              · by_cases z2 : (k : Int) ≤ z
                · go_wp2
                  go_ret
                  exact ⟨rfl, Below.refl _ _⟩
                · go_wp2
                  go_round
                  case rel =>
                    refine ⟨t + 1, by omega, by go_num, fun j hj => ?_⟩
                    by_cases e : j = t
                    · subst e; rw [← HZ.out]; omega
                    · exact HT.out j (by omega)
                  case measure => simp [intOf]; omega
            · clear hc
              go_wp2
              go_round
              case rel =>
                refine ⟨k + 1, by omega, by go_num, fun i j hi hj => ?_⟩
                by_cases e : i = k
                · subst e; exact HT.out j (by have := HL.out; omega)
                · exact HK.out i j (by omega) hj
              case measure => simp [intOf]; omega
        · have hkn : k = g.length := by rw [← HN.out]; omega
          have hb : Back (toN g) := by
            intro i j hi hj
            rw [toN_length] at hi
            rw [toN_rowlen] at hj
            have := HK.out i j (by omega) hj
            rw [toN_at]
            omega
          have hcast : castG (toN g) = g := castG_toN g (fun i j hi hj => (HK.out i j (by omega) hj).1)
          have hrs : ∀ i, (rowN (toN g) i).length ≤ 1048576 := fun i => by rw [toN_rowlen]; exact rows_small g HS.out i
          obtain ⟨fin, hfin, hout⟩ := back_all (toN g) hb hrs (by rw [toN_length, ← HN.out]; exact hn2)
          have hcl := clone_any a cap g w HG.out HNil.out (by rw [← HN.out]; exact hn2) (rows_small g HS.out)
          rw [toN_length] at hfin hout
          rw [← HN.out] at hcl hfin hout
          have HFIN : Hid (BS n n fin) := hfin
          have HCL : Hid (Calls Try.prog 10 #[.slice a n cap] w (Cloned w g)) := hcl
          have HCO : Hid (∀ a' w', GAt w' w'.heap.size a' g → Calls Try.prog 11 #[.slice a' n n] w' (CompPost w' n fin)) := by
            intro a' w' hga
            have := zzcomp_any a' n (toN g) w' (by rw [hcast]; exact hga) (by rw [toN_length, ← HN.out]; exact hn2) hrs fin (by rw [toN_length, ← HN.out]; exact hout)
            rw [toN_length, ← HN.out] at this
            exact this
          clear hb hcast hrs hfin hout hcl hkn HK HS HM HNil HG
          go_wp2_with fail
          refine HCL.out.mono ?_
          rintro e w1 ⟨a1, rfl, hga, hbel⟩
          rw [← HN.out]
          have HGA : Hid (GAt w1 w1.heap.size a1 g) := hga
          have HBE : Hid (Below w.heap.size w w1) := hbel
          clear hga hbel HCL
          go_wp2_with fail
          refine (HCO.out a1 w1 HGA.out).mono ?_
          rintro e w2 ⟨rfl, hrep⟩
          have HREP : Hid (Rep w1.heap.size w1 w2 n fin) := hrep
          clear hrep HCO
          go_wp2
          go_loop [7] (fun i => ∃ t : Nat, t ≤ n ∧ i = .int .i64 t) (fun i => n - (intOf i).toNat)
          case atStart => exact ⟨0, by omega, rfl⟩
          case round =>
            obtain ⟨t, ht, rfl⟩ := hrel
            by_cases htl : t < n
            · have c6 := ints_cell HREP.out.b6 (i := t) (by rw [HREP.out.lc]; exact htl)
              rw [HFIN.out.comp t htl] at c6
              go_wp2
              go_round
              case rel => exact ⟨t + 1, by omega, by go_num⟩
              case measure => simp [intOf]; omega
            · go_wp2
              go_ret
              exact ⟨rfl, HBE.out.trans (HREP.out.below.mono HBE.out.size)⟩
end Go.Proofs.Qxb6600314a
