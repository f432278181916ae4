import Derived.Test.Qxb6000049aRows
import Derived.WalkKit
import Derived.WalkSpells
import Derived.WalkSmall
import Derived.OpenShut
import Derived.Deep.OwnRows
namespace Go.Proofs.Qxb6000049a
open Go.RowKit

theorem clone_info5 : (Try.prog.info? 5).map (fun i => (i.zero, i.size, i.bytes)) = some (some (.int .u8 0), 1, 1) := by kernel_rfl

/-- The clone's cells behind k rounds. -/
def cp (zs : List Int) (len k : Nat) : Array Value := ((zs.take k).map (Value.int .u8) ++ List.replicate (len - k) (Value.int .u8 0)).toArray

theorem cp_zero (zs : List Int) (len : Nat) : madeCells #[.int .u8 0] len = cp zs len 0 := by
  apply Array.ext'
  rw [toList_madeCells_one]
  simp [cp]

theorem cp_size (zs : List Int) (len k : Nat) (hk : k ≤ len) (hz : len ≤ zs.length) : (cp zs len k).size = len := by
  simp [cp]; omega

theorem cp_step (zs : List Int) (len k : Nat) (hk : k < len) (hz : len ≤ zs.length) : (cp zs len k).setIfInBounds k (.int .u8 (zs.getD k 0)) = cp zs len (k + 1) := by
  apply Array.ext'
  simp only [cp, Array.toList_setIfInBounds]
  have e : len - k = (len - (k + 1)) + 1 := by omega
  rw [e, List.replicate_succ, List.set_append]
  have hl : ((zs.take k).map (Value.int .u8)).length = k := by simp; omega
  have hg : zs.getD k 0 = zs[k] := by simp [List.getD, (by omega : k < zs.length)]
  rw [if_neg (by omega), hl, Nat.sub_self, List.set_cons_zero, List.take_succ_eq_append_getElem (by omega : k < zs.length), hg]
  simp only [List.map_append, List.map_cons, List.map_nil, List.append_assoc, List.cons_append, List.nil_append]

theorem cp_last (zs : List Int) (len : Nat) : cp zs len len = ((zs.take len).map (Value.int .u8)).toArray := by
  simp [cp]

theorem clone_nil (w : World) : Calls Try.prog 9 #[.slice none 0 0] w fun e w' => e = .returned (.slice none 0 0) ∧ w' = w := by
  have hq := fun w => Lib.run_eql_slice_nil (P := Try.prog) w 22 5 none 0 0 0 0 Try.underlying22
  go_enter Try.func9, Try.ntmps9
  go_wp2
  go_ret
  exact ⟨rfl, rfl⟩

set_option maxHeartbeats 400000 in
theorem clone_some (x : Addr) (len cap : Nat) (zs : List Int) (w : World) (hl : len ≤ cap) (hlen : len ≤ 1048576) (hz : zs.length = cap) (hc : ∀ i, i < zs.length → w.cell? (x.add i) = some (.int .u8 (zs.getD i 0))) :
    Calls Try.prog 9 #[.slice (some x) len cap] w fun e w' => e = .returned (.slice (some ⟨w.heap.size, 0, none⟩) len len) ∧ w' = w.alloc (.cells ((zs.take len).map (Value.int .u8)).toArray 5) := by
  have hq := fun w => Lib.run_eql_slice_nil (P := Try.prog) w 22 5 (some x) len cap 0 0 Try.underlying22
  have hmk := fun w => run_make_row' (P := Try.prog) 22 5 (.int .u8 0) 1 Try.underlying22 clone_info5 rfl .i64 .i64 len (by omega) (by omega) w
  go_enter Try.func9, Try.ntmps9
  go_wp2
  go_loopw [4] (fun i wr => ∃ k : Nat, k ≤ len ∧ i = .int .i64 k ∧ wr = w.alloc (.cells (cp zs len k) 5)) (fun i _ => len - (intOf i).toNat)
  case atStart => exact ⟨0, by omega, rfl, by rw [cp_zero zs len]⟩
  case round =>
    obtain ⟨k, hk, rfl, rfl⟩ := hrel
    by_cases hlt : k < len
    · obtain ⟨b, off, spot⟩ := x
      have hck := hc k (by omega)
      have hspot : spot = none := by simpa [Addr.add] using World.cell?_spot (hc 0 (by omega))
      subst hspot
      have hck' : w.cell? ⟨b, off + k, none⟩ = some (.int .u8 (zs.getD k 0)) := by
        rw [← hck]; congr 1; cases k <;> simp [Addr.add]
      have hbk : b < w.heap.size := by have := World.block_lt_of_cell? w _ hck'; simpa using this
      have hck2 : (w.alloc (.cells (cp zs len k) 5)).cell? ⟨b, off + k, none⟩ = some (.int .u8 (zs.getD k 0)) := by
        rw [World.cell?_alloc_lt _ _ _ hbk]; exact hck'
      have hsz := cp_size zs len k hk (by omega)
      have hst := cp_step zs len k hlt (by omega)
      have HS : Hid ((cp zs len k).setIfInBounds k (.int .u8 (zs.getD k 0)) = cp zs len (k + 1)) := hst
      obtain ⟨y, hy⟩ : ∃ y, y = zs.getD k 0 := ⟨_, rfl⟩
      rw [← hy] at hck2 HS
      clear hc hck hck' hst hy hq
      go_wp2
      go_roundw
      case rel => exact ⟨k + 1, by omega, by go_num, by rw [HS.out]⟩
      case measure => simp [intOf]; omega
    · obtain rfl : k = len := by omega
      go_wp2
      go_ret
      exact ⟨rfl, by rw [cp_last]⟩


/-- WHAT THE WALK IS TOLD OF A SLICE OF INTEGERS THAT CAME IN (the shell's own words): it is nil; or it leads to a row of 'cap' cells, the numbers 'zs' (the first 'len' are its elements, the rest its spare room), each fitting its kind. -/
def IsRow (k : IntKind) (w : World) (a : Option Addr) (len cap : Nat) (zs : List Int) : Prop :=
  (a = none ∧ len = 0 ∧ cap = 0 ∧ zs = []) ∨
  ∃ x, a = some x ∧ len ≤ cap ∧ cap ≤ maxLen ∧ zs.length = cap ∧ (∀ i, i < zs.length → w.cell? (x.add i) = some (.int k (zs.getD i 0))) ∧ ∀ n ∈ zs, (Lit.int k n).wf = true

theorem bytes8_big (a : Option Addr) (len cap : Nat) (w : World) (h : 1048576 < len) (h2 : len ≤ 9223372036854775807) :
    Calls Try.prog 8 #[.slice a len cap] w fun e w' => e = .returned (.bool false) ∧ w' = w := by
  go_enter Try.func8, Try.ntmps8
  go_wp2
  go_ret
  exact ⟨rfl, rfl⟩

theorem bytes8_ok (a : Option Addr) (len cap : Nat) (w : World) (h : len ≤ 1048576) :
    Calls Try.prog 8 #[.slice a len cap] w fun e w' => e = .returned (.bool true) ∧ w' = w := by
  go_enter Try.func8, Try.ntmps8
  go_wp2
  go_ret
  exact ⟨rfl, rfl⟩

theorem bytes13_big (a : Option Addr) (len cap : Nat) (c : Int) (w : World) (h : 1048576 < len) (h2 : len ≤ 9223372036854775807) :
    Calls Try.prog 13 #[.slice a len cap, .int .u8 c] w fun e w' => e = .returned (.bool false) ∧ w' = w := by
  go_enter Try.func13, Try.ntmps13
  go_wp2
  go_ret
  exact ⟨rfl, rfl⟩

theorem bytes13_ok (a : Option Addr) (len cap : Nat) (c : Int) (w : World) (h : len ≤ 1048576) :
    Calls Try.prog 13 #[.slice a len cap, .int .u8 c] w fun e w' => e = .returned (.bool true) ∧ w' = w := by
  go_enter Try.func13, Try.ntmps13
  go_wp2
  go_ret
  exact ⟨rfl, rfl⟩

/-- The clone's cells, read. -/
theorem cell_clone (w : World) (zs : List Int) (len j : Nat) (hj : j < len) (hz : len ≤ zs.length) :
    (w.alloc (.cells ((zs.take len).map (Value.int .u8)).toArray 5)).cell? ⟨w.heap.size, j, none⟩ = some (.int .u8 (zs.getD j 0)) := by
  rw [World.cell?, heap_alloc_new]
  have h1 : j < zs.length := by omega
  simp [hj, h1]

theorem byte_of_wf {zs : List Int} (h : ∀ n ∈ zs, (Lit.int .u8 n).wf = true) (j : Nat) : 0 ≤ zs.getD j 0 ∧ zs.getD j 0 ≤ 255 := by
  by_cases hj : j < zs.length
  · have := bounds_u8 (h zs[j] (List.getElem_mem hj))
    simpa [List.getD, hj] using this
  · simp [List.getD, List.getElem?_eq_none (by omega : zs.length ≤ j)]
end Go.Proofs.Qxb6000049a
