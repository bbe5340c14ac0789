/-
  THE WALK of 'LawS0800CExact': the callees, then the loop over the five figures.
-/
import Derived.Test.YbulkpnuRows
import Derived.WalkKit
import Derived.ProofKit
import Derived.Deep.QuietTactic
import Derived.BigQuiet
import Derived.WalkSmall
namespace Go.Proofs.Ybulkpnu
open Go.RowKit

/-- The five names. -/
def nm0 : ByteArray := ⟨#[99, 111, 117, 112, 111, 110, 115, 95, 114, 101, 99, 101, 105, 118, 101, 100]⟩
def nm1 : ByteArray := ⟨#[100, 97, 121, 115]⟩
def nm2 : ByteArray := ⟨#[97, 99, 99, 114, 117, 101, 100, 95, 105, 110, 116, 101, 114, 101, 115, 116]⟩
def nm3 : ByteArray := ⟨#[97, 100, 106, 117, 115, 116, 109, 101, 110, 116]⟩
def nm4 : ByteArray := ⟨#[97, 109, 111, 117, 110, 116]⟩

set_option maxRecDepth 100000 in
theorem quote_any (a0 a1 a2 a3 a4 a5 a6 : Int) (w0 w : World) (hg : Grown w0 w) :
    Calls Yba.prog 5 #[.int .i32 a0, .int .i64 a1, .int .i64 a2, .int .i64 a3, .int .i64 a4, .int .i64 a5, .int .i64 a6] w fun e w' =>
      e = .returned (.agg #[.int .i32 a0, .int .i64 a1, .int .i64 a2, .int .i64 a3, .int .i64 a4, .int .i64 a5, .int .i64 a6]) ∧ Grown w0 w' := by
  go_enter Yba.func5, Yba.ntmps5
  go_wp2
  exact bodyPost_ret (v := .agg #[.int .i32 a0, .int .i64 a1, .int .i64 a2, .int .i64 a3, .int .i64 a4, .int .i64 a5, .int .i64 a6]) (by simp [results, Yba.results5, go_sem]) rfl ⟨rfl, hg.alloc _ _⟩

set_option maxRecDepth 100000 in
theorem figures_any (a0 a1 a2 a3 a4 a5 a6 : Int) (w0 w : World) (hg : Grown w0 w) :
    Calls Yba.prog 6 #[.agg #[.int .i32 a0, .int .i64 a1, .int .i64 a2, .int .i64 a3, .int .i64 a4, .int .i64 a5, .int .i64 a6]] w fun e w' =>
      e = .returned (.agg #[.string nm0, .int .i64 a2, .string nm1, .int .i64 a3, .string nm2, .int .i64 a4, .string nm3, .int .i64 a5, .string nm4, .int .i64 a6]) ∧ Grown w0 w' := by
  go_enter Yba.func6, Yba.ntmps6
  go_wp2
  exact bodyPost_ret (v := .agg #[.string nm0, .int .i64 a2, .string nm1, .int .i64 a3, .string nm2, .int .i64 a4, .string nm3, .int .i64 a5, .string nm4, .int .i64 a6]) (by simp [results, Yba.results6, go_sem]; exact ⟨rfl, rfl, rfl, rfl, rfl⟩) rfl ⟨rfl, (hg.alloc _ _).alloc _ _⟩

/-- What the loop reads, at every one of the five places: the figure's name and the name beside it are one, the figure's value and the value beside it are one. -/
def Fig (G : Nat) (w : World) : Prop := ∀ k, k < 5 → ∃ (s : ByteArray) (v : Int), w.cell? ⟨G, k * 2, none⟩ = some (.string s) ∧ w.cell? ⟨G, k * 2 + 1, none⟩ = some (.int .i64 v) ∧ w.cell? ⟨G + 1, k, none⟩ = some (.string s) ∧ w.cell? ⟨G + 1 + 1, k, none⟩ = some (.int .i64 v)

/-- The cells of three blocks that were laid one behind the other. -/
theorem cell3 (w : World) (A B C : Array Value) (t u v : TypeId) (i : Nat) :
    (((w.alloc (.cells A t)).alloc (.cells B u)).alloc (.cells C v)).cell? ⟨w.heap.size, i, none⟩ = A[i]? ∧
    (((w.alloc (.cells A t)).alloc (.cells B u)).alloc (.cells C v)).cell? ⟨w.heap.size + 1, i, none⟩ = B[i]? ∧
    (((w.alloc (.cells A t)).alloc (.cells B u)).alloc (.cells C v)).cell? ⟨w.heap.size + 1 + 1, i, none⟩ = C[i]? := by
  have h1 : (w.alloc (.cells A t)).heap.size = w.heap.size + 1 := by simp
  have h2 : ((w.alloc (.cells A t)).alloc (.cells B u)).heap.size = w.heap.size + 1 + 1 := by simp
  refine ⟨?_, ?_, ?_⟩
  · rw [World.cell?_alloc_past (hn := by omega), World.cell?_alloc_past (hn := by omega), World.cell?_alloc_at (hn := rfl)]
  · rw [World.cell?_alloc_past (hn := by omega), World.cell?_alloc_at (hn := h1.symm)]
  · rw [World.cell?_alloc_at (hn := h2.symm)]

theorem fig_start (a2 a3 a4 a5 a6 : Int) (w : World) :
    Fig w.heap.size (((w.alloc (.cells #[.string nm0, .int .i64 a2, .string nm1, .int .i64 a3, .string nm2, .int .i64 a4, .string nm3, .int .i64 a5, .string nm4, .int .i64 a6] 29)).alloc (.cells #[.string nm0, .string nm1, .string nm2, .string nm3, .string nm4] 31)).alloc (.cells #[.int .i64 a2, .int .i64 a3, .int .i64 a4, .int .i64 a5, .int .i64 a6] 32)) := by
  intro k hk
  obtain rfl | rfl | rfl | rfl | rfl : k = 0 ∨ k = 1 ∨ k = 2 ∨ k = 3 ∨ k = 4 := by omega
  · exact ⟨nm0, a2, (cell3 w _ _ _ _ _ _ _).1, (cell3 w _ _ _ _ _ _ _).1, (cell3 w _ _ _ _ _ _ _).2.1, (cell3 w _ _ _ _ _ _ _).2.2⟩
  · exact ⟨nm1, a3, (cell3 w _ _ _ _ _ _ _).1, (cell3 w _ _ _ _ _ _ _).1, (cell3 w _ _ _ _ _ _ _).2.1, (cell3 w _ _ _ _ _ _ _).2.2⟩
  · exact ⟨nm2, a4, (cell3 w _ _ _ _ _ _ _).1, (cell3 w _ _ _ _ _ _ _).1, (cell3 w _ _ _ _ _ _ _).2.1, (cell3 w _ _ _ _ _ _ _).2.2⟩
  · exact ⟨nm3, a5, (cell3 w _ _ _ _ _ _ _).1, (cell3 w _ _ _ _ _ _ _).1, (cell3 w _ _ _ _ _ _ _).2.1, (cell3 w _ _ _ _ _ _ _).2.2⟩
  · exact ⟨nm4, a6, (cell3 w _ _ _ _ _ _ _).1, (cell3 w _ _ _ _ _ _ _).1, (cell3 w _ _ _ _ _ _ _).2.1, (cell3 w _ _ _ _ _ _ _).2.2⟩

set_option maxHeartbeats 1000000 in
set_option maxRecDepth 100000 in
theorem exact_any (a0 a1 a2 a3 a4 a5 a6 : Int) (w : World) :
    Calls Yba.prog 3 #[.int .i32 a0, .int .i64 a1, .int .i64 a2, .int .i64 a3, .int .i64 a4, .int .i64 a5, .int .i64 a6] w fun e w' => e = .returned (.bool true) ∧ Grown w w' := by
  go_enter Yba.func3, Yba.ntmps3
  go_wp2_with fail
  refine (quote_any _ _ _ _ _ _ _ w _ (Grown.refl _)).mono ?_
  rintro e w1 ⟨rfl, hg1⟩
  go_wp2_with fail
  refine (figures_any _ _ _ _ _ _ _ w _ (hg1.alloc _ _)).mono ?_
  rintro e w2 ⟨rfl, hg2⟩
  go_wp2_with fail
  go_loopw [19] (fun i wx => ∃ k : Nat, k ≤ 5 ∧ i = .int .i64 k ∧ Fig w2.heap.size wx ∧ Grown w wx) (fun i _ => 5 - (intOf i).toNat)
  case atStart => exact ⟨0, by omega, rfl, fig_start a2 a3 a4 a5 a6 w2, ((hg2.alloc _ _).alloc _ _).alloc _ _⟩
  case round =>
    obtain ⟨k, hk, rfl, hfig, hg⟩ := hrel
    by_cases hlt : k < 5
    · obtain ⟨s, v, c0, c1, c2, c3⟩ := hfig k hlt
      have HF : Hid (Fig w2.heap.size wr) := hfig
      have hlti : (k : Int) < 5 := by omega
      clear hfig hg1 hg2
      go_wp2
      go_quiet (fail)
      go_wp2
      go_roundw
      case rel => exact ⟨k + 1, by omega, by go_num, HF, hg⟩
      case measure => simp [intOf]; omega
    · obtain rfl : k = 5 := by omega
      clear hfig hg1 hg2
      go_wp2
      go_ret
      exact ⟨rfl, hg⟩

end Go.Proofs.Ybulkpnu
