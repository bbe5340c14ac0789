/-
  THE NODES as a row of cells: what make lays, what one store turns.
-/
import Derived.Test.YbulkpngParts
import Derived.Deep.OwnRows
namespace Go.Proofs.Ybulkpng
open Go.RowKit

theorem Yba.info27 : (Yba.prog.info? 27).map (fun i => (i.zero, i.size, i.bytes)) = some (some (.agg #[.int .i64 0, .int .i32 0, .int .u32 0]), 3, 16) := by kernel_rfl

/-- Cell c of the nodes' row when the first k nodes are written. -/
def nodeF (zs : List Int) (k c : Nat) : Value :=
  if c / 3 < k then (if c % 3 = 0 then .int .i64 (zs.getD (c / 3) 0) else if c % 3 = 1 then .int .i32 (c / 3 : Nat) else .int .u32 (c / 3 : Nat))
  else (if c % 3 = 0 then .int .i64 0 else if c % 3 = 1 then .int .i32 0 else .int .u32 0)

theorem nodeF_a (zs : List Int) {j k : Nat} (h : j < k) : nodeF zs k (j * 3) = .int .i64 (zs.getD j 0) := by
  have e : j * 3 / 3 = j := by omega
  have e2 : j * 3 % 3 = 0 := by omega
  simp only [nodeF, e, e2, h, if_true]
theorem nodeF_b (zs : List Int) {j k : Nat} (h : j < k) : nodeF zs k (j * 3 + 1) = .int .i32 (j : Nat) := by
  have e : (j * 3 + 1) / 3 = j := by omega
  have e2 : (j * 3 + 1) % 3 = 1 := by omega
  simp only [nodeF, e, e2, h, if_true, if_neg (show ¬ (1 : Nat) = 0 by decide)]
theorem nodeF_c (zs : List Int) {j k : Nat} (h : j < k) : nodeF zs k (j * 3 + 2) = .int .u32 (j : Nat) := by
  have e : (j * 3 + 2) / 3 = j := by omega
  have e2 : (j * 3 + 2) % 3 = 2 := by omega
  simp only [nodeF, e, e2, h, if_true, if_neg (show ¬ (2 : Nat) = 0 by decide), if_neg (show ¬ (2 : Nat) = 1 by decide)]

/-- What make lays. -/
theorem row_made {w : World} {B base n : Nat} (h : w.ownsRow base 27 3 (.slice (some ⟨B, 0, none⟩) n n) n (madeCells (Value.agg #[.int .i64 0, .int .i32 0, .int .u32 0]).cells (n * 3)).toList) (zs : List Int) : w.rowIs B 27 (n * 3) (nodeF zs 0) := by
  rcases h.2 with ⟨h', _⟩ | ⟨g', cap', cur, h', _, hg, _, _, hcs, htake⟩
  · simp at h'
  · simp only [Value.slice.injEq, Option.some.injEq, Addr.mk.injEq, and_true, true_and] at h'
    obtain ⟨rfl, rfl⟩ := h'
    refine ⟨cur, hg, hcs, fun i hi => ?_⟩
    have e : cur.toList[i]? = (madeCells (Value.agg #[.int .i64 0, .int .i32 0, .int .u32 0]).cells (n * 3)).toList[i]? := by rw [← htake, List.getElem?_take, if_pos hi]
    rw [← Array.getElem?_toList, e]
    have hz : (Value.agg #[.int .i64 0, .int .i32 0, .int .u32 0]).cells = #[.int .i64 0, .int .i32 0, .int .u32 0] := rfl
    rw [hz]
    have h3 : i % 3 = 0 ∨ i % 3 = 1 ∨ i % 3 = 2 := by omega
    rcases h3 with h3 | h3 | h3 <;> simp [madeCells, nodeF, hi, h3]

/-- One node is stored. -/
theorem row_store {w : World} {B n k : Nat} {zs : List Int} (h : w.rowIs B 27 n (nodeF zs k)) :
    (((w.setCell ⟨B, k * 3, none⟩ (.int .i64 (zs.getD k 0))).setCell ⟨B, k * 3 + 1, none⟩ (.int .i32 (k : Nat))).setCell ⟨B, k * 3 + 2, none⟩ (.int .u32 (k : Nat))).rowIs B 27 n (nodeF zs (k + 1)) := by
  refine (((h.set (k * 3) _).set (k * 3 + 1) _).set (k * 3 + 2) _).congr fun i _ => ?_
  by_cases h2 : i = k * 3 + 2
  · subst h2; rw [if_pos rfl, nodeF_c zs (Nat.lt_succ_self k)]
  · rw [if_neg h2]
    by_cases h1 : i = k * 3 + 1
    · subst h1; rw [if_pos rfl, nodeF_b zs (Nat.lt_succ_self k)]
    · rw [if_neg h1]
      by_cases h0 : i = k * 3
      · subst h0; rw [if_pos rfl, nodeF_a zs (Nat.lt_succ_self k)]
      · rw [if_neg h0]
        have e : (i / 3 < k + 1) ↔ (i / 3 < k) := by omega
        simp only [nodeF, e]

end Go.Proofs.Ybulkpng
