/-
  THE WALKS of the callees: '(node).kind', '(node).c', '(Value).Len', '(Entries).Len', '(Value).Entries'.
-/
import Derived.Test.YbulkpngRows
import Derived.Test.YbulkpngPlain
import Derived.WalkKit
import Derived.ProofKit
import Derived.RegionTactic
namespace Go.Proofs.Ybulkpng
open Go.RowKit

theorem ret_int {k : IntKind} {a b : Int} (h : a = b) : Ending.returned (.int k a) = .returned (.int k b) := by rw [h]

theorem bcell {W w1 : World} (hb : Below W.heap.size W w1) : (∀ b o, b < W.heap.size → w1.cell? ⟨b, o, none⟩ = W.cell? ⟨b, o, none⟩) ∧ (∀ b o, b < W.heap.size → w1.frozen? ⟨b, o, none⟩ = W.frozen? ⟨b, o, none⟩) :=
  ⟨fun b o h => hb.cell (p := ⟨b, o, none⟩) h, fun b o h => hb.frozen (p := ⟨b, o, none⟩) h⟩

theorem kind_any (a b kc : Int) (w : World) (h0 : 0 ≤ kc) (h1 : kc ≤ 4294967295) :
    Calls Yba.prog 7 #[.agg #[.int .i64 a, .int .i32 b, .int .u32 kc]] w fun e w' => e = .returned (.int .u8 (kc / 268435456)) ∧ Below w.heap.size w w' := by
  go_enter Yba.func7, Yba.ntmps7
  go_wp2
  go_ret
  exact ⟨rfl, (Below.refl _ _).alloc (Nat.le_refl _) _⟩

theorem c_any (a b kc : Int) (w : World) (h0 : 0 ≤ kc) (h1 : kc ≤ 4294967295) :
    Calls Yba.prog 8 #[.agg #[.int .i64 a, .int .i32 b, .int .u32 kc]] w fun e w' => e = .returned (.int .i32 (kc % 268435456)) ∧ Below w.heap.size w w' := by
  have hm := and_mask kc h0 (by omega)
  go_enter Yba.func8, Yba.ntmps8
  go_wp2
  go_ret
  exact ⟨rfl, (Below.refl _ _).alloc (Nat.le_refl _) _⟩

theorem elen_any (p : Option Addr) (a : Option Addr) (n c : Nat) (w : World) :
    Calls Yba.prog 5 #[.agg #[.pointer p, .slice a n c]] w fun e w' => e = .returned (.int .i64 n) ∧ Below w.heap.size w w' := by
  go_enter Yba.func5, Yba.ntmps5
  go_wp2
  go_ret
  exact ⟨rfl, (Below.refl _ _).alloc (Nat.le_refl _) _⟩

theorem vlen_zero (p : Option Addr) (a b kc : Int) (w : World) (h0 : 0 ≤ kc) (h1 : kc ≤ 4294967295) (h : kc / 268435456 = 12 ∨ kc % 268435456 = 0) :
    Calls Yba.prog 6 #[.agg #[.pointer p, .int .i64 a, .int .i32 b, .int .u32 kc]] w fun e w' => e = .returned (.int .i64 0) ∧ Below w.heap.size w w' := by
  have hm := and_mask kc h0 (by omega)
  by_cases hk : kc / 268435456 = 12
  · clear h
    go_enter Yba.func6, Yba.ntmps6
    go_wp2
    go_ret
    exact ⟨rfl, ((Below.refl _ _).alloc (Nat.le_refl _) _).alloc (by simp) _⟩
  · have hz : kc % 268435456 = 0 := by omega
    rw [hz] at hm
    have hne : ¬ (kc / 268435456 = 12) := hk
    clear h hz
    go_enter Yba.func6, Yba.ntmps6
    go_wp2
    go_ret
    exact ⟨rfl, (((Below.refl _ _).alloc (Nat.le_refl _) _).alloc (by simp) _).alloc (by simp; omega) _⟩

theorem vlen_pos (p : Option Addr) (a b kc : Int) (w : World) (h0 : 0 ≤ kc) (h1 : kc ≤ 4294967295) (hk : ¬ kc / 268435456 = 12) :
    Calls Yba.prog 6 #[.agg #[.pointer p, .int .i64 a, .int .i32 b, .int .u32 kc]] w fun e w' => e = .returned (.int .i64 (kc % 268435456)) ∧ Below w.heap.size w w' := by
  have hm := and_mask kc h0 (by omega)
  go_enter Yba.func6, Yba.ntmps6
  go_wp2
  go_ret
  exact ⟨rfl, (((Below.refl _ _).alloc (Nat.le_refl _) _).alloc (by simp) _).alloc (by simp; omega) _⟩

theorem entries_zero (p : Option Addr) (a b kc : Int) (w : World) (h0 : 0 ≤ kc) (h1 : kc ≤ 4294967295) (h : kc / 268435456 = 12 ∨ kc % 268435456 = 0) :
    Calls Yba.prog 4 #[.agg #[.pointer p, .int .i64 a, .int .i32 b, .int .u32 kc]] w fun e w' => e = .returned (.agg #[.pointer none, .slice none 0 0]) ∧ Below w.heap.size w w' := by
  go_enter Yba.func4, Yba.ntmps4
  go_wp2_with fail
  refine (vlen_zero p a b kc _ h0 h1 h).mono ?_
  rintro e w1 ⟨rfl, hb⟩
  obtain ⟨hc, hf⟩ := bcell hb
  have c0 : w1.cell? ⟨w.heap.size + 1, 0, none⟩ = some (.pointer none) := (hc _ _ (by simp)).trans (by simp)
  have c1 : w1.cell? ⟨w.heap.size + 1, 1, none⟩ = some (.slice none 0 0) := (hc _ _ (by simp)).trans (by simp)
  have f0 : w1.frozen? ⟨w.heap.size + 1, 0, none⟩ = false := (hf _ _ (by simp)).trans (by simp)
  have f1 : w1.frozen? ⟨w.heap.size + 1, 1, none⟩ = false := (hf _ _ (by simp)).trans (by simp)
  clear hc hf
  go_wp2
  exact bodyPost_ret (v := .agg #[.pointer none, .slice none 0 0]) (by simp [results, Yba.results4, go_sem, c0, c1]) rfl
    ⟨rfl, (((((Below.refl _ _).alloc (Nat.le_refl _) _).alloc (by simp) _).trans (hb.mono (by simp; omega))).setCell (by simp) _).setCell (by simp) _⟩

theorem entries_pos (tb g m bb cc : Nat) (a K : Int) (w : World) (hm : m ≤ 1024) (hc0 : 0 < cc) (hbc : bb + cc ≤ m) (hK0 : 0 ≤ K) (hK1 : K < 16) (hK : ¬ K = 12)
    (htb : tb < w.heap.size) (ht : w.cell? ⟨tb, 0, none⟩ = some (.slice (some ⟨g, 0, none⟩) m m)) :
    Calls Yba.prog 4 #[.agg #[.pointer (some ⟨tb, 0, none⟩), .int .i64 a, .int .i32 bb, .int .u32 (K * 268435456 + cc)]] w fun e w' =>
      e = .returned (.agg #[.pointer (some ⟨tb, 0, none⟩), .slice (some ⟨g, bb * 3, none⟩) cc (m - bb)]) ∧ Below w.heap.size w w' := by
  go_enter Yba.func4, Yba.ntmps4
  go_wp2_with fail
  have e1 : (K * 268435456 + (cc : Int)) % 268435456 = cc := by omega
  refine (vlen_pos _ _ _ _ _ (by omega) (by omega) (by omega)).mono ?_
  rw [e1]
  rintro e w1 ⟨rfl, hb⟩
  obtain ⟨hc, hf⟩ := bcell hb
  have c0 : w1.cell? ⟨w.heap.size + 1, 0, none⟩ = some (.pointer none) := (hc _ _ (by simp)).trans (by simp)
  have c1 : w1.cell? ⟨w.heap.size + 1, 1, none⟩ = some (.slice none 0 0) := (hc _ _ (by simp)).trans (by simp)
  have f0 : w1.frozen? ⟨w.heap.size + 1, 0, none⟩ = false := (hf _ _ (by simp)).trans (by simp)
  have f1 : w1.frozen? ⟨w.heap.size + 1, 1, none⟩ = false := (hf _ _ (by simp)).trans (by simp)
  have v0 : w1.cell? ⟨w.heap.size, 0, none⟩ = some (.pointer (some ⟨tb, 0, none⟩)) := (hc _ _ (by simp; omega)).trans (by simp)
  have v2 : w1.cell? ⟨w.heap.size, 2, none⟩ = some (.int .i32 bb) := (hc _ _ (by simp; omega)).trans (by simp)
  have t0 : w1.cell? ⟨tb, 0, none⟩ = some (.slice (some ⟨g, 0, none⟩) m m) := (hc _ _ (by simp; omega)).trans (((((Below.refl w.heap.size w).alloc (Nat.le_refl _) _).alloc (by simp) _).cell (p := ⟨tb, 0, none⟩) htb).trans ht)
  clear e1 hc hf ht
  go_wp2
  go_region
  go_wp2
  exact bodyPost_ret (v := .agg #[.pointer (some ⟨tb, 0, none⟩), .slice (some ⟨g, bb * 3, none⟩) cc (m - bb)]) (by simp [results, Yba.results4, go_sem, c0, c1]) rfl
    ⟨rfl, ((((((Below.refl _ _).alloc (Nat.le_refl _) _).alloc (by simp) _).trans (hb.mono (by simp; omega))).setCell (by simp) _).setCell (by simp) _).drew⟩

end Go.Proofs.Ybulkpng
