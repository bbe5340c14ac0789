/-
  'Rows.LawS0799BSliceSaid': the two walks besides: more than 1024 elements; none.
-/
import Derived.Test.YbulkpngMain
namespace Go.Proofs.Ybulkpng
open Go.RowKit

set_option maxRecDepth 100000 in
theorem main_long (a : Option Addr) (len cap : Nat) (x y k : Int) (w : World) (h : 1024 < len) :
    Calls Yba.prog 3 #[.slice a len cap, .int .u64 x, .int .u64 y, .int .u8 k] w fun e w' => e = .returned (.bool true) ∧ Below w.heap.size w w' := by
  go_enter Yba.func3, Yba.ntmps3
  go_wp2
  go_ret
  exact ⟨rfl, Below.refl _ _⟩

theorem empty_end {w w2 : World} {N T V : Obj} (hb : Below (((w.alloc N).alloc T).alloc V).heap.size (((w.alloc N).alloc T).alloc V) w2) (o1 o2 : Obj) : Below w.heap.size w ((w2.alloc o1).alloc o2) :=
  zero_end (((Below.refl _ w).alloc (Nat.le_refl _) N)) hb o1 o2

set_option maxHeartbeats 1000000 in
set_option maxRecDepth 100000 in
theorem main_empty (a : Option Addr) (cap : Nat) (x y k : Int) (w : World) (hk0 : 0 ≤ k) (hk1 : k ≤ 255) :
    Calls Yba.prog 3 #[.slice a 0 cap, .int .u64 x, .int .u64 y, .int .u8 k] w fun e w' => e = .returned (.bool true) ∧ Below w.heap.size w w' := by
  have hmk : ∀ w, (Instr.makeSlice 24 (.int .i64 0) (.int .i64 0)).run Yba.prog w = .ok (.slice (some ⟨w.heap.size, 0, none⟩) 0 0) (w.alloc (.cells #[] 27)) := fun _ => by kernel_rfl
  have hor := or_parts (k % 16) 0 (by omega) (by omega) (by omega) (by omega)
  rw [Int.add_zero] at hor
  go_enter Yba.func3, Yba.ntmps3
  go_wp2
  refine wp_loop_rounds 1 ?_
  rw [rounds_succ]
  go_wp2_with fail
  refine (entries_zero _ _ _ _ _ (by omega) (by omega) (by omega)).mono ?_
  rintro e w2 ⟨rfl, hb⟩
  have hnil : ∀ W, (binOp .eql 24 (.slice none 0 0) (.slice none 0 0)).run Yba.prog W = .ok (.bool true) W := fun W => run_eql_nil_slice W 24 27 none 0 0 0 0 Yba.underlying24
  have hend : ∀ o1 o2, Below w.heap.size w ((w2.alloc o1).alloc o2) := fun o1 o2 => empty_end hb o1 o2
  clear hb hor hmk
  by_cases h12 : k % 16 = 12
  · go_wp2
    go_ret
    exact ⟨rfl, hend _ _⟩
  · go_wp2
    go_ret
    exact ⟨rfl, hend _ _⟩

end Go.Proofs.Ybulkpng
