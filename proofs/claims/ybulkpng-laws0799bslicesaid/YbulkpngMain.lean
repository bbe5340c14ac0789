/-
  THE WALK of 'LawS0799BSlice'.
-/
import Derived.Test.YbulkpngRowsOf
import Derived.Deep.QuietTactic
import Derived.BigQuiet
import Derived.WalkSpells
import Derived.WalkSmall
import Derived.Lib.Builder
import Derived.Laws.StructEq
namespace Go.Proofs.Ybulkpng
open Go.RowKit

theorem has31 : (Yba.prog.info? 31).isSome = true := by kernel_rfl
theorem has27 : (Yba.prog.info? 27).isSome = true := by kernel_rfl

theorem tree_same (a : Addr) (W : World) : (binOp .neq 28 (.pointer (some a)) (.pointer (some a))).run Yba.prog W = .ok (.bool false) W := by
  obtain ⟨j, hj⟩ := Option.isSome_iff_exists.1 has31
  exact Lib.run_neq_ptr_same W a Yba.underlying28 hj

theorem node_ptr_same (a : Addr) (W : World) : (binOp .neq 39 (.pointer (some a)) (.pointer (some a))).run Yba.prog W = .ok (.bool false) W := by
  obtain ⟨j, hj⟩ := Option.isSome_iff_exists.1 has27
  exact Lib.run_neq_ptr_same W a Yba.underlying39 hj

theorem node_same (a b c : Int) (W : World) : (binOp .neq 27 (.agg #[.int .i64 a, .int .i32 b, .int .u32 c]) (.agg #[.int .i64 a, .int .i32 b, .int .u32 c])).run Yba.prog W = .ok (.bool false) W := by
  simp [go_sem]

theorem pos_start {w wr w2 : World} {T V : Obj} {n m : Nat} {f : Nat → Value} (hbel : Below w.heap.size w wr) (hrow : wr.rowIs w.heap.size n m f) (hb : Below ((wr.alloc T).alloc V).heap.size ((wr.alloc T).alloc V) w2) (o1 o2 : Obj) :
    ((w2.alloc o1).alloc o2).rowIs w.heap.size n m f ∧ Below w.heap.size w ((w2.alloc o1).alloc o2) := by
  have hs := hbel.size
  have h1 : Below w.heap.size w ((wr.alloc T).alloc V) := (hbel.alloc hs T).alloc (by simp; omega) V
  have h2 : Below w.heap.size w w2 := h1.trans (hb.mono (by simp; omega))
  have hs2 := h2.size
  have hlt := hrow.lt
  refine ⟨World.rowIs.alloc (World.rowIs.alloc (((hrow.alloc T).alloc V).of_block (hb.block _ (by simp; omega))) o1) o2, (h2.alloc hs2 o1).alloc (by simp; omega) o2⟩

theorem zero_end {w wr w2 : World} {T V : Obj} (hbel : Below w.heap.size w wr) (hb : Below ((wr.alloc T).alloc V).heap.size ((wr.alloc T).alloc V) w2) (o1 o2 : Obj) : Below w.heap.size w ((w2.alloc o1).alloc o2) := by
  have hs := hbel.size
  have h1 : Below w.heap.size w ((wr.alloc T).alloc V) := (hbel.alloc hs T).alloc (by simp; omega) V
  have h2 : Below w.heap.size w w2 := h1.trans (hb.mono (by simp; omega))
  have hs2 := h2.size
  exact (h2.alloc hs2 o1).alloc (by simp; omega) o2

set_option maxHeartbeats 1600000 in
set_option maxRecDepth 100000 in
theorem main_some (b off cap : Nat) (zs : List Int) (x y k : Int) (bb cc : Nat) (w : World) (hl : zs.length ≤ 1024) (hbw : b < w.heap.size)
    (hcell : ∀ j, j < zs.length → w.cell? ⟨b, off + j, none⟩ = some (.int .i64 (zs.getD j 0)))
    (hx0 : 0 ≤ x) (hy0 : 0 ≤ y) (hk0 : 0 ≤ k) (hk1 : k ≤ 255)
    (hbb : x % ((zs.length : Int) + 1) = bb) (hcc : y % ((zs.length : Int) - bb + 1) = cc) (hb1 : bb + cc ≤ zs.length) :
    Calls Yba.prog 3 #[.slice (some ⟨b, off, none⟩) zs.length cap, .int .u64 x, .int .u64 y, .int .u8 k] w fun e w' => e = .returned (.bool true) ∧ Below w.heap.size w w' := by
  obtain ⟨i0, hi0, hz0, hz1, hz2⟩ := info_parts Yba.info27
  go_enter Yba.func3, Yba.ntmps3
  go_wp2_with (at_make; refine wpList_make_full _ rfl _ _ 24 rfl w.heap.size 27 i0 (.agg #[.int .i64 0, .int .i32 0, .int .u32 0]) 3 Yba.underlying24 hi0 hz0 hz1 _ _ _ _ zs.length rfl rfl rfl rfl ?m1 ?m2 ?m3 ?_)
  case m1 => rw [hz2]; omega
  case m2 => unfold maxLen; omega
  case m3 => exact Nat.le_refl _
  intro w1 hown1 hgrow1
  have hbel1 : Below w.heap.size w w1 := (Below.refl _ w).grown hgrow1 (Nat.le_refl _) (by simp)
  have hrow1 := row_made hown1 zs
  clear hown1 hgrow1
  go_wp2
  go_loopw [11] (fun i wr => ∃ j : Nat, j ≤ zs.length ∧ i = .int .i64 j ∧ wr.rowIs w.heap.size 27 (zs.length * 3) (nodeF zs j) ∧ Below w.heap.size w wr) (fun i _ => zs.length - (intOf i).toNat)
  case atStart => exact ⟨0, Nat.zero_le _, rfl, hrow1, hbel1⟩
  case round =>
    obtain ⟨j, hj, rfl, hrow, hbel⟩ := hrel
    clear hrow1 hbel1
    by_cases hlt : j < zs.length
    · have hcj : wr.cell? ⟨b, off + j, none⟩ = some (.int .i64 (zs.getD j 0)) := (hbel.cell (p := ⟨b, off + j, none⟩) hbw).trans (hcell j hlt)
      have n0 := hrow.cell (i := j * 3) (by omega)
      have n1 := hrow.cell (i := j * 3 + 1) (by omega)
      have n2 := hrow.cell (i := j * 3 + 2) (by omega)
      have f0 := hrow.frozen (j * 3)
      have f1 := hrow.frozen (j * 3 + 1)
      have f2 := hrow.frozen (j * 3 + 2)
      obtain ⟨c, hc⟩ : ∃ c, c = zs.getD j 0 := ⟨_, rfl⟩
      rw [← hc] at hcj
      have hst := row_store hrow
      rw [← hc] at hst
      clear hcell hbb hcc hc hrow
      go_wp2
      go_roundw
      case rel => exact ⟨j + 1, by omega, by go_num, hst, ((hbel.setCell (Nat.le_refl _) _).setCell (Nat.le_refl _) _).setCell (Nat.le_refl _) _⟩
      case measure => simp [intOf]; omega
    · obtain rfl : j = zs.length := by omega
      have hor := or_parts (k % 16) cc (by omega) (by omega) (by omega) (by omega)
      by_cases hzero : k % 16 = 12 ∨ cc = 0
      · clear hcell
        go_wp2_with fail
        refine (entries_zero _ _ _ _ _ (by omega) (by omega) (by omega)).mono ?_
        rintro e w2 ⟨rfl, hb⟩
        clear hor hbb hcc hrow
        have hnil : ∀ W, (binOp .eql 24 (.slice none 0 0) (.slice none 0 0)).run Yba.prog W = .ok (.bool true) W := fun W => run_eql_nil_slice W 24 27 none 0 0 0 0 Yba.underlying24
        have hend : ∀ o1 o2, Below w.heap.size w ((w2.alloc o1).alloc o2) := fun o1 o2 => zero_end hbel hb o1 o2
        clear hb
        by_cases h12 : k % 16 = 12
        · go_wp2
          go_ret
          exact ⟨rfl, hend _ _⟩
        · have h0 : cc = 0 := by omega
          have h0' : ((cc : Int) == 0) = true := by simp [h0]
          clear hzero h0
          go_wp2
          go_ret
          exact ⟨rfl, hend _ _⟩
      · have hk12 : ¬ k % 16 = 12 := by omega
        have hc0 : 0 < cc := by omega
        clear hzero
        go_wp2_with fail
        refine (entries_pos wr.heap.size w.heap.size zs.length bb cc 0 (k % 16) _ hl hc0 hb1 (by omega) (by omega) hk12 (by simp; omega) (by simp)).mono ?_
        rintro e w2 ⟨rfl, hb⟩
        have hcc0 : ((cc : Int) == 0) = false := by simp; omega
        have hptr : ∀ W, (binOp .neq 28 (.pointer (some ⟨wr.heap.size, 0, none⟩)) (.pointer (some ⟨wr.heap.size, 0, none⟩))).run Yba.prog W = .ok (.bool false) W := fun W => tree_same _ W
        have hst := fun o1 o2 => pos_start hbel hrow hb o1 o2
        clear hor hbb hcc hrow hbel hb
        go_wp2
        go_loopw [19] (fun i wx => ∃ j : Nat, j ≤ cc ∧ i = .int .i64 j ∧ wx.cell? ⟨w2.heap.size, 1, none⟩ = some (.slice (some ⟨w.heap.size, bb * 3, none⟩) cc (zs.length - bb)) ∧ wx.rowIs w.heap.size 27 (zs.length * 3) (nodeF zs zs.length) ∧ Below w.heap.size w wx)
          (fun i _ => cc - (intOf i).toNat)
        case atStart => exact ⟨0, Nat.zero_le _, rfl, by simp, (hst _ _).1, (hst _ _).2⟩
        case round =>
          obtain ⟨j, hj, rfl, he, hrow, hbel⟩ := hrel
          clear hptr hst hcc0
          by_cases hlt : j < cc
          · have hlti : (j : Int) < (cc : Int) := by omega
            have hltj : (bb : Int) + (j : Int) < (zs.length : Int) := by omega
            have hoff : (bb + j) * 3 = bb * 3 + j * 3 := by omega
            obtain ⟨c, hc⟩ : ∃ c, c = zs.getD (bb + j) 0 := ⟨_, rfl⟩
            obtain ⟨d, hd⟩ : ∃ d : Int, d = ((bb + j : Nat) : Int) := ⟨_, rfl⟩
            have n0 : wr.cell? ⟨w.heap.size, bb * 3 + j * 3, none⟩ = some (.int .i64 c) := by rw [hc, ← hoff, hrow.cell (by omega), nodeF_a zs (by omega)]
            have n1 : wr.cell? ⟨w.heap.size, bb * 3 + j * 3 + 1, none⟩ = some (.int .i32 d) := by rw [hd, ← hoff, hrow.cell (by omega), nodeF_b zs (by omega)]
            have n2 : wr.cell? ⟨w.heap.size, bb * 3 + j * 3 + 2, none⟩ = some (.int .u32 d) := by rw [hd, ← hoff, hrow.cell (by omega), nodeF_c zs (by omega)]
            have hcj : wr.cell? ⟨b, off + (bb + j), none⟩ = some (.int .i64 c) := by rw [hc]; exact (hbel.cell (p := ⟨b, off + (bb + j), none⟩) hbw).trans (hcell (bb + j) (by omega))
            have hnp : ∀ W, (binOp .neq 39 (.pointer (some ⟨w.heap.size, bb * 3 + j * 3, none⟩)) (.pointer (some ⟨w.heap.size, bb * 3 + j * 3, none⟩))).run Yba.prog W = .ok (.bool false) W := fun W => node_ptr_same _ W
            have hns : ∀ W, (binOp .neq 27 (.agg #[.int .i64 c, .int .i32 d, .int .u32 d]) (.agg #[.int .i64 c, .int .i32 d, .int .u32 d])).run Yba.prog W = .ok (.bool false) W := fun W => node_same _ _ _ W
            clear hc hd hcell
            go_wp2
            go_quiet (fail)
            go_wp2
            go_quiet (fail)
            go_wp2
            go_quiet (fail)
            go_wp2
            go_roundw
            case rel => exact ⟨j + 1, by omega, by go_num, by simpa using he, hrow, below_drewN hbel _⟩
            case measure => simp [intOf]; omega
          · obtain rfl : j = cc := by omega
            clear hcell
            go_wp2
            go_ret
            exact ⟨rfl, hbel⟩

end Go.Proofs.Ybulkpng
