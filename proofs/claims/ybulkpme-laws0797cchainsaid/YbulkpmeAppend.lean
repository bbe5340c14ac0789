/-
  THE WALK of 'zzs0797cappendstr': whatever row of bytes the caller owns (nil too), behind the call it owns that and the string.
-/
import Derived.Test.YbulkpmeToken
import Derived.Lib.AppendStr
namespace Go.Proofs.Ybulkpme
open Go.RowKit

theorem Yba.info5 : (Yba.prog.info? 5).map (fun i => (i.zero, i.size, i.bytes)) = some (some (.int .u8 0), 1, 1) := by kernel_rfl

/-- Bytes as cells. -/
def cellsOfL (l : List Int) : List Value := l.map (Value.int .u8)
theorem cellsOfL_append (a b : List Int) : cellsOfL (a ++ b) = cellsOfL a ++ cellsOfL b := by simp [cellsOfL]
theorem tok_cellsL (m : Int) : Lib.strCells (tokB m) = cellsOfL (tokL m) := tok_cells m

/-- A grown world is as it was below 'base', the row that was written being owned from 'base' on. -/
theorem below_own {base : Nat} {w0 w w' : World} {e : TypeId} {v : Value} {n : Nat} {xs : List Value} (hb : Below base w0 w) (hown : w.ownsRow base e 1 v n xs) (hg : w.grownBy w' v.ownBlock) (hs : base ≤ w.heap.size) : Below base w0 w' :=
  hb.grown hg hs fun k hk => (hown.lt k hk).1

/-- The one byte that an append lays in a block of its own. -/
theorem one_new (w : World) (u : Value) (e : TypeId) : ∀ (j : Nat) (x : Value), ([u] : List Value)[j]? = some x → (w.alloc (.cells #[u] e)).cell? ((⟨w.heap.size, 0, none⟩ : Addr).add j) = some x := by
  intro j x hj
  match j, hj with
  | 0, hj => simp at hj; subst hj; simp [Addr.add]

theorem step_tok {base n k : Nat} {xs zs : List Int} {v : Value} {w : World} (hk : k < zs.length)
    (h : w.ownsRow base 5 1 v (n + 1 + (bodyL (zs.take k)).length + (tokB (zs.getD k 0 % 10)).size) (cellsOfL (xs ++ 34 :: bodyL (zs.take k)) ++ Lib.strCells (tokB (zs.getD k 0 % 10)))) :
    w.ownsRow base 5 1 v (n + 1 + (bodyL (zs.take (k + 1))).length) (cellsOfL (xs ++ 34 :: bodyL (zs.take (k + 1)))) := by
  have e : bodyL (zs.take (k + 1)) = bodyL (zs.take k) ++ tokL (zs.getD k 0 % 10) := by
    rw [List.take_succ_eq_append_getElem hk, bodyL_append]
    simp [bodyL, hk]
  rw [tok_cellsL, tok_size, ← cellsOfL_append] at h
  rw [e, List.length_append, ← Nat.add_assoc]
  simpa using h

theorem step_end {base n : Nat} {xs zs : List Int} {v : Value} {w : World}
    (h : w.ownsRow base 5 1 v (n + 1 + (bodyL zs).length + 1) (cellsOfL (xs ++ 34 :: bodyL zs) ++ [.int .u8 34])) :
    w.ownsRow base 5 1 v (n + (strL zs).length) (cellsOfL (xs ++ strL zs)) := by
  have e : n + (strL zs).length = n + 1 + (bodyL zs).length + 1 := by rw [strL_len]; omega
  have e2 : cellsOfL (xs ++ strL zs) = cellsOfL (xs ++ 34 :: bodyL zs) ++ [.int .u8 34] := by simp [cellsOfL, strL]
  rw [e, e2]
  exact h

theorem wide_of {k : Nat} {zs : List Int} (hwz : ∀ x ∈ zs, 0 ≤ x ∧ x ≤ 255) (hk : k < zs.length) : 0 ≤ zs.getD k 0 ∧ zs.getD k 0 ≤ 255 := by
  have h := hwz (zs[k]) (List.getElem_mem hk)
  simpa [List.getD, hk] using h

set_option maxHeartbeats 1000000 in
theorem appendstr_some (base : Nat) (v : Value) (n : Nat) (xs : List Int) (b off cap : Nat) (zs : List Int) (w : World)
    (hown : w.ownsRow base 5 1 v n (cellsOfL xs)) (hb : base ≤ w.heap.size) (hn : n ≤ 1000000) (hzl : zs.length ≤ 1024) (hwz : ∀ x ∈ zs, 0 ≤ x ∧ x ≤ 255) (hbb : b < base)
    (hcell : ∀ j, j < zs.length → w.cell? ⟨b, off + j, none⟩ = some (.int .u8 (zs.getD j 0))) :
    Calls Yba.prog 5 #[v, .slice (some ⟨b, off, none⟩) zs.length cap] w fun e w' => ∃ v', e = .returned v' ∧ w'.ownsRow base 5 1 v' (n + (strL zs).length) (cellsOfL (xs ++ strL zs)) ∧ Below base w w' := by
  obtain ⟨i0, hi, hz0, hz1, hz2⟩ := info_parts Yba.info5
  go_enter Yba.func5, Yba.ntmps5
  go_wp2_with (at_builtin; refine wpList_append_own _ rfl _ _ 22 rfl base 5 i0 (.int .u8 0) 1 1 Yba.underlying22 hi hz0 hz1 hz2 rfl (by decide) _ _ _ rfl (hown.alloc _) ⟨w.heap.size, 0, none⟩ 1 1 [.int .u8 34] rfl rfl ?c1 ?c2 ?c3 ?c4 ?c5 ?_)
  case c1 => exact one_new _ _ _
  case c2 => intro u hu; simp at hu; subst hu; rfl
  case c3 => unfold maxLen; omega
  case c4 => omega
  case c5 => simp; omega
  intro v1 w1 hown1 hgrow1 _
  have hbel1 : Below base w w1 := below_own ((Below.refl base w).alloc hb _) (hown.alloc _) hgrow1 (by simp; omega)
  have hs1 : base ≤ w1.heap.size := Nat.le_trans hb hbel1.size
  have hst : w1.ownsRow base 5 1 v1 (n + 1 + (bodyL (zs.take 0)).length) (cellsOfL (xs ++ 34 :: bodyL (zs.take 0))) := by simpa [bodyL, cellsOfL] using hown1
  clear hown1 hgrow1 hown
  go_wp2
  go_loopw [0, 12] (fun v i wr => ∃ k : Nat, k ≤ zs.length ∧ i = .int .i64 k ∧ wr.ownsRow base 5 1 v (n + 1 + (bodyL (zs.take k)).length) (cellsOfL (xs ++ 34 :: bodyL (zs.take k))) ∧ Below base w wr)
    (fun _ i _ => zs.length - (intOf i).toNat)
  case atStart => exact ⟨0, Nat.zero_le _, rfl, hst, hbel1⟩
  case round =>
    obtain ⟨k, hk, rfl, hownk, hbelk⟩ := hrel
    have hsk : base ≤ wr.heap.size := Nat.le_trans hb hbelk.size
    have hlb : (bodyL (zs.take k)).length ≤ 6 * k := by
      have h1 := bodyL_len (zs.take k)
      have h2 := List.length_take_le k zs
      omega
    clear hst hbel1 hs1
    by_cases hlt : k < zs.length
    · have hcx : wr.cell? ⟨b, off + k, none⟩ = some (.int .u8 (zs.getD k 0)) := (hbelk.cell (p := ⟨b, off + k, none⟩) hbb).trans (hcell k hlt)
      have hw := wide_of hwz hlt
      obtain ⟨c, hc⟩ : ∃ c, c = zs.getD k 0 := ⟨_, rfl⟩
      rw [← hc] at hcx hw
      obtain ⟨hw0, hw1⟩ := hw
      have hts : (tokB (c % 10)).size ≤ 6 := by rw [tok_size]; exact (tokL_len _).2
      have HC : Hid (c = zs.getD k 0) := hc
      clear hc hcell
      go_wp2_with (first | (go_at_call 7; refine (token_any c _ hw0 hw1).mono ?_; rintro e w' ⟨rfl, rfl⟩) | (at_builtin; refine Lib.wpList_append_own_string _ rfl _ _ 22 9 rfl base 5 i0 Yba.underlying22 Yba.underlying9 hi hz0 hz1 hz2 _ _ _ rfl hownk (tokB (c % 10)) rfl ?d1 ?d2 ?d3 ?_))
      case d1 => unfold maxLen; omega
      case d2 => omega
      case d3 => exact hsk
      intro v2 w2 hown2 hgrow2 _
      have hbel2 : Below base w w2 := below_own hbelk hownk hgrow2 hsk
      rw [HC.out] at hown2
      have hown3 := step_tok hlt hown2
      clear hown2 hgrow2 hownk
      go_wp2
      go_roundw
      case rel => exact ⟨k + 1, by omega, by go_num, hown3, hbel2⟩
      case measure => simp [intOf]; omega
    · obtain rfl : k = zs.length := by omega
      rw [List.take_length] at hownk hlb
      clear hcell
      go_wp2_with (at_builtin; refine wpList_append_own _ rfl _ _ 22 rfl base 5 i0 (.int .u8 0) 1 1 Yba.underlying22 hi hz0 hz1 hz2 rfl (by decide) _ _ _ rfl (hownk.alloc _) ⟨wr.heap.size, 0, none⟩ 1 1 [.int .u8 34] rfl rfl ?e1 ?e2 ?e3 ?e4 ?e5 ?_)
      case e1 => exact one_new _ _ _
      case e2 => intro u hu; simp at hu; subst hu; rfl
      case e3 => unfold maxLen; omega
      case e4 => omega
      case e5 => simp; omega
      intro v2 w2 hown2 hgrow2 _
      have hbel2 : Below base w w2 := below_own (hbelk.alloc hsk _) (hownk.alloc _) hgrow2 (by simp; omega)
      have hown3 := step_end hown2
      clear hown2 hgrow2 hownk
      go_wp2
      go_ret
      exact ⟨_, rfl, hown3, hbel2⟩

theorem ownsRow_strL_nil {base n : Nat} {xs : List Int} {v : Value} {w : World} (h : w.ownsRow base 5 1 v (n + 1 + 1) (cellsOfL xs ++ [.int .u8 34, .int .u8 34])) :
    w.ownsRow base 5 1 v (n + (strL []).length) (cellsOfL (xs ++ strL [])) := by
  have e2 : cellsOfL (xs ++ strL []) = cellsOfL xs ++ [.int .u8 34, .int .u8 34] := by simp [cellsOfL, strL, bodyL]
  rw [e2]
  exact h

set_option maxHeartbeats 1000000 in
theorem appendstr_empty (base : Nat) (v : Value) (n : Nat) (xs : List Int) (a : Option Addr) (cap : Nat) (w : World)
    (hown : w.ownsRow base 5 1 v n (cellsOfL xs)) (hb : base ≤ w.heap.size) (hn : n ≤ 1000000) :
    Calls Yba.prog 5 #[v, .slice a 0 cap] w fun e w' => ∃ v', e = .returned v' ∧ w'.ownsRow base 5 1 v' (n + (strL []).length) (cellsOfL (xs ++ strL [])) ∧ Below base w w' := by
  obtain ⟨i0, hi, hz0, hz1, hz2⟩ := info_parts Yba.info5
  go_enter Yba.func5, Yba.ntmps5
  go_wp2_with (at_builtin; refine wpList_append_own _ rfl _ _ 22 rfl base 5 i0 (.int .u8 0) 1 1 Yba.underlying22 hi hz0 hz1 hz2 rfl (by decide) _ _ _ rfl (hown.alloc _) ⟨w.heap.size, 0, none⟩ 1 1 [.int .u8 34] rfl rfl ?c1 ?c2 ?c3 ?c4 ?c5 ?_)
  case c1 => exact one_new _ _ _
  case c2 => intro u hu; simp at hu; subst hu; rfl
  case c3 => unfold maxLen; omega
  case c4 => omega
  case c5 => simp; omega
  intro v1 w1 hown1 hgrow1 _
  have hbel1 : Below base w w1 := below_own ((Below.refl base w).alloc hb _) (hown.alloc _) hgrow1 (by simp; omega)
  have hs1 : base ≤ w1.heap.size := Nat.le_trans hb hbel1.size
  clear hgrow1 hown
  go_wp2
  refine wp_loop_rounds 1 ?_
  rw [rounds_succ]
  go_wp2_with (at_builtin; refine wpList_append_own _ rfl _ _ 22 rfl base 5 i0 (.int .u8 0) 1 1 Yba.underlying22 hi hz0 hz1 hz2 rfl (by decide) _ _ _ rfl (hown1.alloc _) ⟨w1.heap.size, 0, none⟩ 1 1 [.int .u8 34] rfl rfl ?e1 ?e2 ?e3 ?e4 ?e5 ?_)
  case e1 => exact one_new _ _ _
  case e2 => intro u hu; simp at hu; subst hu; rfl
  case e3 => unfold maxLen; omega
  case e4 => omega
  case e5 => simp; omega
  intro v2 w2 hown2 hgrow2 _
  have hbel2 : Below base w w2 := below_own (hbel1.alloc hs1 _) (hown1.alloc _) hgrow2 (by simp; omega)
  have hown3 := ownsRow_strL_nil hown2
  clear hown2 hgrow2 hown1
  go_wp2
  go_ret
  exact ⟨_, rfl, hown3, hbel2⟩

/-- What is told of a slice of bytes that came in: it is empty; or its elements 'zs' lie in a row below 'base'. -/
def RowIn (base : Nat) (w : World) (a : Option Addr) (zs : List Int) : Prop :=
  zs = [] ∨ ∃ b off, a = some ⟨b, off, none⟩ ∧ b < base ∧ ∀ j, j < zs.length → w.cell? ⟨b, off + j, none⟩ = some (.int .u8 (zs.getD j 0))

theorem RowIn.below {base : Nat} {w w' : World} {a : Option Addr} {zs : List Int} (h : RowIn base w a zs) (hb : Below base w w') : RowIn base w' a zs := by
  rcases h with h | ⟨b, off, ha, hbb, hc⟩
  · exact .inl h
  · exact .inr ⟨b, off, ha, hbb, fun j hj => (hb.cell (p := ⟨b, off + j, none⟩) hbb).trans (hc j hj)⟩

theorem RowIn.mono {base base' : Nat} {w : World} {a : Option Addr} {zs : List Int} (h : RowIn base w a zs) (hb : base ≤ base') : RowIn base' w a zs := by
  rcases h with h | ⟨b, off, ha, hbb, hc⟩
  · exact .inl h
  · exact .inr ⟨b, off, ha, by omega, hc⟩

/-- 'zzs0797cappendstr(data, items)'. -/
theorem appendstr_any (base : Nat) (v : Value) (n : Nat) (xs : List Int) (a : Option Addr) (cap : Nat) (zs : List Int) (w : World)
    (hown : w.ownsRow base 5 1 v n (cellsOfL xs)) (hb : base ≤ w.heap.size) (hn : n ≤ 1000000) (hzl : zs.length ≤ 1024) (hwz : ∀ x ∈ zs, 0 ≤ x ∧ x ≤ 255) (hrow : RowIn base w a zs) :
    Calls Yba.prog 5 #[v, .slice a zs.length cap] w fun e w' => ∃ v', e = .returned v' ∧ w'.ownsRow base 5 1 v' (n + (strL zs).length) (cellsOfL (xs ++ strL zs)) ∧ Below base w w' := by
  rcases hrow with rfl | ⟨b, off, rfl, hbb, hc⟩
  · exact appendstr_empty base v n xs a cap w hown hb hn
  · exact appendstr_some base v n xs b off cap zs w hown hb hn hzl hwz hbb hc

/-- A row that owns something is no nil slice. -/
theorem own_shape {w : World} {base : Nat} {e : TypeId} {v : Value} {n : Nat} {xs : List Value} (h : w.ownsRow base e 1 v n xs) (hn : 0 < n) : ∃ g c, v = .slice (some ⟨g, 0, none⟩) n c := by
  rcases h.2 with ⟨_, h0⟩ | ⟨g, c, _, hv, _⟩
  · omega
  · exact ⟨g, c, hv⟩

/-- 'zzs0797cappendstr(data, items)', the value that it hands back written out. -/
theorem appendstr_val (base : Nat) (v : Value) (n : Nat) (xs : List Int) (a : Option Addr) (cap : Nat) (zs : List Int) (w : World)
    (hown : w.ownsRow base 5 1 v n (cellsOfL xs)) (hb : base ≤ w.heap.size) (hn : n ≤ 1000000) (hzl : zs.length ≤ 1024) (hwz : ∀ x ∈ zs, 0 ≤ x ∧ x ≤ 255) (hrow : RowIn base w a zs) :
    Calls Yba.prog 5 #[v, .slice a zs.length cap] w fun e w' => ∃ g c, e = .returned (.slice (some ⟨g, 0, none⟩) (n + (strL zs).length) c) ∧
      w'.ownsRow base 5 1 (.slice (some ⟨g, 0, none⟩) (n + (strL zs).length) c) (n + (strL zs).length) (cellsOfL (xs ++ strL zs)) ∧ Below base w w' := by
  refine (appendstr_any base v n xs a cap zs w hown hb hn hzl hwz hrow).mono fun e w' h => ?_
  obtain ⟨v', rfl, ho, hbel⟩ := h
  obtain ⟨g, c, rfl⟩ := own_shape ho (by rw [strL_len]; omega)
  exact ⟨g, c, rfl, ho, hbel⟩

theorem cellsOfL_at {l : List Int} {j : Nat} (hj : j < l.length) : (cellsOfL l)[j]? = some (.int .u8 (l.getD j 0)) := by
  simp [cellsOfL, hj]

/-- 'stringEnd(data, len(pre))' where data is 'pre', a string and whatever follows, in a row that the caller owns. -/
theorem stringEnd_str (base : Nat) (v : Value) (N : Nat) (pre it sf : List Int) (w : World) (hN : N = (pre ++ strL it ++ sf).length) (hl : N ≤ 1000000)
    (hown : w.ownsRow base 5 1 v N (cellsOfL (pre ++ strL it ++ sf))) :
    Calls Yba.prog 6 #[v, .int .i64 pre.length] w fun e w' => e = .returned (.int .i64 ((pre.length + (strL it).length : Nat) : Int)) ∧ w' = w := by
  subst hN
  obtain ⟨g, c, rfl⟩ := own_shape hown (by simp [strL]; omega)
  refine (stringEnd_any g c pre.length ((bodyL it).length + 1) (pre ++ strL it ++ sf) w hl (fun j hj => ?_) (scan_str pre it sf)).mono fun e w' h => ?_
  · rw [hown.cellAt j (by omega)]
    exact cellsOfL_at hj
  · obtain ⟨rfl, rfl⟩ := h
    exact ⟨ret_int (by rw [strL_len]; omega), rfl⟩

end Go.Proofs.Ybulkpme
