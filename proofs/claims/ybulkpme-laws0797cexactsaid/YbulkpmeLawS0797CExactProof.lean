/-
  'Rows.LawS0797CExactSaid' PROVED. The frame is the seat's shell; the walk goes by the contracts of YbulkpmeAppend.
-/
import Derived.Test.YbulkpmeAppend
import Derived.Laws.AppendOwnNone
import Derived.WalkKit
import Derived.ProofKit
import Derived.OpenShut
import Derived.ShutString
import Derived.ChangeOld
import Derived.Below
namespace Go.Proofs.Ybulkpme.lawS0797CExact
open Go.ChangeShapes Go.WideShapes Go.ChangeAt Go.RowKit
open Go.ChangeMaps (open_string shut_string)
set_option linter.unusedVariables false

theorem own : ownKnob Yba.prog.godebug = none := by kernel_rfl
theorem laidOut : laidOutB Yba.prog = true := by kernel_rfl

/-- WHAT THE WALK IS TOLD OF A SLICE OF INTEGERS THAT CAME IN: it is nil; or it leads to a row of 'cap' cells, the numbers 'zs' (the first 'len' are its elements, the rest its spare room), each fitting its kind. -/
def IsRow (k : IntKind) (w : World) (a : Option Addr) (len cap : Nat) (zs : List Int) : Prop :=
  (a = none ∧ len = 0 ∧ cap = 0 ∧ zs = []) ∨
  ∃ x, a = some x ∧ len ≤ cap ∧ cap ≤ maxLen ∧ zs.length = cap ∧ (∀ i, i < zs.length → w.cell? (x.add i) = some (.int k (zs.getD i 0))) ∧ ∀ n ∈ zs, (Lit.int k n).wf = true

/-! ### STEP 1: THE WALK -/
theorem u8_of {n : Int} (h : (Lit.int .u8 n).wf = true) : 0 ≤ n ∧ n ≤ 255 := bounds_u8 h

/-- What 'IsRow' says of the elements alone. -/
theorem rowIn_of {w : World} {a : Option Addr} {len cap : Nat} {zs : List Int} (h : IsRow .u8 w a len cap zs) :
    (zs.take len).length = len ∧ (∀ x ∈ zs.take len, 0 ≤ x ∧ x ≤ 255) ∧ RowIn w.heap.size w a (zs.take len) ∧ (a = none → len = 0 ∧ cap = 0) := by
  rcases h with ⟨rfl, rfl, rfl, rfl⟩ | ⟨x, rfl, hl, hm, hz, hc, hw⟩
  · exact ⟨rfl, by simp, .inl rfl, fun _ => ⟨rfl, rfl⟩⟩
  · have e : (zs.take len).length = len := by rw [List.length_take]; omega
    refine ⟨e, fun n hn => u8_of (hw n (List.mem_of_mem_take hn)), ?_, by simp⟩
    by_cases h0 : len = 0
    · exact .inl (by rw [h0]; rfl)
    · obtain ⟨b, off, spot⟩ := x
      have hsp : spot = none := by simpa [Addr.add] using World.cell?_spot (hc 0 (by omega))
      subst hsp
      refine .inr ⟨b, off, rfl, ?_, fun j hj => ?_⟩
      · have := World.block_lt_of_cell? w _ (hc 0 (by omega))
        simpa [Addr.add] using this
      · have h1 := hc j (by omega)
        rw [add_plain] at h1
        rw [h1]
        simp [show j < len by omega]

/-- A cell of a slice that came in, as an append reads it. -/
theorem row_cell {w wx : World} {a : Option Addr} {zs : List Int} (h : RowIn w.heap.size w a zs) {ad : Addr} (ha : a = some ad) {t : Nat} {u : Value} (hu : (cellsOfL zs)[t]? = some u) (hx : Below w.heap.size w wx) : wx.cell? (ad.add t) = some u := by
  have ht : t < zs.length := by
    have := (List.getElem?_eq_some_iff.1 hu).1
    simpa [cellsOfL] using this
  rcases h with rfl | ⟨b, off, rfl, hb, hc⟩
  · simp at ht
  · obtain rfl := Option.some.inj ha
    rw [add_plain, hx.cell (p := ⟨b, off + t, none⟩) hb, hc t ht, ← cellsOfL_at ht]
    exact hu

set_option maxHeartbeats 1000000 in
theorem walk_some (a0 : Option Addr) (cap0 : Nat) (p : List Int) (a1 : Option Addr) (cap1 : Nat) (it : List Int) (ad2 : Addr) (cap2 : Nat) (sf : List Int) (w : World)
    (hp : p.length ≤ 1024) (hi : it.length ≤ 1024) (hs : sf.length ≤ 1024) (hwi : ∀ x ∈ it, 0 ≤ x ∧ x ≤ 255)
    (r0 : RowIn w.heap.size w a0 p) (r1 : RowIn w.heap.size w a1 it) (r2 : RowIn w.heap.size w (some ad2) sf) (n0 : a0 = none → p.length = 0 ∧ cap0 = 0) :
    Calls Yba.prog 3 #[.slice a0 p.length cap0, .slice a1 it.length cap1, .slice (some ad2) sf.length cap2] w fun e w' => e = .returned (.bool true) ∧ Below w.heap.size w w' := by
  obtain ⟨i0, hi0, hz0, hz1, hz2⟩ := info_parts Yba.info5
  go_enter Yba.func3, Yba.ntmps3
  have hwn : ∀ ad, a0 = some ad → ∀ (t : Nat) (u : Value), (cellsOfL p)[t]? = some u → ∀ wx : World, Below w.heap.size w wx → wx.cell? (ad.add t) = some u := by
    intro ad had t u hu wx hx
    exact row_cell r0 had hu hx
  go_wp2_with (at_make; refine wpList_make_own _ rfl _ _ 22 rfl w.heap.size 5 i0 (.int .u8 0) 1 Yba.underlying22 hi0 hz0 hz1 _ _ _ (p.length + 8 * it.length + sf.length + 2) rfl rfl (by omega) ?m1 ?m2 ?m3 ?_)
  case m1 => rw [hz2]; omega
  case m2 => unfold maxLen; omega
  case m3 => exact Nat.le_refl _
  intro w1 hown1 hgrow1
  have hbel1 : Below w.heap.size w w1 := (Below.refl _ w).grown hgrow1 (Nat.le_refl _) (by simp)
  clear hgrow1
  go_wp2_with (at_builtin; refine wpList_append_fits_any _ rfl _ _ 22 rfl w.heap.size 5 i0 1 Yba.underlying22 hi0 hz1 _ _ _ _ rfl hown1 a0 p.length cap0 (cellsOfL p) rfl ?a1 ?a2 ?a3 ?a4 ?a5 ?_)
  case a1 => simp [cellsOfL]
  case a2 => exact n0
  case a3 => exact fun ad had t u hu => hwn ad had t u hu w1 hbel1
  case a4 => exact ints_oneCell _ _
  case a5 => omega
  intro w2 hown2 hgrow2
  have hbel2 : Below w.heap.size w w2 := hbel1.grown hgrow2 hbel1.size (by intro k hk; simp at hk; omega)
  have r1' := r1.below hbel2
  clear hwn hown1 hgrow2 hbel1 r0 r1 n0
  go_wp2_with fail
  refine (appendstr_val w.heap.size _ p.length p a1 cap1 it w2 hown2 hbel2.size (by omega) hi hwi r1').mono ?_
  rintro e w3 ⟨g, c, rfl, hown3, hbel3⟩
  have hbel3' : Below w.heap.size w w3 := hbel2.trans hbel3
  have hsl : (strL it).length ≤ 6146 := by have := bodyL_len it; rw [strL_len]; omega
  have hr2 : ∀ (t : Nat) (u : Value), (cellsOfL sf)[t]? = some u → w3.cell? (ad2.add t) = some u := fun t u hu => row_cell r2 rfl hu hbel3'
  clear hbel2 hbel3 hown2 r1' r2
  go_wp2_with (at_builtin; refine wpList_append_own _ rfl _ _ 22 rfl w.heap.size 5 i0 (.int .u8 0) 1 1 Yba.underlying22 hi0 hz0 hz1 hz2 rfl (by decide) _ _ _ rfl hown3 ad2 sf.length cap2 (cellsOfL sf) rfl ?b1 ?b3 ?b4 ?b5 ?b6 ?b7 ?_)
  case b1 => simp [cellsOfL]
  case b3 => exact hr2
  case b4 => exact ints_oneCell _ _
  case b5 => unfold maxLen; omega
  case b6 => omega
  case b7 => exact hbel3'.size
  intro v4 w4 hown4 hgrow4 _
  have hbel4 : Below w.heap.size w w4 := below_own hbel3' hown3 hgrow4 hbel3'.size
  rw [← cellsOfL_append] at hown4
  clear hgrow4 hown3 hr2 hbel3'
  go_wp2_with fail
  refine (stringEnd_str w.heap.size v4 _ p it sf w4 (by simp [Nat.add_assoc]) (by omega) hown4).mono ?_
  rintro e w5 ⟨rfl, rfl⟩
  go_wp2
  go_ret
  exact ⟨rfl, hbel4⟩

set_option maxHeartbeats 1000000 in
theorem walk_none (a0 : Option Addr) (cap0 : Nat) (p : List Int) (a1 : Option Addr) (cap1 : Nat) (it : List Int) (w : World)
    (hp : p.length ≤ 1024) (hi : it.length ≤ 1024) (hwi : ∀ x ∈ it, 0 ≤ x ∧ x ≤ 255)
    (r0 : RowIn w.heap.size w a0 p) (r1 : RowIn w.heap.size w a1 it) (n0 : a0 = none → p.length = 0 ∧ cap0 = 0) :
    Calls Yba.prog 3 #[.slice a0 p.length cap0, .slice a1 it.length cap1, .slice none 0 0] w fun e w' => e = .returned (.bool true) ∧ Below w.heap.size w w' := by
  obtain ⟨i0, hi0, hz0, hz1, hz2⟩ := info_parts Yba.info5
  go_enter Yba.func3, Yba.ntmps3
  have hwn : ∀ ad, a0 = some ad → ∀ (t : Nat) (u : Value), (cellsOfL p)[t]? = some u → ∀ wx : World, Below w.heap.size w wx → wx.cell? (ad.add t) = some u := by
    intro ad had t u hu wx hx
    exact row_cell r0 had hu hx
  go_wp2_with (at_make; refine wpList_make_own _ rfl _ _ 22 rfl w.heap.size 5 i0 (.int .u8 0) 1 Yba.underlying22 hi0 hz0 hz1 _ _ _ (p.length + 8 * it.length + 2) rfl rfl (by omega) ?m1 ?m2 ?m3 ?_)
  case m1 => rw [hz2]; omega
  case m2 => unfold maxLen; omega
  case m3 => exact Nat.le_refl _
  intro w1 hown1 hgrow1
  have hbel1 : Below w.heap.size w w1 := (Below.refl _ w).grown hgrow1 (Nat.le_refl _) (by simp)
  clear hgrow1
  go_wp2_with (at_builtin; refine wpList_append_fits_any _ rfl _ _ 22 rfl w.heap.size 5 i0 1 Yba.underlying22 hi0 hz1 _ _ _ _ rfl hown1 a0 p.length cap0 (cellsOfL p) rfl ?a1 ?a2 ?a3 ?a4 ?a5 ?_)
  case a1 => simp [cellsOfL]
  case a2 => exact n0
  case a3 => exact fun ad had t u hu => hwn ad had t u hu w1 hbel1
  case a4 => exact ints_oneCell _ _
  case a5 => omega
  intro w2 hown2 hgrow2
  have hbel2 : Below w.heap.size w w2 := hbel1.grown hgrow2 hbel1.size (by intro k hk; simp at hk; omega)
  have r1' := r1.below hbel2
  clear hwn hown1 hgrow2 hbel1 r0 r1 n0
  go_wp2_with fail
  refine (appendstr_val w.heap.size _ p.length p a1 cap1 it w2 hown2 hbel2.size (by omega) hi hwi r1').mono ?_
  rintro e w3 ⟨g, c, rfl, hown3, hbel3⟩
  have hbel3' : Below w.heap.size w w3 := hbel2.trans hbel3
  have hsl : (strL it).length ≤ 6146 := by have := bodyL_len it; rw [strL_len]; omega
  clear hbel2 hbel3 hown2 r1'
  go_wp2_with (at_builtin; refine wpList_append_own_none rfl _ _ 22 rfl w.heap.size 5 i0 1 Yba.underlying22 hi0 _ _ _ rfl hown3 rfl ?_)
  go_wp2_with fail
  refine (stringEnd_str w.heap.size _ (p.length + (strL it).length) p it [] w3 (by simp) (by omega) (by simpa using hown3)).mono ?_
  rintro e w5 ⟨rfl, rfl⟩
  go_wp2
  go_ret
  exact ⟨rfl, hbel3'⟩

theorem walk_long (a0 : Option Addr) (len0 cap0 : Nat) (a1 : Option Addr) (len1 cap1 : Nat) (a2 : Option Addr) (len2 cap2 : Nat) (w : World) (h : 1024 < len0 ∨ 1024 < len1 ∨ 1024 < len2) :
    Calls Yba.prog 3 #[.slice a0 len0 cap0, .slice a1 len1 cap1, .slice a2 len2 cap2] w fun e w' => e = .returned (.bool true) ∧ Below w.heap.size w w' := by
  by_cases h0 : 1024 < len0
  · go_enter Yba.func3, Yba.ntmps3
    go_wp2
    go_ret
    exact ⟨rfl, Below.refl _ _⟩
  · by_cases h1 : 1024 < len1
    · go_enter Yba.func3, Yba.ntmps3
      go_wp2
      go_ret
      exact ⟨rfl, Below.refl _ _⟩
    · have h2 : 1024 < len2 := by omega
      clear h
      go_enter Yba.func3, Yba.ntmps3
      go_wp2
      go_ret
      exact ⟨rfl, Below.refl _ _⟩

theorem walk (a0 : Option Addr) (len0 cap0 : Nat) (z0 : List Int) (a1 : Option Addr) (len1 cap1 : Nat) (z1 : List Int) (a2 : Option Addr) (len2 cap2 : Nat) (z2 : List Int) (w : World) (w0 : IsRow .u8 w a0 len0 cap0 z0) (w1 : IsRow .u8 w a1 len1 cap1 z1) (w2 : IsRow .u8 w a2 len2 cap2 z2) :
    Calls Yba.prog 3 #[.slice a0 len0 cap0, .slice a1 len1 cap1, .slice a2 len2 cap2] w fun e w' => e = .returned (.bool true) ∧ Below w.heap.size w w' := by
  by_cases hl : 1024 < len0 ∨ 1024 < len1 ∨ 1024 < len2
  · exact walk_long a0 len0 cap0 a1 len1 cap1 a2 len2 cap2 w hl
  · obtain ⟨e0, _, r0, n0⟩ := rowIn_of w0
    obtain ⟨e1, wf1, r1, _⟩ := rowIn_of w1
    obtain ⟨e2, _, r2, n2⟩ := rowIn_of w2
    cases a2 with
    | some ad2 =>
      have h := walk_some a0 cap0 (z0.take len0) a1 cap1 (z1.take len1) ad2 cap2 (z2.take len2) w (by omega) (by omega) (by omega) wf1 r0 r1 r2 (by rw [e0]; exact n0)
      rw [e0, e1, e2] at h
      exact h
    | none =>
      obtain ⟨rfl, rfl⟩ := n2 rfl
      have h := walk_none a0 cap0 (z0.take len0) a1 cap1 (z1.take len1) w (by omega) (by omega) wf1 r0 r1 (by rw [e0]; exact n0)
      rw [e0, e1] at h
      exact h

/-! ### THE ROW's STEP: WRITTEN OUT: LEAVE IT -/
set_option maxRecDepth 100000 in
theorem lifted (os : Os) (started : os.Started) (H : Type) (enc : TypeId × Value → H) :
    ReturnsInHanded {} Yba.checked os 3 .any (Rows.lawS0797CExactSpec.pre6 enc Yba.prog Yba.f3 Rows.lawS0797CExactRow.domain false) (Rows.lawS0797CExactSpec.post enc Yba.prog Yba.f3 false true false false) := by
  refine returnsInHanded_of_change (C := Yba.checked) own started (by kernel_rfl) Yba.func3
    (ChangeSpec.witness6 (enc := enc) (C := Yba.checked) false ⟨#[], #[.slice none 0 0, .slice none 0 0, .slice none 0 0], []⟩ 8 (by kernel_rfl) (by kernel_rfl) (by kernel_rfl) (by kernel_rfl)) ?_
  intro W base args ds gs before hval0 hW hcnd _
  have hval : ∀ (j : Nat) t v, Yba.f3.params[j]? = some t → args[j]? = some v → Value.okWide Yba.prog W .any base t v := hval0
  have hW' := hW
  obtain ⟨p, q, hA0, hV, rfl, hfz, hnd⟩ := hW
  have hA : DataW.TrodAll enc Yba.prog W 0 (fun _ => true) true Yba.f3.params.toList args.toList ds p := hA0
  rw [Yba.params3] at hA hval
  obtain ⟨v0, vs0, d0, ds0, p0, q0, hargs, rfl, rfl, h0, r0⟩ := trodAll_cons hA
  obtain ⟨v1, vs1, d1, ds1, p1, q1, rfl, rfl, rfl, h1, r1⟩ := trodAll_cons r0
  obtain ⟨v2, vs2, d2, ds2, p2, q2, rfl, rfl, rfl, h2, r2⟩ := trodAll_cons r1
  obtain ⟨rfl, rfl, rfl⟩ := trodAll_nil r2
  obtain rfl : args = #[v0, v1, v2] := by cases args; simp_all
  obtain ⟨rfl, rfl⟩ := trodVars_none hV
  obtain ⟨a0, len0, cap0, rfl⟩ := okWide_slice Yba.underlying22 (hval 0 22 v0 rfl rfl)
  have k0 := h0
  have lt0 : ∀ x ∈ p0, x.block < W.heap.size := by obtain ⟨m, hm⟩ := k0; exact DataW.trod_lt m _ _ _ hm
  obtain ⟨z0, w0⟩ : ∃ zs, IsRow .u8 W a0 len0 cap0 zs := by
    obtain ⟨fuel, hf⟩ := h0
    rcases open_ints Yba.underlying22 Yba.underlying5 (by kernel_rfl) hf with ⟨hcs, _⟩ | ⟨x, l, c, zs, hcs, _, hl, hm, hz, _, hcell, hwz⟩
    · simp [Value.cells] at hcs
      obtain ⟨rfl, rfl, rfl⟩ := hcs
      exact ⟨[], .inl ⟨rfl, rfl, rfl, rfl⟩⟩
    · simp [Value.cells] at hcs
      obtain ⟨rfl, rfl, rfl⟩ := hcs
      exact ⟨zs, .inr ⟨_, rfl, hl, hm, by simpa using hz, hcell, hwz⟩⟩
  obtain ⟨a1, len1, cap1, rfl⟩ := okWide_slice Yba.underlying22 (hval 1 22 v1 rfl rfl)
  have k1 := h1
  have lt1 : ∀ x ∈ p1, x.block < W.heap.size := by obtain ⟨m, hm⟩ := k1; exact DataW.trod_lt m _ _ _ hm
  obtain ⟨z1, w1⟩ : ∃ zs, IsRow .u8 W a1 len1 cap1 zs := by
    obtain ⟨fuel, hf⟩ := h1
    rcases open_ints Yba.underlying22 Yba.underlying5 (by kernel_rfl) hf with ⟨hcs, _⟩ | ⟨x, l, c, zs, hcs, _, hl, hm, hz, _, hcell, hwz⟩
    · simp [Value.cells] at hcs
      obtain ⟨rfl, rfl, rfl⟩ := hcs
      exact ⟨[], .inl ⟨rfl, rfl, rfl, rfl⟩⟩
    · simp [Value.cells] at hcs
      obtain ⟨rfl, rfl, rfl⟩ := hcs
      exact ⟨zs, .inr ⟨_, rfl, hl, hm, by simpa using hz, hcell, hwz⟩⟩
  obtain ⟨a2, len2, cap2, rfl⟩ := okWide_slice Yba.underlying22 (hval 2 22 v2 rfl rfl)
  have k2 := h2
  have lt2 : ∀ x ∈ p2, x.block < W.heap.size := by obtain ⟨m, hm⟩ := k2; exact DataW.trod_lt m _ _ _ hm
  obtain ⟨z2, w2⟩ : ∃ zs, IsRow .u8 W a2 len2 cap2 zs := by
    obtain ⟨fuel, hf⟩ := h2
    rcases open_ints Yba.underlying22 Yba.underlying5 (by kernel_rfl) hf with ⟨hcs, _⟩ | ⟨x, l, c, zs, hcs, _, hl, hm, hz, _, hcell, hwz⟩
    · simp [Value.cells] at hcs
      obtain ⟨rfl, rfl, rfl⟩ := hcs
      exact ⟨[], .inl ⟨rfl, rfl, rfl, rfl⟩⟩
    · simp [Value.cells] at hcs
      obtain ⟨rfl, rfl, rfl⟩ := hcs
      exact ⟨zs, .inr ⟨_, rfl, hl, hm, by simpa using hz, hcell, hwz⟩⟩
  clear hA0 hval0
  refine (walk a0 len0 cap0 z0 a1 len1 cap1 z1 a2 len2 cap2 z2 W w0 w1 w2).mono fun e W' ⟨he, bel⟩ => ?_
  subst he
  exact ⟨_, rfl, _, _, _, [], _, [], hW', trodAll_mk1 (shut_bool Yba.underlying4 _), (trodAll_cons_mk (Below.trod laidOut (by kernel_rfl) (of_decide_eq_true (by kernel_rfl)) k0 bel lt0) (trodAll_cons_mk (Below.trod laidOut (by kernel_rfl) (of_decide_eq_true (by kernel_rfl)) k1 bel lt1) (trodAll_cons_mk (Below.trod laidOut (by kernel_rfl) (of_decide_eq_true (by kernel_rfl)) k2 bel lt2) trodAll_mk0))), rfl, bel.frame _, fun h => by cases h⟩

theorem over : Rows.lawS0797CExactRow.holds Yba.pinned (OpenSpec.ofChange Rows.lawS0797CExactSpec) :=
  OpenClaim.holds_of_wide 3 Yba.f3 rfl rfl rfl rfl rfl rfl rfl ⟨rfl, rfl, rfl, rfl, rfl⟩ rfl rfl rfl rfl rfl (by kernel_rfl) Yba.func3 (by kernel_rfl)
    (of_decide_eq_true (by kernel_rfl)) (by unfold Func.isWrapper; first | (rw [if_pos (by decide +kernel)]; kernel_rfl) | (rw [if_neg (by decide +kernel)]; exact ⟨rfl, rfl⟩))
    (fun os started H enc _ => lifted os started H enc)

/-- ████ THE STATEMENT ████ -/
theorem proved : Rows.LawS0797CExactSaid := over
#print axioms proved
end Go.Proofs.Ybulkpme.lawS0797CExact
