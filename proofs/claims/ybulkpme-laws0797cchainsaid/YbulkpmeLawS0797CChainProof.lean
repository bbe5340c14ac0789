/-
  'Rows.LawS0797CChainSaid' PROVED. The frame is turned from the shell of the seat's other law (one argument, a slice of slices of bytes: opened by 'open_int_rows'); the walk: YbulkpmeChain.
-/
import Derived.Test.YbulkpmeChain
import Derived.WalkKit
import Derived.ProofKit
import Derived.OpenShut
import Derived.ShutString
import Derived.ChangeOld
import Derived.Below
import Derived.Deep.Matrix
namespace Go.Proofs.Ybulkpme.lawS0797CChain
open Go.ChangeShapes Go.WideShapes Go.ChangeAt Go.RowKit

theorem own : ownKnob Yba.prog.godebug = none := by kernel_rfl
theorem laidOut : laidOutB Yba.prog = true := by kernel_rfl
theorem cells22 : Yba.prog.cellsOf 22 = 1 := by kernel_rfl
theorem cells5 : Yba.prog.cellsOf 5 = 1 := by kernel_rfl

/-- What the walk is told of the slice of slices that came in: it is empty; or its rows lie in memory, row r the bytes 'S r'. -/
def IsRows (w : World) (a : Option Addr) (len : Nat) : Prop :=
  len = 0 ∨ ∃ (b off : Nat) (A : Nat → Option Addr) (C : Nat → Nat) (S : Nat → List Int), a = some ⟨b, off, none⟩ ∧ b < w.heap.size ∧
    (∀ r, r < len → w.cell? ⟨b, off + r, none⟩ = some (.slice (A r) (S r).length (C r))) ∧ (∀ r, r < len → RowIn w.heap.size w (A r) (S r)) ∧ ∀ r, r < len → ∀ x ∈ S r, 0 ≤ x ∧ x ≤ 255

/-- One row's elements. -/
theorem rowIn_elems {w : World} {a : Option Addr} {L C : Nat} {zs : List Int} (hl : L ≤ C) (hz : zs.length = C) (hn : a = none → C = 0)
    (hc : ∀ a', a = some a' → ∀ c, c < C → w.cell? (a'.add c) = some (.int .u8 (zs.getD c 0))) : RowIn w.heap.size w a (zs.take L) := by
  by_cases h0 : L = 0
  · exact .inl (by rw [h0]; rfl)
  · cases a with
    | none => have := hn rfl; omega
    | some x =>
      have hcx := hc x rfl
      obtain ⟨b, off, spot⟩ := x
      have hsp : spot = none := by simpa [Addr.add] using World.cell?_spot (hcx 0 (by omega))
      subst hsp
      refine .inr ⟨b, off, rfl, ?_, fun j hj => ?_⟩
      · have := World.block_lt_of_cell? w _ (hcx 0 (by omega))
        simpa [Addr.add] using this
      · have hjl : j < L := by rw [List.length_take] at hj; omega
        have h1 := hcx j (by omega)
        rw [add_plain] at h1
        rw [h1]
        simp [hjl]

theorem walk (a : Option Addr) (len cap : Nat) (w : World) (h : IsRows w a len) :
    Calls Yba.prog 4 #[.slice a len cap] w fun e w' => e = .returned (.bool true) ∧ Below w.heap.size w w' := by
  by_cases hb : 256 < len
  · exact chain_big a len cap w hb
  · rcases h with rfl | ⟨b, off, A, C, S, rfl, hbb, hc, hr, hf⟩
    · exact chain_empty a cap w
    · by_cases hx : ∀ r, r < len → (S r).length ≤ 256
      · exact chain_all b off len cap A C S w (by omega) hbb hc hx hr hf
      · exact chain_long b off len cap A C S w (by omega) hc hx

set_option maxRecDepth 100000 in
theorem lifted (os : Os) (started : os.Started) (H : Type) (enc : TypeId × Value → H) :
    ReturnsInHanded {} Yba.checked os 4 .any (Rows.lawS0797CChainSpec.pre6 enc Yba.prog Yba.f4 Rows.lawS0797CChainRow.domain false) (Rows.lawS0797CChainSpec.post enc Yba.prog Yba.f4 false true false false) := by
  refine returnsInHanded_of_change (C := Yba.checked) own started (by kernel_rfl) Yba.func4
    (ChangeSpec.witness6 (enc := enc) (C := Yba.checked) false ⟨#[], #[.slice none 0 0], []⟩ 8 (by kernel_rfl) (by kernel_rfl) (by kernel_rfl) (by kernel_rfl)) ?_
  intro W base args ds gs before hval0 hW hcnd _
  have hval : ∀ (j : Nat) t v, Yba.f4.params[j]? = some t → args[j]? = some v → Value.okWide Yba.prog W .any base t v := hval0
  have hW' := hW
  obtain ⟨p, q, hA0, hV, rfl, hfz, hnd⟩ := hW
  have hA : DataW.TrodAll enc Yba.prog W 0 (fun _ => true) true Yba.f4.params.toList args.toList ds p := hA0
  rw [Yba.params4] at hA hval
  obtain ⟨v0, vs0, d0, ds0, p0, q0, hargs, rfl, rfl, h0, r0⟩ := trodAll_cons hA
  obtain ⟨rfl, rfl, rfl⟩ := trodAll_nil r0
  obtain rfl : args = #[v0] := by cases args; simp_all
  obtain ⟨rfl, rfl⟩ := trodVars_none hV
  obtain ⟨a0, len0, cap0, rfl⟩ := okWide_slice Yba.underlying26 (hval 0 26 v0 rfl rfl)
  have k0 := h0
  have lt0 : ∀ x ∈ p0, x.block < W.heap.size := by obtain ⟨m, hm⟩ := k0; exact DataW.trod_lt m _ _ _ hm
  have w0 : IsRows W a0 len0 := by
    obtain ⟨fuel, hf⟩ := h0
    rcases Deep.open_int_rows Yba.underlying26 Yba.underlying22 Yba.underlying5 cells22 cells5 hf with ⟨hcs, _⟩ | ⟨x, l, c, A, L, C, Z, hcs, _, hl, hm, _, hx⟩
    · simp [Value.cells] at hcs
      exact .inl hcs.2.1
    · simp [Value.cells] at hcs
      obtain ⟨rfl, rfl, rfl⟩ := hcs
      by_cases hz : len0 = 0
      · exact .inl hz
      · obtain ⟨b, off, spot⟩ := x
        have hsp : spot = none := by simpa [Addr.add] using World.cell?_spot (hx 0 (by omega)).1
        subst hsp
        refine .inr ⟨b, off, A, C, fun r => (Z r).take (L r), rfl, ?_, fun r hr => ?_, fun r hr => ?_, fun r hr n hn => ?_⟩
        · have := World.block_lt_of_cell? W _ (hx 0 (by omega)).1
          simpa [Addr.add] using this
        · obtain ⟨h1, h2, _, h4, _⟩ := hx r (by omega)
          rw [add_plain] at h1
          rw [h1]
          have e : ((Z r).take (L r)).length = L r := by rw [List.length_take]; omega
          rw [e]
        · obtain ⟨_, h2, _, h4, _, h6, h7⟩ := hx r (by omega)
          exact rowIn_elems h2 h4 h6 fun a' ha => (h7 a' ha).2
        · obtain ⟨_, _, _, _, h5, _⟩ := hx r (by omega)
          exact bounds_u8 (h5 n (List.mem_of_mem_take hn))
  clear hA0 hval0
  refine (walk a0 len0 cap0 W w0).mono fun e W' ⟨he, bel⟩ => ?_
  subst he
  exact ⟨_, rfl, _, _, _, [], _, [], hW', trodAll_mk1 (shut_bool Yba.underlying4 _), (trodAll_cons_mk (Below.trod laidOut (by kernel_rfl) (of_decide_eq_true (by kernel_rfl)) k0 bel lt0) trodAll_mk0), rfl, bel.frame _, fun h => by cases h⟩

theorem over : Rows.lawS0797CChainRow.holds Yba.pinned (OpenSpec.ofChange Rows.lawS0797CChainSpec) :=
  OpenClaim.holds_of_wide 4 Yba.f4 rfl rfl rfl rfl rfl rfl rfl ⟨rfl, rfl, rfl, rfl, rfl⟩ rfl rfl rfl rfl rfl (by kernel_rfl) Yba.func4 (by kernel_rfl)
    (of_decide_eq_true (by kernel_rfl)) (by unfold Func.isWrapper; first | (rw [if_pos (by decide +kernel)]; kernel_rfl) | (rw [if_neg (by decide +kernel)]; exact ⟨rfl, rfl⟩))
    (fun os started H enc _ => lifted os started H enc)

/-- THE STATEMENT. -/
theorem proved : Rows.LawS0797CChainSaid := over
#print axioms proved
end Go.Proofs.Ybulkpme.lawS0797CChain
