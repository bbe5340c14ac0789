/-
  THE WALK of 'LawS0797CChain': three loops: the lengths are looked at; the strings are laid one behind the other and their ends kept; each end is found again.
-/
import Derived.Test.YbulkpmeAppend
namespace Go.Proofs.Ybulkpme
open Go.RowKit

theorem Yba.info3 : (Yba.prog.info? 3).map (fun i => (i.zero, i.size, i.bytes)) = some (some (.int .i64 0), 1, 8) := by kernel_rfl

/-- The first k strings, one behind the other. -/
def catL (S : Nat → List Int) : Nat → List Int
  | 0 => []
  | k + 1 => catL S k ++ strL (S k)

theorem catL_succ_len (S : Nat → List Int) (k : Nat) : (catL S (k + 1)).length = (catL S k).length + (strL (S k)).length := by simp [catL]

theorem catL_len (S : Nat → List Int) (k : Nat) (h : ∀ r, r < k → (S r).length ≤ 256) : (catL S k).length ≤ 1538 * k := by
  induction k with
  | zero => simp [catL]
  | succ k ih =>
    have h1 := ih fun r hr => h r (by omega)
    have h2 := bodyL_len (S k)
    have h3 := h k (by omega)
    rw [catL_succ_len, strL_len]
    omega

/-- What lies behind the first k strings, of n. -/
theorem catL_split (S : Nat → List Int) {k n : Nat} (h : k < n) : ∃ sf, catL S n = catL S k ++ strL (S k) ++ sf := by
  induction n with
  | zero => omega
  | succ n ih =>
    by_cases hk : k = n
    · subst hk
      exact ⟨[], by simp [catL]⟩
    · obtain ⟨sf, hsf⟩ := ih (by omega)
      exact ⟨sf ++ strL (S n), by rw [catL, hsf]; simp⟩

/-- The ends that were kept, as cells. -/
def endsC (S : Nat → List Int) (k : Nat) : List Value := (List.range k).map fun j => .int .i64 (((catL S (j + 1)).length : Nat) : Int)

theorem endsC_succ (S : Nat → List Int) (k : Nat) : endsC S k ++ [.int .i64 (((catL S (k + 1)).length : Nat) : Int)] = endsC S (k + 1) := by simp [endsC, List.range_succ]

theorem endsC_at (S : Nat → List Int) {k j : Nat} (h : j < k) : (endsC S k)[j]? = some (.int .i64 (((catL S (j + 1)).length : Nat) : Int)) := by simp [endsC, h]

/-- 'stringEnd(data, i)' at the k-th string. -/
theorem stringEnd_cat (base : Nat) (v : Value) (S : Nat → List Int) (k n : Nat) (w : World) (hk : k < n) (hl : (catL S n).length ≤ 1000000)
    (hown : w.ownsRow base 5 1 v (catL S n).length (cellsOfL (catL S n))) :
    Calls Yba.prog 6 #[v, .int .i64 (catL S k).length] w fun e w' => e = .returned (.int .i64 (((catL S (k + 1)).length : Nat) : Int)) ∧ w' = w := by
  obtain ⟨sf, hsf⟩ := catL_split S hk
  rw [catL_succ_len]
  rw [hsf] at hown hl
  exact stringEnd_str base v _ (catL S k) (S k) sf w rfl hl hown

/-- 'zzs0797cappendstr(data, s)' at the k-th string. -/
theorem appendstr_cat (base : Nat) (v : Value) (S : Nat → List Int) (k : Nat) (a : Option Addr) (cap : Nat) (w : World)
    (hown : w.ownsRow base 5 1 v (catL S k).length (cellsOfL (catL S k))) (hb : base ≤ w.heap.size) (hn : (catL S k).length ≤ 1000000) (hzl : (S k).length ≤ 1024) (hwz : ∀ x ∈ S k, 0 ≤ x ∧ x ≤ 255) (hrow : RowIn base w a (S k)) :
    Calls Yba.prog 5 #[v, .slice a (S k).length cap] w fun e w' => ∃ g c, e = .returned (.slice (some ⟨g, 0, none⟩) (catL S (k + 1)).length c) ∧
      w'.ownsRow base 5 1 (.slice (some ⟨g, 0, none⟩) (catL S (k + 1)).length c) (catL S (k + 1)).length (cellsOfL (catL S (k + 1))) ∧ Below base w w' := by
  rw [catL_succ_len]
  exact appendstr_val base v _ (catL S k) a cap (S k) w hown hb hn hzl hwz hrow

/-- What lies below 'base' stays owned. -/
theorem own_below {base b0 : Nat} {w w' : World} {e : TypeId} {g n c : Nat} {xs : List Value} (h : w.ownsRow b0 e 1 (.slice (some ⟨g, 0, none⟩) n c) n xs) (hg : g < base) (hb : Below base w w') : w'.ownsRow b0 e 1 (.slice (some ⟨g, 0, none⟩) n c) n xs := by
  refine ⟨h.1, ?_⟩
  rcases h.2 with hn | ⟨g', cap, cur, hv, hb0, hgg, rest⟩
  · exact .inl hn
  · have eg : g = g' := by simp at hv; exact hv.1
    subst eg
    exact .inr ⟨g, cap, cur, hv, hb0, by rw [hb.block g hg]; exact hgg, rest⟩

/-- More than 256 strings: true at once. -/
theorem chain_big (a : Option Addr) (len cap : Nat) (w : World) (h : 256 < len) :
    Calls Yba.prog 4 #[.slice a len cap] w fun e w' => e = .returned (.bool true) ∧ Below w.heap.size w w' := by
  go_enter Yba.func4, Yba.ntmps4
  go_wp2
  go_ret
  exact ⟨rfl, Below.refl _ _⟩

/-- A string of more than 256 items among them: true. -/
theorem chain_long (b off len cap : Nat) (A : Nat → Option Addr) (C : Nat → Nat) (S : Nat → List Int) (w : World) (hl : len ≤ 256)
    (hc : ∀ r, r < len → w.cell? ⟨b, off + r, none⟩ = some (.slice (A r) (S r).length (C r))) (hx : ¬ ∀ r, r < len → (S r).length ≤ 256) :
    Calls Yba.prog 4 #[.slice (some ⟨b, off, none⟩) len cap] w fun e w' => e = .returned (.bool true) ∧ Below w.heap.size w w' := by
  have HX : Hid (¬ ∀ r, r < len → (S r).length ≤ 256) := hx
  clear hx
  go_enter Yba.func4, Yba.ntmps4
  go_wp2
  go_loop [18] (fun i => ∃ k : Nat, k ≤ len ∧ i = .int .i64 k ∧ Hid (∀ r, r < k → (S r).length ≤ 256)) (fun i => len - (intOf i).toNat)
  case atStart => exact ⟨0, Nat.zero_le _, rfl, fun r hr => by omega⟩
  case round =>
    obtain ⟨k, hk, rfl, HK⟩ := hrel
    by_cases hlt : k < len
    · have hck := hc k hlt
      clear hc
      by_cases h256 : 256 < (S k).length
      · go_wp2
        go_ret
        exact ⟨rfl, Below.refl _ _⟩
      · have HK' : Hid (∀ r, r < k + 1 → (S r).length ≤ 256) := by
          intro r hr
          by_cases e : r = k
          · subst e; omega
          · exact HK.out r (by omega)
        go_wp2
        go_round
        case rel => exact ⟨k + 1, by omega, by go_num, HK'⟩
        case measure => simp [intOf]; omega
    · exact absurd (fun r hr => HK.out r (by omega)) HX.out

/-- What the second loop does to what the call owns: the k-th string is laid, its end is kept. -/
theorem chain_step {B k c : Nat} {S : Nat → List Int} {w w1 w2 w3 : World} {g c1 : Nat} (hb1 : Below B w w1) (hs1 : B + 1 ≤ w1.heap.size)
    (hd : w2.ownsRow (B + 1) 5 1 (.slice (some ⟨g, 0, none⟩) c c1) c (cellsOfL (catL S (k + 1)))) (hb2 : Below (B + 1) w1 w2)
    (o : Obj) (hg : (w2.alloc o).grownBy w3 (some B)) :
    w3.ownsRow (B + 1) 5 1 (.slice (some ⟨g, 0, none⟩) c c1) c (cellsOfL (catL S (k + 1))) ∧ Below B w w3 ∧ B + 1 ≤ w3.heap.size := by
  have hgB : B + 1 ≤ g := (hd.lt g rfl).1
  have h2 : Below B w w2 := hb1.trans (hb2.mono (by omega))
  have hs2 : B + 1 ≤ w2.heap.size := Nat.le_trans hs1 hb2.size
  refine ⟨(hd.alloc o).kept hg (.inr (by simp [Value.ownBlock]; omega)), (h2.alloc (by omega) o).grown hg (by simp; omega) (by intro j hj; simp at hj; omega), ?_⟩
  have := hg.size
  simp at this
  omega

set_option maxHeartbeats 1600000 in
theorem chain_all (b off len cap : Nat) (A : Nat → Option Addr) (C : Nat → Nat) (S : Nat → List Int) (w : World) (hl : len ≤ 256) (hbb : b < w.heap.size)
    (hc : ∀ r, r < len → w.cell? ⟨b, off + r, none⟩ = some (.slice (A r) (S r).length (C r))) (hx : ∀ r, r < len → (S r).length ≤ 256)
    (hrow : ∀ r, r < len → RowIn w.heap.size w (A r) (S r)) (hwf : ∀ r, r < len → ∀ x ∈ S r, 0 ≤ x ∧ x ≤ 255) :
    Calls Yba.prog 4 #[.slice (some ⟨b, off, none⟩) len cap] w fun e w' => e = .returned (.bool true) ∧ Below w.heap.size w w' := by
  obtain ⟨i0, hi0, hz0, hz1, hz2⟩ := info_parts Yba.info3
  have HX : Hid (∀ r, r < len → (S r).length ≤ 256) := hx
  have HR : Hid (∀ r, r < len → RowIn w.heap.size w (A r) (S r)) := hrow
  have HF : Hid (∀ r, r < len → ∀ x ∈ S r, 0 ≤ x ∧ x ≤ 255) := hwf
  have HC : Hid (∀ r, r < len → w.cell? ⟨b, off + r, none⟩ = some (.slice (A r) (S r).length (C r))) := hc
  clear hx hrow hwf hc
  go_enter Yba.func4, Yba.ntmps4
  go_wp2
  go_loop [18] (fun i => ∃ k : Nat, k ≤ len ∧ i = .int .i64 k) (fun i => len - (intOf i).toNat)
  case atStart => exact ⟨0, Nat.zero_le _, rfl⟩
  case round =>
    obtain ⟨k, hk, rfl⟩ := hrel
    by_cases hlt : k < len
    · have hck := HC.out k hlt
      have hkl := HX.out k hlt
      go_wp2
      go_round
      case rel => exact ⟨k + 1, by omega, by go_num⟩
      case measure => simp [intOf]; omega
    · obtain rfl : k = len := by omega
      go_wp2_with (at_make; refine wpList_make_own _ rfl _ _ 27 rfl w.heap.size 3 i0 (.int .i64 0) 1 Yba.underlying27 hi0 hz0 hz1 _ _ _ k rfl rfl (by omega) ?m1 ?m2 ?m3 ?_)
      case m1 => first | (rw [hz2]; omega) | omega
      case m2 => unfold maxLen; omega
      intro w1 hown1 hgrow1
      have hbel1 : Below w.heap.size w w1 := (Below.refl _ w).grown hgrow1 (Nat.le_refl _) (by simp)
      have hs1 : w.heap.size + 1 ≤ w1.heap.size := (hown1.lt w.heap.size rfl).2
      clear hgrow1
      go_wp2
      go_loopw [5, 6, 31] (fun v es i wr => ∃ (j : Nat) (ao : Option Addr) (cp : Nat), j ≤ k ∧ i = .int .i64 j ∧ v = .slice ao (catL S j).length cp ∧ es = .slice (some ⟨w.heap.size, 0, none⟩) j k ∧
          wr.ownsRow (w.heap.size + 1) 5 1 (.slice ao (catL S j).length cp) (catL S j).length (cellsOfL (catL S j)) ∧
          wr.ownsRow w.heap.size 3 1 (.slice (some ⟨w.heap.size, 0, none⟩) j k) j (endsC S j) ∧ Below w.heap.size w wr ∧ w.heap.size + 1 ≤ wr.heap.size)
        (fun _ _ i _ => k - (intOf i).toNat)
      case atStart => exact ⟨0, none, 0, Nat.zero_le _, rfl, rfl, rfl, World.ownsRow_nil _ _ _ _, hown1, hbel1, hs1⟩
      case round =>
        obtain ⟨j, ao, cp, hj, rfl, rfl, rfl, hd, he, hbel, hs⟩ := hrel
        clear hown1 hbel1 hs1
        by_cases hjl : j < k
        · have hcj : wr.cell? ⟨b, off + j, none⟩ = some (.slice (A j) (S j).length (C j)) := (hbel.cell (p := ⟨b, off + j, none⟩) hbb).trans (HC.out j hjl)
          have hjx := HX.out j hjl
          have hlc : (catL S j).length ≤ 1538 * j := catL_len S j fun r hr => HX.out r (by omega)
          have hlc1 : (catL S (j + 1)).length ≤ 1538 * (j + 1) := catL_len S (j + 1) fun r hr => HX.out r (by omega)
          have hrj := ((HR.out j hjl).below hbel).mono (Nat.le_succ _)
          have hfj := HF.out j hjl
          go_wp2_with fail
          refine (appendstr_cat (w.heap.size + 1) _ S j (A j) (C j) wr hd hs (by omega) (by omega) hfj hrj).mono ?_
          rintro e w2 ⟨g, c2, rfl, hd2, hb2⟩
          have he2 := own_below he (Nat.lt_succ_self _) hb2
          clear hrj hfj hcj he hd
          go_wp2_with (at_builtin; refine wpList_append_fits _ rfl _ _ 27 rfl w.heap.size 3 i0 1 Yba.underlying27 hi0 hz1 w.heap.size j k (endsC S j) rfl (he2.alloc _) ⟨w2.heap.size, 0, none⟩ 1 1 [.int .i64 (((catL S (j + 1)).length : Nat) : Int)] rfl rfl ?f1 ?f2 ?f3 ?_)
          case f1 => exact one_new _ _ _
          case f2 => intro u hu; simp at hu; subst hu; rfl
          case f3 => omega
          intro w3 he3 hg3
          have hst := chain_step hbel hs hd2 hb2 _ hg3
          rw [endsC_succ] at he3
          clear he2 hg3 hd2 hb2 hbel hs
          go_wp2
          go_roundw
          case rel => exact ⟨j + 1, some ⟨g, 0, none⟩, c2, by omega, by go_num, rfl, rfl, hst.1, he3, hst.2.1, hst.2.2⟩
          case measure => simp [intOf]; omega
        · obtain rfl : j = k := by omega
          have hlc : (catL S j).length ≤ 1538 * j := catL_len S j fun r hr => HX.out r (by omega)
          go_wp2
          go_loop [9, 46] (fun i c => ∃ m : Nat, m ≤ j ∧ c = .int .i64 m ∧ i = .int .i64 (catL S m).length) (fun _ c => j - (intOf c).toNat)
          case atStart => exact ⟨0, Nat.zero_le _, rfl, rfl⟩
          case round =>
            obtain ⟨m, hm, rfl, rfl⟩ := hrel
            by_cases hml : m < j
            · have hce : wr.cell? ⟨w.heap.size, m, none⟩ = some (.int .i64 (((catL S (m + 1)).length : Nat) : Int)) := by rw [he.cellAt m (by omega)]; exact endsC_at S hml
              go_wp2_with (go_at_call 6; refine (stringEnd_cat (w.heap.size + 1) _ S m j wr hml (by omega) hd).mono ?_; rintro e w' ⟨rfl, rfl⟩)
              go_round
              case rel => exact ⟨m + 1, by omega, by go_num, rfl⟩
              case measure => simp [intOf]; omega
            · obtain rfl : m = j := by omega
              go_wp2
              go_ret
              exact ⟨rfl, hbel⟩

/-- No string at all, whatever the slice's address. -/
theorem chain_empty (a : Option Addr) (cap : Nat) (w : World) :
    Calls Yba.prog 4 #[.slice a 0 cap] w fun e w' => e = .returned (.bool true) ∧ Below w.heap.size w w' := by
  have hmk : ∀ w, (Instr.makeSlice 27 (.int .i64 0) (.int .i64 0)).run Yba.prog w = .ok (.slice (some ⟨w.heap.size, 0, none⟩) 0 0) (w.alloc (.cells #[] 3)) := fun _ => by kernel_rfl
  go_enter Yba.func4, Yba.ntmps4
  go_wp2
  refine wp_loop_rounds 1 ?_
  rw [rounds_succ]
  go_wp2
  refine wp_loop_rounds 1 ?_
  rw [rounds_succ]
  go_wp2
  refine wp_loop_rounds 1 ?_
  rw [rounds_succ]
  go_wp2
  go_ret
  exact ⟨rfl, (Below.refl _ _).alloc (Nat.le_refl _) _⟩

end Go.Proofs.Ybulkpme
