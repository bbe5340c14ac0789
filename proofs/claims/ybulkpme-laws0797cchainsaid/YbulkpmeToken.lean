/-
  THE WALKS of the leaves: 'zzs0797ctoken' and 'stringEnd'.
-/
import Derived.Test.YbulkpmeRows
import Derived.Test.YbulkpmePlain
import Derived.WalkKit
import Derived.ProofKit
namespace Go.Proofs.Ybulkpme
open Go.RowKit

theorem ret_int {k : IntKind} {a b : Int} (h : a = b) : Ending.returned (.int k a) = .returned (.int k b) := by rw [h]

/-- 'zzs0797ctoken(k)'. -/
theorem token_any (k : Int) (w : World) (h0 : 0 ≤ k) (h1 : k ≤ 255) :
    Calls Yba.prog 7 #[.int .u8 k] w fun e w' => e = .returned (.string (tokB (k % 10))) ∧ w' = w := by
  have hr : k % 10 = 0 ∨ k % 10 = 1 ∨ k % 10 = 2 ∨ k % 10 = 3 ∨ k % 10 = 4 ∨ k % 10 = 5 ∨ k % 10 = 6 ∨ k % 10 = 7 ∨ k % 10 = 8 ∨ k % 10 = 9 := by omega
  rcases hr with h | h | h | h | h | h | h | h | h | h
  all_goals
    rw [h]
    go_enter Yba.func7, Yba.ntmps7
    go_wp2
    go_ret
    exact ⟨rfl, rfl⟩

/-- 'stringEnd(data, i)', data the cells 'zs' from the head of block g: where the scan behind i comes to a quote, it hands back the place just past it. It only reads. -/
theorem stringEnd_any (g cap i n : Nat) (zs : List Int) (w : World) (hl : zs.length ≤ 1000000)
    (hcell : ∀ j, j < zs.length → w.cell? ⟨g, j, none⟩ = some (.int .u8 (zs.getD j 0))) (hscan : scan (zs.drop (i + 1)) = some n) :
    Calls Yba.prog 6 #[.slice (some ⟨g, 0, none⟩) zs.length cap, .int .i64 i] w fun e w' => e = .returned (.int .i64 ((i + 1 + n : Nat) : Int)) ∧ w' = w := by
  have hi := scan_some_lt hscan
  have HS : Hid (scan (zs.drop (i + 1)) = some n) := hscan
  clear hscan
  go_enter Yba.func6, Yba.ntmps6
  go_wp2
  go_loop [1] (fun t => ∃ j m : Nat, j < zs.length ∧ t = .int .i64 j ∧ Hid (scan (zs.drop j) = some m ∧ j + m = i + 1 + n)) (fun t => zs.length - (intOf t).toNat)
  case atStart => exact ⟨i + 1, n, hi, by go_num, HS.out, rfl⟩
  case round =>
    obtain ⟨j, m, hj, rfl, HR⟩ := hrel
    have hcj := hcell j hj
    obtain ⟨c, hc⟩ : ∃ c, c = zs.getD j 0 := ⟨_, rfl⟩
    rw [← hc] at hcj
    have HC : Hid (c = zs.getD j 0) := hc
    clear hc hcell
    by_cases h34 : c = 34
    · subst h34
      go_wp2
      go_ret
      have hm := scan_at_quote HR.out.1 HC.out.symm
      have he := HR.out.2
      subst hm
      exact ⟨ret_int (by omega), rfl⟩
    · by_cases h92 : c = 92
      · subst h92
        obtain ⟨m', hs', hm', hlt⟩ := scan_at_esc HR.out.1 HC.out.symm
        have HR' : Hid (scan (zs.drop (j + 2)) = some m' ∧ j + 2 + m' = i + 1 + n) := ⟨hs', by have := HR.out.2; omega⟩
        clear hs' hm' HR HC
        go_wp2
        go_round
        case rel => exact ⟨j + 2, m', hlt, by go_num, HR'⟩
        case measure => simp [intOf]; omega
      · obtain ⟨m', hs', hm', hlt⟩ := scan_at_plain HR.out.1 (by rw [← HC.out]; exact h34) (by rw [← HC.out]; exact h92)
        have HR' : Hid (scan (zs.drop (j + 1)) = some m' ∧ j + 1 + m' = i + 1 + n) := ⟨hs', by have := HR.out.2; omega⟩
        clear hs' hm' HR HC
        go_wp2
        go_round
        case rel => exact ⟨j + 1, m', hlt, by go_num, HR'⟩
        case measure => simp [intOf]; omega

end Go.Proofs.Ybulkpme
