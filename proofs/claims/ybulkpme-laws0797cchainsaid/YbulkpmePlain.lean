/-
  PLAIN: the tokens, the string that they make, and the scan to the closing quote; no Go in sight. Over whole numbers (bytes as integers).
-/
import Derived.Lib.AppendStr
namespace Go.Proofs.Ybulkpme

/-- The token of a rest modulo ten, as the Go text's string. -/
def tokB (m : Int) : ByteArray :=
  if m = 0 then ⟨#[97]⟩ else if m = 1 then ⟨#[98]⟩ else if m = 2 then ⟨#[32]⟩ else if m = 3 then ⟨#[92, 34]⟩ else if m = 4 then ⟨#[92, 92]⟩
  else if m = 5 then ⟨#[92, 110]⟩ else if m = 6 then ⟨#[92, 117, 48, 48, 52, 49]⟩ else if m = 7 then ⟨#[92, 47]⟩ else if m = 8 then ⟨#[195, 169]⟩ else ⟨#[47]⟩

/-- The same as numbers. -/
def tokL (m : Int) : List Int :=
  if m = 0 then [97] else if m = 1 then [98] else if m = 2 then [32] else if m = 3 then [92, 34] else if m = 4 then [92, 92]
  else if m = 5 then [92, 110] else if m = 6 then [92, 117, 48, 48, 52, 49] else if m = 7 then [92, 47] else if m = 8 then [195, 169] else [47]

theorem tok_cells (m : Int) : Lib.strCells (tokB m) = (tokL m).map (Value.int .u8) := by
  unfold tokB tokL
  repeat' split
  all_goals rfl

theorem tok_size (m : Int) : (tokB m).size = (tokL m).length := by
  have h := congrArg List.length (tok_cells m)
  rw [Lib.strCells_length, List.length_map] at h
  exact h

theorem tokL_len (m : Int) : 1 ≤ (tokL m).length ∧ (tokL m).length ≤ 6 := by
  unfold tokL
  repeat' split
  all_goals simp

/-- What the items write between the quotes. -/
def bodyL : List Int → List Int
  | [] => []
  | k :: r => tokL (k % 10) ++ bodyL r

theorem bodyL_append (a b : List Int) : bodyL (a ++ b) = bodyL a ++ bodyL b := by
  induction a with
  | nil => rfl
  | cons k r ih => simp [bodyL, ih]

theorem bodyL_len (l : List Int) : (bodyL l).length ≤ 6 * l.length := by
  induction l with
  | nil => simp [bodyL]
  | cons k r ih => have := (tokL_len (k % 10)).2; simp [bodyL]; omega

/-- The string: a quote, the body, a quote. -/
def strL (l : List Int) : List Int := 34 :: (bodyL l ++ [34])

theorem strL_len (l : List Int) : (strL l).length = (bodyL l).length + 2 := by simp [strL]

/-- How many cells the scan goes to be just past the closing quote. -/
def scan : List Int → Option Nat
  | [] => none
  | c :: r =>
    if c = 34 then some 1
    else if c = 92 then
      match r with
      | [] => none
      | _ :: r' => (scan r').map (· + 2)
    else (scan r).map (· + 1)

theorem scan_quote (r : List Int) : scan (34 :: r) = some 1 := by
  rw [scan.eq_def]
  simp
theorem scan_esc (x : Int) (r : List Int) : scan (92 :: x :: r) = (scan r).map (· + 2) := by simp [scan]
theorem scan_plain (c : Int) (r : List Int) (h1 : ¬ c = 34) (h2 : ¬ c = 92) : scan (c :: r) = (scan r).map (· + 1) := by
  rw [scan.eq_def]
  simp [h1, h2]

theorem scan_tok (m : Int) (l : List Int) (n : Nat) (h : scan l = some n) : scan (tokL m ++ l) = some (n + (tokL m).length) := by
  unfold tokL
  repeat' split
  all_goals simp [scan_esc, scan_plain, h]

theorem scan_body (l suf : List Int) : scan (bodyL l ++ 34 :: suf) = some ((bodyL l).length + 1) := by
  induction l with
  | nil => simp [bodyL, scan_quote]
  | cons k r ih =>
    rw [bodyL, List.append_assoc, scan_tok (k % 10) _ _ ih]
    simp
    omega

/-- The scan that starts behind the first quote of 'pre ++ str l ++ suf' ends behind its last. -/
theorem scan_str (pre l suf : List Int) : scan ((pre ++ strL l ++ suf).drop (pre.length + 1)) = some ((bodyL l).length + 1) := by
  have e : (pre ++ strL l ++ suf).drop (pre.length + 1) = bodyL l ++ 34 :: suf := by
    simp [strL]
  rw [e]
  exact scan_body l suf

/-! What a scan that ends says of the list at its place. -/
theorem scan_some_lt {zs : List Int} {j m : Nat} (h : scan (zs.drop j) = some m) : j < zs.length := by
  rcases Nat.lt_or_ge j zs.length with h1 | h1
  · exact h1
  · rw [List.drop_of_length_le h1] at h
    simp [scan] at h

theorem drop_at {zs : List Int} {j : Nat} (h : j < zs.length) : zs.drop j = zs.getD j 0 :: zs.drop (j + 1) := by
  rw [List.drop_eq_getElem_cons h]
  simp [List.getD, h]

theorem scan_at_quote {zs : List Int} {j m : Nat} (h : scan (zs.drop j) = some m) (hc : zs.getD j 0 = 34) : m = 1 := by
  rw [drop_at (scan_some_lt h), hc, scan_quote] at h
  simpa using h.symm

theorem scan_at_esc {zs : List Int} {j m : Nat} (h : scan (zs.drop j) = some m) (hc : zs.getD j 0 = 92) : ∃ m', scan (zs.drop (j + 2)) = some m' ∧ m = m' + 2 ∧ j + 2 < zs.length := by
  have h1 := scan_some_lt h
  rw [drop_at h1, hc] at h
  rcases Nat.lt_or_ge (j + 1) zs.length with h2 | h2
  · rw [drop_at h2, scan_esc] at h
    obtain ⟨m', hm, rfl⟩ := Option.map_eq_some_iff.1 h
    exact ⟨m', hm, rfl, scan_some_lt hm⟩
  · rw [List.drop_of_length_le h2] at h
    simp [scan] at h

theorem scan_at_plain {zs : List Int} {j m : Nat} (h : scan (zs.drop j) = some m) (h34 : ¬ zs.getD j 0 = 34) (h92 : ¬ zs.getD j 0 = 92) : ∃ m', scan (zs.drop (j + 1)) = some m' ∧ m = m' + 1 ∧ j + 1 < zs.length := by
  have h1 := scan_some_lt h
  rw [drop_at h1, scan_plain _ _ h34 h92] at h
  obtain ⟨m', hm, rfl⟩ := Option.map_eq_some_iff.1 h
  exact ⟨m', hm, rfl, scan_some_lt hm⟩

end Go.Proofs.Ybulkpme
