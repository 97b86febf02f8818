import PyProof.Rows.All
import Wide.All
import OpenK.AllK
import Wide.FinOn
import Lean
import PySem.Challenge.RW_at6012_01
set_option Elab.async false
section
open PySem PySem.W PyProof.Rows
namespace Mine
set_option maxRecDepth 100000 in
set_option maxHeartbeats 8000000 in
open_top hd for PySem.Challenge.rw_at6012_01
end Mine
end
section
open PySem PySem.W PyProof.Rows PySem.Calls
namespace Mine
/-- what takes the letters ahead of a quote off, by a list of letters -/
def bareBy (lets : List Str) (x : Str) : Str :=
  if (lets.any fun a => a == Txt.lower (Txt.slice x none (some 2))) = true ∧ ([Str.ofString "'", Str.ofString "\""].any fun a => a == Txt.slice x (some 2) (some (2 + 1))) = true then Txt.slice x (some 2) none
  else if (lets.any fun a => a == Txt.lower (Txt.slice x none (some 1))) = true ∧ ([Str.ofString "'", Str.ofString "\""].any fun a => a == Txt.slice x (some 1) (some (1 + 1))) = true then Txt.slice x (some 1) none
  else x
def lets1 : List Str := [Str.ofString "r", Str.ofString "u", Str.ofString "b", Str.ofString "f", Str.ofString "br", Str.ofString "rb", Str.ofString "fr", Str.ofString "rf"]
def lets2 : List Str := [Str.ofString "r", Str.ofString "u", Str.ofString "f", Str.ofString "b", Str.ofString "fr", Str.ofString "rf", Str.ofString "br", Str.ofString "rb"]
theorem lets_any (p : Str → Bool) : lets1.any p = lets2.any p := by
  simp only [lets1, lets2, List.any_cons, List.any_nil, Bool.or_false]
  cases p (Str.ofString "r") <;> cases p (Str.ofString "u") <;> cases p (Str.ofString "f") <;> cases p (Str.ofString "b") <;> cases p (Str.ofString "fr") <;> cases p (Str.ofString "rf") <;> cases p (Str.ofString "br") <;> cases p (Str.ofString "rb") <;> rfl
theorem bare_same (x : Str) : bareBy lets2 x = bareBy lets1 x := by
  unfold bareBy
  simp only [lets_any]

/-- one sign of _law_open -/
def openNext (x : Str) (i : Int) (q : Str) : Option (Int × Str) :=
  if (Txt.item x i == Str.ofString "\\") = true then some (i + 2, q)
  else if (q != Str.ofString "") = true then
    (if (Txt.slice x (some i) (some (i + (q.length : Int))) == q) = true then some (i + 1, Str.ofString "") else some (i + 1, q))
  else if (Txt.item x i == Str.ofString "#") = true then none
  else if (Builtin.Str.occurrences (Str.ofString "'\"") (Txt.item x i) 0 (Str.ofString "'\"").length 1).isEmpty = true then some (i + 1, q)
  else if ([Str.ofString "'''", Str.ofString "\"\"\""].any fun a => a == Txt.slice x (some i) (some (i + 3))) = true then some (i + ((Txt.slice x (some i) (some (i + 3))).length : Int), Txt.slice x (some i) (some (i + 3)))
  else some (i + ((Txt.item x i).length : Int), Txt.item x i)
/-- one sign of _scan_quotes -/
def scanNext (x : Str) (i : Int) (q : Str) : Option (Int × Str) :=
  if (Txt.item x i == Str.ofString "\\") = true then some (i + 1 + 1, q)
  else if (q.length : Int) ≠ 0 then
    (if (Txt.slice x (some i) (some (i + (q.length : Int))) == q) = true then some (i + 1, Str.ofString "") else some (i + 1, q))
  else if ([Str.ofString "'", Str.ofString "\""].any fun a => a == Txt.item x i) = true then
    (if ([Str.ofString "\"\"\"", Str.ofString "'''"].any fun a => a == Txt.slice x (some i) (some (i + 3))) = true then some (i + 2 + 1, Txt.slice x (some i) (some (i + 3))) else some (i + 1, Txt.item x i))
  else if (Txt.item x i == Str.ofString "#") = true then none
  else some (i + 1, q)
section
variable (next : Str → Int → Str → Option (Int × Str))
def runF : Nat → Str → Int → Str → Str
  | 0, _, _, q => q
  | n + 1, x, i, q => if i < (x.length : Int) then (match next x i q with | none => q | some p => runF n x p.1 p.2) else q
def RunInv (x q : Str) (i : Int) (r : Str) : Prop := ∃ n : Nat, (x.length : Int) - i < n ∧ runF next n x i r = runF next (x.length + 1) x 0 q
variable {next} {x q r r' : Str} {i j : Int}
theorem run_start : RunInv next x q 0 q := ⟨x.length + 1, by omega, rfl⟩
theorem run_go (h : RunInv next x q i r) (hi : i < (x.length : Int)) (e : next x i r = some (j, r')) (hj : i < j) : RunInv next x q j r' := by
  obtain ⟨n, hn, h⟩ := h
  cases n with
  | zero => exact absurd hn (by omega)
  | succ n =>
    refine ⟨n, by omega, ?_⟩
    rw [← h, runF, if_pos hi, e]
theorem run_stop (h : RunInv next x q i r) (hi : i < (x.length : Int)) (e : next x i r = none) : runF next (x.length + 1) x 0 q = r := by
  obtain ⟨n, hn, h⟩ := h
  cases n with
  | zero => exact absurd hn (by omega)
  | succ n => rw [← h, runF, if_pos hi, e]
theorem run_end (h : RunInv next x q i r) (hi : ¬ i < (x.length : Int)) : runF next (x.length + 1) x 0 q = r := by
  obtain ⟨n, hn, h⟩ := h
  cases n with
  | zero => rw [← h]; rfl
  | succ n => rw [← h, runF, if_neg hi]
end
theorem long_len {z : Str} (h : ([Str.ofString "'''", Str.ofString "\"\"\""].any fun a => a == z) = true) : z.length = 3 := by
  simp only [List.any_cons, List.any_nil, Bool.or_false, Bool.or_eq_true, beq_iff_eq] at h
  rcases h with rfl | rfl <;> decide +kernel
theorem long_len' {z : Str} (h : ([Str.ofString "\"\"\"", Str.ofString "'''"].any fun a => a == z) = true) : z.length = 3 := by
  simp only [List.any_cons, List.any_nil, Bool.or_false, Bool.or_eq_true, beq_iff_eq] at h
  rcases h with rfl | rfl <;> decide +kernel
def hasNo (x y : Str) : Bool := (Builtin.Str.occurrences x y 0 x.length 1).isEmpty
def scanF (x q : Str) : Str := if hasNo x (Str.ofString "\"") = true ∧ hasNo x (Str.ofString "'") = true then q else runF scanNext (x.length + 1) x 0 q
theorem strike_len {x y z : Str} (hy : y.length = 1) (hz : z.length = 0) : (Txt.replace x y z).length ≤ x.length := by
  obtain ⟨⟨l⟩⟩ := y
  obtain ⟨⟨m⟩⟩ := z
  match l, m, hy, hz with
  | [c], [], _, _ =>
    have h := congrArg List.length (replace_strikes x c)
    have h2 := List.length_filter_le (fun a => a != c) x.cps.toList
    show (Txt.replace x _ _).cps.size ≤ x.cps.size
    rw [← Array.length_toList, ← Array.length_toList]
    exact Nat.le_trans (Nat.le_of_eq h) h2
def rwF (x : Str) : Str := Txt.replace (Txt.replace (Txt.replace (Txt.replace x (Str.ofString "\n") (Str.ofString "")) (Str.ofString " ") (Str.ofString "")) (Str.ofString "\t") (Str.ofString "")) (Str.ofString "\x0c") (Str.ofString "")
theorem rwF_len (x : Str) : (rwF x).length ≤ x.length := by
  unfold rwF
  exact Nat.le_trans (strike_len (by decide +kernel) (by decide +kernel)) (Nat.le_trans (strike_len (by decide +kernel) (by decide +kernel)) (Nat.le_trans (strike_len (by decide +kernel) (by decide +kernel)) (strike_len (by decide +kernel) (by decide +kernel))))
def hcF (b : Bool) (x y : Str) : Bool := if b = true then Txt.strip (rwF x) != Txt.strip (rwF y) else Txt.rstrip x != Txt.rstrip y
def marks : List Str := [Str.ofString "\"\"\"", Str.ofString "'''", Str.ofString "'", Str.ofString "\"", Str.ofString "#"]
def iscF (x : Str) : Bool := marks.any fun a => Txt.startswith (bareBy lets2 (Txt.lstrip x)) a
def lessF (x : Str) : Str := Txt.join (Str.ofString "") (List.filter (fun a => !!(Builtin.Str.occurrences (Str.ofString " \t\n\x0c") a 0 (Str.ofString " \t\n\x0c").length 1).isEmpty) (signs x))
end Mine
end
section
open PySem PySem.W PyProof.Rows PySem.Calls Builtin.Str
namespace Mine
def RowOk (x : Str) : Prop := x.length ≤ 28 ∧ ∃ c r, x.cps.toList = c :: r ∧ Unicode.isSpace c = false ∧ c ≠ 35
theorem row_ok {a b : Str} (ha : a.length ≤ 4) (hb : b.length ≤ 24) (h : ∃ c r, a.cps.toList = c :: r ∧ Unicode.isSpace c = false ∧ c ≠ 35) : RowOk (a ++ b) := by
  obtain ⟨c, r, e, h1, h2⟩ := h
  refine ⟨by rw [Str.length_append]; omega, c, r ++ b.cps.toList, ?_, h1, h2⟩
  show (a.cps ++ b.cps).toList = _
  rw [Array.toList_append, e]; rfl
theorem join_len {ss : List Str} {B : Nat} (h : ∀ z ∈ ss, z.length ≤ B) : (Txt.join (Str.ofString "") ss).length ≤ B * ss.length := by
  have h1 := sumLen_le_of_bound (fun z : Str => z) B ss h
  have h2 := size_glued (Str.ofString "") ss
  have h3 : (Str.ofString "").length = 0 := by decide +kernel
  rw [List.map_id'] at h1
  show (glued _ ss).length ≤ _
  rw [h2, h3]; omega
theorem strip_first {x : Str} (h : RowOk x) : Txt.startswith (Txt.strip x) (Str.ofString "#") = false := by
  obtain ⟨_, c, r, e, h1, h2⟩ := h
  have hlo : stripLo Unicode.isSpace true x = 0 := by
    simp only [stripLo, if_true, e, List.takeWhile_cons, h1]
    rfl
  have key : ∀ k, Txt.startswith (strSub x 0 k) (Str.ofString "#") = false := by
    intro k
    cases hs : Txt.startswith (strSub x 0 k) (Str.ofString "#") with
    | false => rfl
    | true =>
      exfalso
      unfold Txt.startswith at hs
      have hs2 := (Bool.and_eq_true_iff.mp hs).2
      have e35 : Str.ofString "#" = ⟨#[35]⟩ := by decide +kernel
      rw [e35, StrLaws.subAt_eq, StrLaws.strSub_toList, e, List.drop_zero, List.drop_zero] at hs2
      have hs3 := beq_iff_eq.mp hs2
      have h1 : (Str.mk #[35]).length = 1 := rfl
      rw [h1] at hs3
      have hs3 : (List.take (k - 0) (c :: r)).take 1 = [35] := hs3
      cases k with
      | zero => simp at hs3
      | succ k => simp at hs3; exact h2 hs3
  have hw := key x.length
  unfold Txt.strip Txt.stripBy
  split
  · rwa [strSub_whole] at hw
  · unfold PySem.stripped
    rw [hlo]
    exact key _
def pieces : List Str := [Str.ofString "a", Str.ofString " ", Str.ofString "'it'", Str.ofString "\"b\"", Str.ofString "'\"'", Str.ofString "\"\"\"", Str.ofString "'''", Str.ofString "# it's", Str.ofString "\\'", Str.ofString "\\", Str.ofString "'", Str.ofString "\""]
theorem piece_len (k : Nat) : (pieces.getD k Str.empty).length ≤ 6 := by
  have h : ∀ z ∈ pieces, z.length ≤ 6 := by decide +kernel
  rw [List.getD_eq_getElem?_getD]
  cases e : pieces[k]? with
  | none => exact Nat.zero_le _
  | some z => exact h z (List.mem_of_getElem? e)
theorem join_tot {ss : List Str} (h : ∀ z ∈ ss, z.length ≤ 6) (hl : ss.length ≤ 1000) : (ss.map (·.length)).sum + ss.length * (Str.ofString "").length ≤ 16777216 := by
  have h1 := sumLen_le_of_bound (fun z : Str => z) 6 ss h
  have h3 : (Str.ofString "").length = 0 := by decide +kernel
  rw [List.map_id'] at h1
  rw [h3]; omega
def StartOk (a : Str) : Prop := ∃ c r, a.cps.toList = c :: r ∧ Unicode.isSpace c = false ∧ c ≠ 35
theorem start1 : StartOk (Str.ofString "x = ") := ⟨120, [32, 61, 32], by decide +kernel, by decide +kernel, by decide⟩
theorem start2 : StartOk (Str.ofString "y") := ⟨121, [], by decide +kernel, by decide +kernel, by decide⟩
theorem start3 : StartOk (Str.ofString "f(") := ⟨102, [40], by decide +kernel, by decide +kernel, by decide⟩
/-- _law_spaced, its first k turns -/
def spaceBefore (ss : List Str) (k : Nat) : Bool :=
  (Txt.slice (ss.getD k Str.empty) none (some 1) == Str.ofString "#") && (decide (k = 0) || ((ss.getD (k - 1) Str.empty != Str.ofString "") && (Txt.slice (ss.getD (k - 1) Str.empty) none (some 1) != Str.ofString "#")))
def spacedTo (ss : List Str) : Nat → List Str
  | 0 => []
  | k + 1 => spacedTo ss k ++ (if spaceBefore ss k = true then [Str.ofString "", ss.getD k Str.empty] else [ss.getD k Str.empty])
def spacedF (ss : List Str) : List Str := spacedTo ss ss.length
theorem getD_len {ss : List Str} {B : Nat} (h : ∀ z ∈ ss, z.length ≤ B) (k : Nat) : (ss.getD k Str.empty).length ≤ B := by
  rw [List.getD_eq_getElem?_getD]
  cases e : ss[k]? with
  | none => exact Nat.zero_le _
  | some z => exact h z (List.mem_of_getElem? e)
theorem getD_size {ss : List Str} (h : ∀ z ∈ ss, z.length ≤ 100) (k : Nat) : (ss.getD k Str.empty).length ≤ sizeLine := Nat.le_trans (getD_len h k) (by rw [sizeLine_eq]; decide)
theorem spacedTo_len (ss : List Str) : ∀ k, (spacedTo ss k).length ≤ 2 * k
  | 0 => Nat.le_refl _
  | k + 1 => by
    have ih := spacedTo_len ss k
    unfold spacedTo
    split <;> simp <;> omega
theorem spaced_yes {ss : List Str} {cv : List Value} {k : Nat} {a b : Tok} (h : StrsAre cv (spacedTo ss k)) (c : spaceBefore ss k = true) : StrsAre (cv ++ [.str (Str.ofString "") a] ++ [.str (ss.getD k Str.empty) b]) (spacedTo ss (k + 1)) := by
  rw [spacedTo, if_pos c, List.append_assoc]
  exact h.append' (.cons _ _ (.cons _ _ .nil))
theorem spaced_no {ss : List Str} {cv : List Value} {k : Nat} {b : Tok} (h : StrsAre cv (spacedTo ss k)) (c : spaceBefore ss k = false) : StrsAre (cv ++ [.str (ss.getD k Str.empty) b]) (spacedTo ss (k + 1)) := by
  rw [spacedTo, if_neg (by rw [c]; nofun)]
  exact h.append' (.cons _ _ .nil)
end Mine
namespace Mine
/-- a list of rows without its blank rows at the end -/
def blankRow (y : Str) : Bool := Txt.strip y == Str.ofString ""
def dropEnd (ss : List Str) : List Str := (ss.reverse.dropWhile blankRow).reverse
theorem dropEnd_yes {ys : List Str} {y : Str} (h : blankRow y = true) : dropEnd (ys ++ [y]) = dropEnd ys := by
  simp [dropEnd, h]
theorem dropEnd_no {ys : List Str} {y : Str} (h : blankRow y = false) : dropEnd (ys ++ [y]) = ys ++ [y] := by
  simp [dropEnd, h]
def normF (ss : List Str) : List Str := dropEnd ss ++ [Str.ofString ""]
theorem list_end {α : Type} (l : List α) : l = [] ∨ ∃ r x, l = r ++ [x] := by
  rcases List.eq_nil_or_concat l with h | ⟨r, x, h⟩
  · exact .inl h
  · exact .inr ⟨r, x, by simpa using h⟩
end Mine
namespace Mine
def ensF (ss : List Str) : List Str := spacedF ss
end Mine
end
section
open PySem PySem.W PyProof.Rows PySem.Calls Builtin.Str
namespace Mine
theorem range_pick (l : List Nat) (a : Nat) : ∀ c, a + c ≤ l.length → ((List.range c).map (fun k => a + k)).filterMap (fun i => l[i]?) = (l.drop a).take c
  | 0, _ => by simp
  | c + 1, h => by
    rw [List.range_succ, List.map_append, List.filterMap_append, range_pick l a c (by omega)]
    rw [List.take_add_one]
    congr 1
    rw [List.getElem?_drop]
    have hlt : a + c < l.length := by omega
    simp [List.getElem?_eq_getElem hlt]
theorem slice_list {x : Str} {lo hi : Option Int} {a b : Nat} (e : strSliceIndices lo hi 1 x.length = (List.range (b - a)).map (fun k => a + k)) (hab : a ≤ b) (hb : b ≤ x.length) : (Txt.slice x lo hi).cps.toList = (x.cps.toList.drop a).take (b - a) := by
  have hx : x.length = x.cps.toList.length := (Array.length_toList).symm
  unfold Txt.slice
  split
  · rename_i h
    have h1 := (Bool.and_eq_true_iff.mp h).2
    have h2 := beq_iff_eq.mp h1
    rw [e, List.length_map, List.length_range] at h2
    obtain rfl : a = 0 := by omega
    rw [List.drop_zero, List.take_of_length_le (by omega)]
  · rw [e]
    have h3 := range_pick x.cps.toList a (b - a) (by omega)
    rw [← h3]
    show (List.filterMap _ _).toArray.toList = _
    rw [List.toList_toArray]
    congr 1
    funext i
    exact (Array.getElem?_toList ..).symm
theorem idx_nat (i j n : Nat) : strSliceIndices (some (i : Int)) (some (j : Int)) 1 n = (List.range (min j n - min i n)).map (fun k => min i n + k) := by
  unfold strSliceIndices sliceRange
  simp only [show (1 : Int) > 0 by decide, if_true, show ¬ ((i : Int) < 0) by omega, show ¬ ((j : Int) < 0) by omega, if_false]
  have e1 : max (0 : Int) (min (i : Int) (n : Int)) = ((min i n : Nat) : Int) := by omega
  have e2 : max (0 : Int) (min (j : Int) (n : Int)) = ((min j n : Nat) : Int) := by omega
  rw [e1, e2]
  have e3 : (if ((min i n : Nat) : Int) < ((min j n : Nat) : Int) then (((min j n : Nat) : Int) - ((min i n : Nat) : Int) + 1 - 1) / 1 else 0).toNat = min j n - min i n := by
    split
    · rw [Int.ediv_one]; omega
    · omega
  rw [e3]
  apply List.map_congr_left
  intro k _
  omega
theorem slice_ij (x : Str) (i j : Nat) (h : i ≤ j) : (Txt.slice x (some (i : Int)) (some (j : Int))).cps.toList = (x.cps.toList.drop i).take (j - i) := by
  have hx : x.length = x.cps.toList.length := (Array.length_toList).symm
  rw [slice_list (idx_nat i j x.length) (by omega) (by omega)]
  rcases Nat.le_total i x.length with h1 | h1
  · rw [Nat.min_eq_left h1]
    rcases Nat.le_total j x.length with h2 | h2
    · rw [Nat.min_eq_left h2]
    · rw [Nat.min_eq_right h2, List.take_of_length_le (by rw [List.length_drop]; omega), List.take_of_length_le (by rw [List.length_drop]; omega)]
  · rw [List.drop_eq_nil_of_le (as := x.cps.toList) (i := i) (by omega), List.drop_eq_nil_of_le (by omega)]
    simp
theorem slice_to (x : Str) (j : Nat) : Txt.slice x none (some (j : Int)) = Txt.slice x (some ((0 : Nat) : Int)) (some (j : Int)) := by
  have : strSliceIndices none (some (j : Int)) 1 x.length = strSliceIndices (some ((0 : Nat) : Int)) (some (j : Int)) 1 x.length := by
    unfold strSliceIndices
    simp only [show (1 : Int) > 0 by decide, if_true]
    congr 1
  unfold Txt.slice
  rw [this]
theorem slice_first (x : Str) (j : Nat) : (Txt.slice x none (some (j : Int))).cps.toList = x.cps.toList.take j := by
  rw [slice_to, slice_ij x 0 j (Nat.zero_le _), List.drop_zero, Nat.sub_zero]
theorem str_beq (x y : Str) : (x == y) = (x.cps.toList == y.cps.toList) := by
  rw [Bool.eq_iff_iff, beq_iff_eq, beq_iff_eq]
  constructor
  · rintro rfl; rfl
  · intro h
    cases x; cases y
    exact congrArg Str.mk (Array.ext' h)
theorem starts_slice (x : Str) : (Txt.slice x none (some 1) == Str.ofString "#") = Txt.startswith x (Str.ofString "#") := by
  have e35 : Str.ofString "#" = ⟨#[35]⟩ := by decide +kernel
  rw [str_beq, show (1 : Int) = ((1 : Nat) : Int) from rfl, slice_first]
  unfold Txt.startswith
  rw [e35, StrLaws.subAt_eq, List.drop_zero]
  have hx : x.length = x.cps.toList.length := (Array.length_toList).symm
  have h1 : (Str.mk #[35]).length = 1 := rfl
  rw [h1, hx]
  cases x.cps.toList with
  | nil => rfl
  | cons c r => simp
theorem starts_len0 {p : Str} (h : Txt.startswith (Str.ofString "") p = true) : p.length = 0 := by
  unfold Txt.startswith at h
  have h1 := (Bool.and_eq_true_iff.mp h).1
  have h2 := of_decide_eq_true h1
  have h3 : (Str.ofString "").length = 0 := by decide +kernel
  omega
end Mine
namespace Mine
theorem before_eq (ss : List Str) (k : Nat) : spaceBefore ss k = (Txt.startswith (ss.getD k Str.empty) (Str.ofString "#") && (decide (k = 0) || ((ss.getD (k - 1) Str.empty != Str.ofString "") && !Txt.startswith (ss.getD (k - 1) Str.empty) (Str.ofString "#")))) := by
  unfold spaceBefore
  rw [starts_slice, ← starts_slice (ss.getD (k - 1) Str.empty)]
  rfl
theorem starts_empty {x : Str} (h : (x.length : Int) = 0) : Txt.startswith x (Str.ofString "#") = false := by
  unfold Txt.startswith
  have h3 : (Str.ofString "#").length = 1 := by decide +kernel
  have h0 : x.length = 0 := by omega
  rw [h3, h0]; rfl
end Mine
namespace Mine
theorem before0 {ss : List Str} {k : Nat} (h : k = 0) : spaceBefore ss k = Txt.startswith (ss.getD k Str.empty) (Str.ofString "#") := by
  rw [before_eq, h]; simp
theorem before1 {ss : List Str} {k : Nat} (h : 0 < k) : spaceBefore ss k = (Txt.startswith (ss.getD k Str.empty) (Str.ofString "#") && ((ss.getD (k - 1) Str.empty != Str.ofString "") && !Txt.startswith (ss.getD (k - 1) Str.empty) (Str.ofString "#"))) := by
  rw [before_eq, decide_eq_false (by omega), Bool.false_or]
end Mine
namespace Mine
/-- the rows of a text, their ends kept -/
def keptCuts (x : Str) : List (Nat × Nat) := (lineSpans x).map fun (i, _, k) => (i, k)
def keptRows (x : Str) : List Str := (keptCuts x).map fun p => strSub x p.1 p.2
def indRow (q y : Str) : Str := if (Txt.strip y).length = 0 then y else q ++ y
def indF (q x : Str) : Str := Txt.join (Str.ofString "") ((keptRows x).map (indRow q))
end Mine
namespace Mine
theorem keptCuts_le (x : Str) : (keptCuts x).length ≤ x.length + 1 := by
  have h := lineCuts_le x
  unfold lineCuts at h
  unfold keptCuts
  rw [List.length_map] at h ⊢
  exact h
theorem keptRows_len (x : Str) : (keptRows x).length ≤ x.length + 1 := by
  unfold keptRows
  rw [List.length_map]
  exact keptCuts_le x
theorem keptRows_each {x : Str} : ∀ z ∈ keptRows x, z.length ≤ x.length := by
  intro z hz
  obtain ⟨p, _, rfl⟩ := List.mem_map.mp hz
  exact strSub_length_le ..
end Mine
namespace Mine
theorem range_rows (f : Str → Str) : ∀ l : List Str, (List.range l.length).map (fun j => f (l.getD j Str.empty)) = l.map f := by
  intro l
  apply List.ext_getElem
  · simp
  · intro i h1 h2
    simp only [List.length_map] at h2
    simp [List.getD_eq_getElem?_getD, List.getElem?_eq_getElem h2]
theorem passing_all (n : Nat) : passing (fun _ => true) n 0 = List.range n := by
  unfold passing
  rw [List.drop_zero, List.filter_eq_self]
  intros; rfl
theorem join_totB {ss : List Str} {B : Nat} (h : ∀ z ∈ ss, z.length ≤ B) (hl : B * ss.length ≤ 16777216) : (ss.map (·.length)).sum + ss.length * (Str.ofString "").length ≤ 16777216 := by
  have h1 := sumLen_le_of_bound (fun z : Str => z) B ss h
  have h3 : (Str.ofString "").length = 0 := by decide +kernel
  rw [List.map_id'] at h1
  rw [h3]; omega
theorem indRow_len {q y : Str} (hq : q.length ≤ 3) (hy : y.length ≤ 100) : (indRow q y).length ≤ 103 := by
  unfold indRow
  split
  · omega
  · rw [Str.length_append]; omega
theorem indRows_ok {q x : Str} (hq : q.length ≤ 3) (hx : x.length ≤ 100) : JoinOk (Str.ofString "") ((keptRows x).map (indRow q)) = true := by
  refine joinOk_of (join_totB (B := 103) ?_ ?_)
  · intro z hz
    obtain ⟨y, hy, rfl⟩ := List.mem_map.mp hz
    exact indRow_len hq (Nat.le_trans (keptRows_each y hy) hx)
  · rw [List.length_map]
    have := keptRows_len x
    omega
end Mine
end
section
open PySem PySem.W PyProof.Rows PySem.Calls Builtin.Str
namespace Mine
def QOk (q : Str) : Prop := q ∈ [Str.ofString "", Str.ofString "'", Str.ofString "\"", Str.ofString "'''", Str.ofString "\"\"\""]
def qF (x q : Str) : Str := runF openNext (x.length + 1) x 0 q
theorem one39 : Str.ofString "'" = ⟨#[39]⟩ := by decide +kernel
theorem one34 : Str.ofString "\"" = ⟨#[34]⟩ := by decide +kernel
theorem empty_one' (c : Nat) : (occurrences (Str.ofString "'\"") ⟨#[c]⟩ 0 (Str.ofString "'\"").length 1).isEmpty = !decide (c = 39 ∨ c = 34) := by
  rw [empty_one]
  have e : (Str.ofString "'\"").cps.toList = [39, 34] := by decide +kernel
  rw [e]
  simp
theorem item_quote (c : Nat) : (occurrences (Str.ofString "'\"") ⟨#[c]⟩ 0 (Str.ofString "'\"").length 1).isEmpty = !([Str.ofString "'", Str.ofString "\""].any fun a => a == (⟨#[c]⟩ : Str)) := by
  rw [empty_one]
  congr 1
  have e : (Str.ofString "'\"").cps.toList = [39, 34] := by decide +kernel
  rw [e, one39, one34]
  simp only [List.any_cons, List.any_nil, Bool.or_false, str_beq]
  rw [Bool.eq_iff_iff]
  simp
  constructor <;> (rintro (h | h) <;> simp [h])
theorem next_same (x : Str) (i : Int) (q : Str) : scanNext x i q = openNext x i q := by
  unfold scanNext openNext
  by_cases h1 : (Txt.item x i == Str.ofString "\\") = true
  · rw [if_pos h1, if_pos h1]
    congr 2
    omega
  · rw [if_neg h1, if_neg h1]
    have hq : (q.length : Int) ≠ 0 ↔ (q != Str.ofString "") = true := by
      have e0 : Str.ofString "" = ⟨#[]⟩ := by decide +kernel
      rw [bne_iff_ne, e0]
      constructor
      · rintro h rfl; exact h rfl
      · intro h hl
        apply h
        obtain ⟨a⟩ := q
        have : a.size = 0 := by have : ((a.size : Nat) : Int) = 0 := hl; omega
        rw [Array.size_eq_zero_iff.mp this]
    by_cases h2 : (q.length : Int) ≠ 0
    · rw [if_pos h2, if_pos (hq.mp h2)]
    · rw [if_neg h2, if_neg (fun h => h2 (hq.mpr h))]
      have e3 := item_quote ((Txt.charAt x i).getD 0)
      have ei : (⟨#[(Txt.charAt x i).getD 0]⟩ : Str) = Txt.item x i := rfl
      rw [ei] at e3
      rw [e3]
      have el : (Txt.item x i).length = 1 := rfl
      cases h4 : ([Str.ofString "'", Str.ofString "\""].any fun a => a == Txt.item x i)
      · simp only [Bool.false_eq_true, if_false, Bool.not_false, if_true]
      · simp only [Bool.not_true, Bool.false_eq_true, if_false, if_true]
        have h5 : ¬ (Txt.item x i == Str.ofString "#") = true := by
          intro h
          rw [beq_iff_eq.mp h] at h4
          revert h4
          decide +kernel
        rw [if_neg h5]
        have e6 : ([Str.ofString "\"\"\"", Str.ofString "'''"].any fun a => a == Txt.slice x (some i) (some (i + 3))) = ([Str.ofString "'''", Str.ofString "\"\"\""].any fun a => a == Txt.slice x (some i) (some (i + 3))) := by
          simp only [List.any_cons, List.any_nil, Bool.or_false]
          rw [Bool.or_comm]
        rw [e6]
        by_cases h7 : ([Str.ofString "'''", Str.ofString "\"\"\""].any fun a => a == Txt.slice x (some i) (some (i + 3))) = true
        · rw [if_pos h7, if_pos h7, long_len h7]
          congr 2
          omega
        · rw [if_neg h7, if_neg h7, el]
          rfl
theorem next_eq : scanNext = openNext := by
  funext x i q
  exact next_same x i q
theorem item_at {x : Str} {i : Int} (h0 : 0 ≤ i) (h1 : i < (x.length : Int)) : ∃ c, Txt.item x i = ⟨#[c]⟩ ∧ x.cps.toList[i.toNat]? = some c := by
  have hlt : i.toNat < x.cps.size := by
    have : x.length = x.cps.size := rfl
    omega
  refine ⟨(Txt.charAt x i).getD 0, rfl, ?_⟩
  have e : Txt.charAt x i = x.cps[i.toNat]? := by
    unfold Txt.charAt seqIndex?
    have hn : ¬ i < 0 := by omega
    simp only [if_neg hn]
    rw [if_pos (by simp; omega)]
    rfl
  rw [e, Array.getElem?_toList, Array.getElem?_eq_getElem hlt]
  rfl
end Mine
namespace Mine
theorem open_ok {x : Str} {i : Int} {q : Str} {p : Int × Str} (h0 : 0 ≤ i) (hq : QOk q) (e : openNext x i q = some p) : QOk p.2 ∧ 0 ≤ p.1 := by
  unfold openNext at e
  have qe : QOk (Str.ofString "") := .head _
  split at e
  · cases e; exact ⟨hq, by show 0 ≤ i + 2; omega⟩
  · split at e
    · split at e
      · cases e; exact ⟨qe, by show 0 ≤ i + 1; omega⟩
      · cases e; exact ⟨hq, by show 0 ≤ i + 1; omega⟩
    · split at e
      · cases e
      · split at e
        · cases e; exact ⟨hq, by show 0 ≤ i + 1; omega⟩
        · rename_i h4
          split at e
          · rename_i h5
            cases e
            refine ⟨?_, by show 0 ≤ i + _; omega⟩
            simp only [List.any_cons, List.any_nil, Bool.or_false, Bool.or_eq_true, beq_iff_eq] at h5
            show QOk (Txt.slice x (some i) (some (i + 3)))
            rcases h5 with h5 | h5 <;> rw [← h5]
            · exact .tail _ (.tail _ (.tail _ (.head _)))
            · exact .tail _ (.tail _ (.tail _ (.tail _ (.head _))))
          · cases e
            refine ⟨?_, by show 0 ≤ i + _; omega⟩
            have e3 := item_quote ((Txt.charAt x i).getD 0)
            have ei : (⟨#[(Txt.charAt x i).getD 0]⟩ : Str) = Txt.item x i := rfl
            rw [ei] at e3
            rw [e3] at h4
            have h6 : ([Str.ofString "'", Str.ofString "\""].any fun a => a == Txt.item x i) = true := by revert h4; cases ([Str.ofString "'", Str.ofString "\""].any fun a => a == Txt.item x i) <;> simp
            simp only [List.any_cons, List.any_nil, Bool.or_false, Bool.or_eq_true, beq_iff_eq] at h6
            show QOk (Txt.item x i)
            rcases h6 with h6 | h6 <;> rw [← h6]
            · exact .tail _ (.head _)
            · exact .tail _ (.tail _ (.head _))
theorem run_ok (x : Str) : ∀ (n : Nat) (i : Int) (q : Str), 0 ≤ i → QOk q → QOk (runF openNext n x i q)
  | 0, _, _, _, hq => hq
  | n + 1, i, q, h0, hq => by
    unfold runF
    split
    · cases e : openNext x i q with
      | none => exact hq
      | some p =>
        obtain ⟨h1, h2⟩ := open_ok h0 hq e
        exact run_ok x n p.1 p.2 h2 h1
    · exact hq
theorem qF_ok {x q : Str} (hq : QOk q) : QOk (qF x q) := run_ok x _ 0 q (Int.le_refl _) hq
theorem QOk.len {q : Str} (h : QOk q) : q.length ≤ 3 := by
  have : ∀ z ∈ [Str.ofString "", Str.ofString "'", Str.ofString "\"", Str.ofString "'''", Str.ofString "\"\"\""], z.length ≤ 3 := by decide +kernel
  exact this q h
theorem QOk.first {q : Str} (h : QOk q) (hn : q ≠ Str.ofString "") : 39 ∈ q.cps.toList ∨ 34 ∈ q.cps.toList := by
  have : ∀ z ∈ [Str.ofString "'", Str.ofString "\"", Str.ofString "'''", Str.ofString "\"\"\""], 39 ∈ z.cps.toList ∨ 34 ∈ z.cps.toList := by decide +kernel
  rcases List.mem_cons.mp h with h | h
  · exact absurd h hn
  · exact this q h
theorem slice_mem {x : Str} {i : Int} {n c : Nat} (h0 : 0 ≤ i) (h : c ∈ (Txt.slice x (some i) (some (i + (n : Int)))).cps.toList) : c ∈ x.cps.toList := by
  obtain ⟨k, rfl⟩ := Int.eq_ofNat_of_zero_le h0
  have e2 : (k : Int) + (n : Int) = ((k + n : Nat) : Int) := by omega
  rw [e2, slice_ij x _ _ (by omega)] at h
  exact List.mem_of_mem_drop (List.mem_of_mem_take h)
theorem open_quiet {x : Str} {i : Int} {q : Str} (h39 : 39 ∉ x.cps.toList) (h34 : 34 ∉ x.cps.toList) (h0 : 0 ≤ i) (h1 : i < (x.length : Int)) (hq : QOk q) : openNext x i q = none ∨ ∃ j, 0 ≤ j ∧ openNext x i q = some (j, q) := by
  unfold openNext
  split
  · exact .inr ⟨_, by omega, rfl⟩
  · split
    · rename_i h2
      split
      · rename_i h3
        exfalso
        have e := beq_iff_eq.mp h3
        have hne := bne_iff_ne.mp h2
        rcases hq.first hne with h | h
        · rw [← e] at h; exact h39 (slice_mem h0 h)
        · rw [← e] at h; exact h34 (slice_mem h0 h)
      · exact .inr ⟨_, by omega, rfl⟩
    · split
      · exact .inl rfl
      · split
        · exact .inr ⟨_, by omega, rfl⟩
        · rename_i h4
          exfalso
          obtain ⟨c, hc, hx⟩ := item_at h0 h1
          have hm := List.mem_of_getElem? hx
          rw [hc, empty_one'] at h4
          exact h4 (by
            have h5 : c ≠ 39 := fun h => h39 (h ▸ hm)
            have h6 : c ≠ 34 := fun h => h34 (h ▸ hm)
            simp [h5, h6])
theorem run_quiet {x : Str} (h39 : 39 ∉ x.cps.toList) (h34 : 34 ∉ x.cps.toList) : ∀ (n : Nat) (i : Int) (q : Str), 0 ≤ i → QOk q → runF openNext n x i q = q
  | 0, _, _, _, _ => rfl
  | n + 1, i, q, h0, hq => by
    unfold runF
    split
    · rename_i h1
      rcases open_quiet h39 h34 h0 h1 hq with e | ⟨j, hj, e⟩
      · rw [e]
      · rw [e]; exact run_quiet h39 h34 n j q hj hq
    · rfl
theorem scan_eq {x q : Str} (hq : QOk q) : scanF x q = qF x q := by
  unfold scanF
  split
  · rename_i h
    obtain ⟨h1, h2⟩ := h
    unfold hasNo at h1 h2
    rw [one34, empty_one] at h1
    rw [one39, empty_one] at h2
    exact (run_quiet (by simpa using h2) (by simpa using h1) _ 0 q (Int.le_refl _) hq).symm
  · rw [next_eq]; rfl
end Mine
namespace Mine
def menu5 : List Str := [Str.ofString "", Str.ofString "x", Str.ofString "# c", Str.ofString "  ", Str.ofString "#"]
theorem menu5_len : ∀ z ∈ menu5, z.length ≤ 100 := by decide +kernel
theorem menu5_ok : ∀ z ∈ menu5, PyData.strOk z = true := by decide +kernel
end Mine
namespace Mine
theorem getD_mem {ss : List Str} {i : Int} (h0 : 0 ≤ i) (h1 : i < (ss.length : Int)) : ss.getD i.toNat Str.empty ∈ ss := by
  have hlt : i.toNat < ss.length := by omega
  rw [List.getD_eq_getElem?_getD, List.getElem?_eq_getElem hlt]
  exact List.getElem_mem hlt
theorem menu5_at {i : Int} (h0 : 0 ≤ i) (h1 : i < 5) : [Str.ofString "", Str.ofString "x", Str.ofString "# c", Str.ofString "  ", Str.ofString "#"].getD i.toNat Str.empty ∈ menu5 := getD_mem (ss := menu5) h0 h1
end Mine
end
section
open PySem PySem.W PyProof.Rows PySem.Calls Builtin.Str
namespace Mine
theorem join_cps : ∀ ss : List Str, (Txt.join (Str.ofString "") ss).cps.toList = (ss.map fun z => z.cps.toList).flatten := by
  have e0 : Str.ofString "" = ⟨#[]⟩ := by decide +kernel
  have key : ∀ ss : List Str, (Str.join ⟨#[]⟩ ss).cps.toList = (ss.map fun z => z.cps.toList).flatten := by
    intro ss
    induction ss with
    | nil => rfl
    | cons a r ih =>
      cases r with
      | nil => simp [Str.join]
      | cons b t =>
        show (a ++ ⟨#[]⟩ ++ Str.join ⟨#[]⟩ (b :: t)).cps.toList = _
        simp only [Str.cps_append, Array.toList_append]
        rw [ih]
        simp
  intro ss
  show (glued _ ss).cps.toList = _
  rw [StrLaws.glued_eq_join, e0, key]
/-- the letters of the two texts -/
def abOk (c : Nat) : Bool := c == 97 || c == 32 || c == 98 || c == 10 || c == 9
def TextOk (x : Str) : Prop := x.length ≤ 100 ∧ ∀ c ∈ x.cps.toList, abOk c = true
def menuA : List Str := [Str.ofString "a", Str.ofString " ", Str.ofString "b", Str.ofString "\n", Str.ofString "\t"]
theorem menuA_ok : ∀ z ∈ menuA, z.length ≤ 6 ∧ ∀ c ∈ z.cps.toList, abOk c = true := by decide +kernel
theorem menuA_at {i : Int} (h0 : 0 ≤ i) (h1 : i < 5) : [Str.ofString "a", Str.ofString " ", Str.ofString "b", Str.ofString "\n", Str.ofString "\t"].getD i.toNat Str.empty ∈ menuA := getD_mem (ss := menuA) h0 h1
theorem text_ok {ss : List Str} (h : ∀ z ∈ ss, z ∈ menuA) (hl : ss.length ≤ 10) : TextOk (Txt.join (Str.ofString "") ss) := by
  refine ⟨Nat.le_trans (join_len (B := 6) fun z hz => (menuA_ok z (h z hz)).1) (by omega), fun c hc => ?_⟩
  rw [join_cps] at hc
  obtain ⟨l, hl, hc⟩ := List.mem_flatten.mp hc
  obtain ⟨z, hz, rfl⟩ := List.mem_map.mp hl
  exact (menuA_ok z (h z hz)).2 c hc
/-- what is left without blanks -/
def noBlank (c : Nat) : Bool := c != 32 && c != 9 && c != 10 && c != 12
theorem rw_list (x : Str) : (rwF x).cps.toList = x.cps.toList.filter noBlank := by
  have e0 : Str.ofString "" = ⟨#[]⟩ := by decide +kernel
  have e1 : Str.ofString "\n" = ⟨#[10]⟩ := by decide +kernel
  have e2 : Str.ofString " " = ⟨#[32]⟩ := by decide +kernel
  have e3 : Str.ofString "\t" = ⟨#[9]⟩ := by decide +kernel
  have e4 : Str.ofString "\x0c" = ⟨#[12]⟩ := by decide +kernel
  unfold rwF
  rw [e0, e1, e2, e3, e4, replace_strikes, replace_strikes, replace_strikes, replace_strikes]
  rw [List.filter_filter, List.filter_filter, List.filter_filter]
  apply List.filter_congr
  intro c _
  unfold noBlank
  cases c != 32 <;> cases c != 9 <;> cases c != 10 <;> cases c != 12 <;> rfl
theorem less_list (x : Str) : (lessF x).cps.toList = x.cps.toList.filter noBlank := by
  unfold lessF
  rw [join_cps]
  unfold signs
  have e : (Str.ofString " \t\n\x0c").cps.toList = [32, 9, 10, 12] := by decide +kernel
  induction x.cps.toList with
  | nil => rfl
  | cons c r ih =>
    have hc : (!!(occurrences (Str.ofString " \t\n\x0c") (⟨#[c]⟩ : Str) 0 (Str.ofString " \t\n\x0c").length 1).isEmpty) = noBlank c := by
      rw [empty_one, e]
      unfold noBlank
      rw [Bool.eq_iff_iff]
      simp [and_assoc]
    rw [List.map_cons, List.filter_cons, List.filter_cons, hc]
    cases noBlank c with
    | false => exact ih
    | true =>
      show List.flatten (List.map _ (_ :: _)) = _
      rw [List.map_cons, List.flatten_cons, ih]
      rfl
theorem str_ext {x y : Str} (h : x.cps.toList = y.cps.toList) : x = y := by
  cases x; cases y
  exact congrArg Str.mk (Array.ext' h)
theorem less_rw (x : Str) : lessF x = rwF x := str_ext (by rw [less_list, rw_list])
theorem strip_plain {x : Str} (h : ∀ c ∈ x.cps.toList, Unicode.isSpace c = false) : Txt.strip x = x := by
  have nil : ∀ l : List Nat, (∀ c ∈ l, Unicode.isSpace c = false) → l.takeWhile Unicode.isSpace = [] := by
    intro l hl
    cases l with
    | nil => rfl
    | cons c r => rw [List.takeWhile_cons, hl c (.head _)]; rfl
  have hlo : stripLo Unicode.isSpace true x = 0 := by
    simp only [stripLo, if_true]
    rw [nil _ h]; rfl
  have hhi : stripHi Unicode.isSpace true x 0 = x.length := by
    simp only [stripHi, if_true]
    rw [nil _ (fun c hc => h c (List.mem_of_mem_drop (List.mem_reverse.mp hc)))]
    rfl
  unfold Txt.strip Txt.stripBy
  have : stripSame Unicode.isSpace true true x = true := by
    unfold stripSame
    rw [hlo, hhi]
    simp
  rw [if_pos this]
theorem ab_left {c : Nat} (h : abOk c = true) (hn : noBlank c = true) : c = 97 ∨ c = 98 := by
  unfold abOk at h
  unfold noBlank at hn
  simp at h hn
  omega
theorem hc_less {x y : Str} (hx : TextOk x) (hy : TextOk y) : hcF true x y = (lessF x != lessF y) := by
  have key : ∀ z : Str, TextOk z → Txt.strip (rwF z) = lessF z := by
    intro z hz
    rw [less_rw]
    apply strip_plain
    intro c hc
    rw [rw_list] at hc
    obtain ⟨h1, h2⟩ := List.mem_filter.mp hc
    rcases ab_left (hz.2 c h1) h2 with rfl | rfl <;> decide +kernel
  unfold hcF
  rw [if_pos rfl, key x hx, key y hy]
end Mine
end
section
open PySem PySem.W PyProof.Rows PySem.Calls Builtin.Str
namespace Mine
theorem starts_list (x y : Str) : Txt.startswith x y = (decide (y.cps.toList.length ≤ x.cps.toList.length) && (x.cps.toList.take y.cps.toList.length == y.cps.toList)) := by
  unfold Txt.startswith
  have hx : x.length = x.cps.toList.length := (Array.length_toList).symm
  have hy : y.length = y.cps.toList.length := (Array.length_toList).symm
  rw [StrLaws.subAt_eq, List.drop_zero, Nat.zero_add, hx, hy]
theorem marks_list : marks.map (fun z => z.cps.toList) = [[34, 34, 34], [39, 39, 39], [39], [34], [35]] := by decide +kernel
theorem marks_any (y : Str) : (marks.any fun a => Txt.startswith y a) = ([[34, 34, 34], [39, 39, 39], [39], [34], [35]].any fun l : List Nat => decide (l.length ≤ y.cps.toList.length) && (y.cps.toList.take l.length == l)) := by
  rw [← marks_list, List.any_map]
  congr 1
  funext a
  exact starts_list y a
theorem marks_first (y : Str) : (marks.any fun a => Txt.startswith y a) = (match y.cps.toList with | [] => false | c :: _ => c == 39 || c == 34 || c == 35) := by
  rw [marks_any]
  cases y.cps.toList with
  | nil => rfl
  | cons c r =>
    rw [Bool.eq_iff_iff]
    simp
    constructor
    · rintro (⟨_, h, _⟩ | ⟨_, h, _⟩ | h | h | h)
      · exact .inl (.inr h)
      · exact .inl (.inl h)
      · exact .inl (.inl h)
      · exact .inl (.inr h)
      · exact .inr h
    · rintro ((h | h) | h)
      · exact .inr (.inr (.inl h))
      · exact .inr (.inr (.inr (.inl h)))
      · exact .inr (.inr (.inr (.inr h)))
theorem slice1_nil {y : Str} : Txt.slice y none (some 1) = Str.ofString "" ↔ y.cps.toList = [] := by
  have e : (Txt.slice y none (some 1)).cps.toList = y.cps.toList.take 1 := slice_first y 1
  have e0 : (Str.ofString "").cps.toList = [] := by decide +kernel
  constructor
  · intro h
    rw [h, e0] at e
    cases hy : y.cps.toList with
    | nil => rfl
    | cons c r => rw [hy] at e; simp at e
  · intro h
    apply str_ext
    rw [e, e0, h]; rfl
theorem isc_no {x : Str} (h : (Txt.slice (bareBy lets1 (Txt.lstrip x)) none (some 1) != Str.ofString "") = false) : iscF x = false := by
  have h1 := slice1_nil.mp (by simpa using h)
  unfold iscF
  rw [bare_same, marks_first, h1]
theorem isc_yes {x : Str} (h : 0 < (bareBy lets1 (Txt.lstrip x)).length) : iscF x = !(occurrences (Str.ofString "#'\"") (Txt.item (bareBy lets1 (Txt.lstrip x)) 0) 0 (Str.ofString "#'\"").length 1).isEmpty := by
  unfold iscF
  rw [bare_same, marks_first]
  generalize bareBy lets1 (Txt.lstrip x) = y at h
  obtain ⟨c, hc, hx⟩ := item_at (x := y) (i := 0) (Int.le_refl _) (by omega)
  rw [hc, empty_one]
  have e : (Str.ofString "#'\"").cps.toList = [35, 39, 34] := by decide +kernel
  rw [e]
  cases hy : y.cps.toList with
  | nil => rw [hy] at hx; cases hx
  | cons k r =>
    rw [hy] at hx
    have : k = c := by simpa using hx
    subst this
    rw [Bool.eq_iff_iff]
    simp
    constructor
    · rintro ((h | h) | h)
      · exact .inr (.inl h)
      · exact .inr (.inr h)
      · exact .inl h
    · rintro (h | h | h)
      · exact .inr h
      · exact .inl (.inl h)
      · exact .inl (.inr h)
theorem slice1_len {y : Str} (h : (Txt.slice y none (some 1) != Str.ofString "") = true) : 0 < y.length := by
  have hx : y.length = y.cps.toList.length := (Array.length_toList).symm
  have hn : ¬ y.cps.toList = [] := fun e => (bne_iff_ne.mp h) (slice1_nil.mpr e)
  rw [hx]
  exact List.length_pos_iff.mpr hn
end Mine
namespace Mine
/-- the rows of a list of signs, their ends kept -/
def rowsK : List Nat → List Nat → List (List Nat)
  | cur, [] => if cur = [] then [] else [cur]
  | cur, c :: r => if c = 10 then (cur ++ [c]) :: rowsK [] r else rowsK (cur ++ [c]) r
theorem rowsK_free : ∀ (p cur rest : List Nat), 10 ∉ p → rowsK cur (p ++ rest) = rowsK (cur ++ p) rest
  | [], cur, rest, _ => by simp
  | c :: r, cur, rest, h => by
    have hc : ¬ c = 10 := fun e => h (e ▸ List.mem_cons_self ..)
    show (if c = 10 then _ else rowsK (cur ++ [c]) (r ++ rest)) = _
    rw [if_neg hc, rowsK_free r _ rest (fun m => h (List.mem_cons_of_mem _ m))]
    simp
/-- the law's rows -/
def splitRows (ps : List Str) (z : Str) : List Str := (ps.map fun p => p ++ Str.ofString "\n") ++ (if (z != Str.ofString "") = true then [z] else [])
theorem rowsK_split : ∀ (ps : List Str) (z : Str), (∀ p ∈ ps ++ [z], 10 ∉ p.cps.toList) → rowsK [] (Str.join ⟨#[10]⟩ (ps ++ [z])).cps.toList = (splitRows ps z).map fun y => y.cps.toList
  | [], z, h => by
    have e0 : (Str.ofString "").cps.toList = [] := by decide +kernel
    show rowsK [] z.cps.toList = _
    have h1 := rowsK_free z.cps.toList [] [] (h z (by simp))
    rw [List.append_nil, List.nil_append] at h1
    rw [h1]
    show (if z.cps.toList = [] then [] else [z.cps.toList]) = _
    unfold splitRows
    by_cases hz : z.cps.toList = []
    · have : z = Str.ofString "" := str_ext (by rw [hz, e0])
      subst this
      simp [e0]
    · have : (z != Str.ofString "") = true := by
        rw [bne_iff_ne]
        intro e
        rw [e, e0] at hz
        exact hz rfl
      simp [hz, this]
  | p :: r, z, h => by
    have ih := rowsK_split r z fun a ha => h a (by
      rw [List.cons_append]; exact List.mem_cons_of_mem _ ha)
    have e10 : Str.ofString "\n" = ⟨#[10]⟩ := by decide +kernel
    have hj : (Str.join ⟨#[10]⟩ (p :: (r ++ [z]))).cps.toList = p.cps.toList ++ 10 :: (Str.join ⟨#[10]⟩ (r ++ [z])).cps.toList := by
      cases hr : r ++ [z] with
      | nil => simp at hr
      | cons b t =>
        show (p ++ ⟨#[10]⟩ ++ Str.join ⟨#[10]⟩ (b :: t)).cps.toList = _
        simp only [Str.cps_append, Array.toList_append]
        simp
    rw [List.cons_append, hj, rowsK_free _ _ _ (h p (by simp)), List.nil_append]
    show (p.cps.toList ++ [10]) :: rowsK [] _ = _
    rw [ih]
    unfold splitRows
    rw [List.map_cons, List.cons_append, List.map_cons]
    congr 1
    rw [e10, Str.cps_append, Array.toList_append]
/-- the machine's rows -/
theorem lines_run (x : Str) (hb : ∀ c ∈ x.cps.toList, abOk c = true) : ∀ (m cur : Nat) (lines : Array (Nat × Nat × Nat)) (start : Nat), cur + m = x.length → start ≤ cur →
    (StrLaws.lsEnd x (Id.run (forIn (m := Id) (List.range' cur m) ((lines, start) : StrLaws.LsSt) (StrLaws.lsBody x)))).map (fun p => (strSub x p.1 p.2.2).cps.toList) = (lines.toList.map fun p => (strSub x p.1 p.2.2).cps.toList) ++ rowsK ((x.cps.toList.drop start).take (cur - start)) (x.cps.toList.drop cur)
  | 0, cur, lines, start, hm, hs => by
    have hx : x.length = x.cps.toList.length := (Array.length_toList).symm
    show (StrLaws.lsEnd x (lines, start)).map _ = _
    have e1 : x.cps.toList.drop cur = [] := List.drop_eq_nil_of_le (by omega)
    have e2 : (x.cps.toList.drop start).take (cur - start) = x.cps.toList.drop start := List.take_of_length_le (by rw [List.length_drop]; omega)
    rw [e1, e2]
    unfold StrLaws.lsEnd
    show List.map _ (if start < x.length then _ else _ : Array _).toList = _ ++ (if _ then [] else _)
    by_cases h : start < x.length
    · have hn : ¬ x.cps.toList.drop start = [] := fun e => by
        have := List.drop_eq_nil_iff.mp e
        omega
      rw [if_pos h, if_neg hn, Array.toList_push, List.map_append]
      congr 1
      show [(strSub x start x.length).cps.toList] = _
      rw [StrLaws.strSub_toList, List.take_of_length_le (by rw [List.length_drop]; omega)]
    · have hn : x.cps.toList.drop start = [] := List.drop_eq_nil_of_le (by omega)
      rw [if_neg h, if_pos hn, List.append_nil]
  | m + 1, cur, lines, start, hm, hs => by
    have hx : x.length = x.cps.toList.length := (Array.length_toList).symm
    rw [List.range'_succ, List.forIn_cons]
    have hlt : cur < x.cps.toList.length := by rw [← hx]; omega
    have hget : x.cps.getD cur 0 = x.cps.toList[cur] := by
      have : cur < x.cps.size := by rw [Array.length_toList] at hlt; exact hlt
      simp [Array.getD, this]
    have hc := hb _ (List.getElem_mem hlt)
    have hd : x.cps.toList.drop cur = x.cps.toList[cur] :: x.cps.toList.drop (cur + 1) := List.drop_eq_getElem_cons hlt
    have hlb : Unicode.isLineBreak (x.cps.getD cur 0) = decide (x.cps.getD cur 0 = 10) := by
      rw [hget]
      generalize x.cps.toList[cur] = c at hc
      unfold abOk at hc
      simp at hc
      rcases hc with (((rfl | rfl) | rfl) | rfl) | rfl <;> decide +kernel
    have h13 : StrLaws.lsNext x cur = cur + 1 := by
      unfold StrLaws.lsNext
      have : (x.cps.getD cur 0 == 13) = false := by
        rw [hget]
        generalize x.cps.toList[cur] = c at hc
        unfold abOk at hc
        simp at hc
        rcases hc with (((rfl | rfl) | rfl) | rfl) | rfl <;> decide +kernel
      rw [this]; rfl
    rw [hd]
    unfold StrLaws.lsBody
    have hsc : decide (start ≤ cur) = true := decide_eq_true hs
    rw [hlb, hsc, Bool.true_and, h13]
    show _ = _ ++ (if _ then _ else _)
    rw [← hget]
    have htk : (x.cps.toList.drop start).take (cur + 1 - start) = (x.cps.toList.drop start).take (cur - start) ++ [x.cps.getD cur 0] := by
      have e : cur + 1 - start = (cur - start) + 1 := by omega
      rw [e, List.take_add_one, List.getElem?_drop, hget]
      have e2 : start + (cur - start) = cur := by omega
      rw [e2, List.getElem?_eq_getElem hlt]
      rfl
    by_cases h : x.cps.getD cur 0 = 10
    · have ih := lines_run x hb m (cur + 1) (lines.push (start, cur, cur + 1)) (cur + 1) (by omega) (Nat.le_refl _)
      unfold StrLaws.lsBody at ih
      rw [if_pos h]
      simp only [h, decide_true, if_true]
      refine ih.trans ?_
      rw [Array.toList_push, List.map_append, Nat.sub_self, List.take_zero, List.append_assoc]
      congr 1
      show (strSub x start (cur + 1)).cps.toList :: rowsK [] _ = _
      rw [StrLaws.strSub_toList, htk, h]
    · have ih := lines_run x hb m (cur + 1) lines start (by omega) (by omega)
      unfold StrLaws.lsBody at ih
      rw [if_neg h]
      simp only [h, decide_false, Bool.false_eq_true, if_false]
      refine ih.trans ?_
      rw [htk]
theorem kept_list {x : Str} (h : TextOk x) : (keptRows x).map (fun z => z.cps.toList) = rowsK [] x.cps.toList := by
  unfold keptRows keptCuts
  rw [StrLaws.ls_eq, List.map_map, List.map_map]
  have := lines_run x h.2 x.length 0 #[] 0 (by omega) (Nat.le_refl _)
  simp only [List.drop_zero, List.take_zero, Nat.sub_self, List.map_nil, List.nil_append] at this
  exact this
theorem strs_ext : ∀ {a b : List Str}, a.map (fun z => z.cps.toList) = b.map (fun z => z.cps.toList) → a = b
  | [], [], _ => rfl
  | [], _ :: _, h => by simp at h
  | _ :: _, [], h => by simp at h
  | x :: r, y :: t, h => by
    rw [List.map_cons, List.map_cons] at h
    obtain ⟨h1, h2⟩ := List.cons.inj h
    rw [str_ext h1, strs_ext h2]
theorem kept_split {x : Str} (h : TextOk x) {ps : List Str} {z : Str} (e : Txt.split x (Str.ofString "\n") = ps ++ [z]) : keptRows x = splitRows ps z := by
  have e10 : Str.ofString "\n" = ⟨#[10]⟩ := by decide +kernel
  apply strs_ext
  rw [kept_list h]
  have hj := StrLaws.join_split x ⟨#[10]⟩
  have hf := StrLaws.split_free x 10
  rw [e10] at e
  rw [e] at hj hf
  rw [← rowsK_split ps z hf, hj]
end Mine
end
section
open PySem PySem.W PyProof.Rows PySem.Calls
namespace Mine
/-- what a def of the text that leaves the caller's objects alone promises of a call -/
def PCon (lv : Nat) (w : World) (p : Program) (loose : List Str) (mean : ExcName → Option Value) (mg mb : Str → Option Value) (f : Addr) (vs : List Value) (kw : List (Str × Value)) (Res : Value → Prop) : Prop :=
  ∀ (dp un : Nat) (gd : Option (List Code)) (cn : Str) (cs : Scope) (a : Addr) (ccd : Value) (cl : List (Str × Addr)) (outer : List Env) (A₀ : Around) (base h₀ : Heap) (L : Addr) (m : Str → Option Value) (s : Shared) (Q E : Value → Shared → Prop),
    Below A₀ base outer h₀ → Fr h₀ L s.heap m → (Mine.hd.heap_39 w.params).In h₀ → Top p loose mean mg mb h₀ → cs.kind = .function → dp + lv < recursionLimit → un + 500 * lv < cLine →
    (∀ r h' tk', Fr h₀ L h' m → (∀ b o, s.heap.get? b = some o → h'.get? b = some o) → Res r → Q r { s with heap := h', toks := tk' }) →
    wpAny (model PySem.Challenge.rw_at6012_01.row.prog w) (ktrTop dp un gd cn cs L a ccd cl outer) (call (.ref f) vs kw) Q E s

section
variable {prog : Program} {w : World} {A₀ A : Around} {s : Shared} {base h₀ : Heap} {outer : List Env} {L : Addr} {m : Str → Option Value} {env : Env}
/-- into a def that may turn the objects of the ledger alone -/
theorem enter_led {K : Frag} {p : Program} {loose : List Str} {mean : ExcName → Option Value} {mg mb : Str → Option Value} {R : Result → Shared → Prop} {name qual : Str} {params : Arguments} {body : List Stmt} {scope : Scope} {dV kV doc pm cdv ct oc : Value} {an od : Option Addr} {osl : Array (Option Value)} {f : Addr} {args : Args} {binds : List (Str × Value)} (news : List (Addr × Obj))
    (B : Below A₀ base outer h₀) (F : Fr h₀ L s.heap m) (X₀ : K.In h₀) (N : News h₀ L s.heap news) (T : Top p loose mean mg mb h₀) (hA : A.frames = some (env :: outer)) (hf : env.frame = some L) (hke : env.scope.kind = .function)
    (ho : K.lookup f = some ⟨oc, od, .func (fnOf name qual params body scope dV kV doc pm an cdv ct), osl⟩) (hcd : codeIn K cdv qual = true) (hroom : A.depth < recursionLimit)
    (hbind : BindsTo s (fnOf name qual params body scope dV kV doc pm an cdv ct) args binds) (hloc : ∀ y ∈ binds, scope.names.lookup y.1 = some .local)
    (h : ∀ g L' h₁, Fr h₀ L g m → Fr g L' h₁ (fun y => binds.reverse.lookup y) → News g L' h₁ news → Below A base (env :: outer) g → K.In g → Top p loose mean mg mb g →
      wpAny (model prog w) (A.deeper (envOf qual scope L' f cdv)) (execs body (envOf qual scope L' f cdv))
        (fun fl s' => LeaveK h₀ L m g (fun r s'' => (∀ b o, b ∉ news.map (·.1) → s.heap.get? b = some o → s''.heap.get? b = some o) → R r s'') (match fl with | .ret v => v | _ => .none) s')
        (fun e s' => wpAny (model prog w) (A.deeper (envOf qual scope L' f cdv)) (leaving (envOf qual scope L' f cdv) e) (fun _ s'' => R (.error e) s'') (fun e' s'' => R (.error e') s'') s')
        { s with heap := h₁, toks := s.toks + binds.length })
    (hco : scope.isCoroutine = false) (hgen : scope.isGenerator = false) (hk : scope.kind = .function)
    (hcell : ∀ x ∈ scope.names, x.2 ≠ .cell) : codeAny (model prog w) A (.call (.ref f) args) R s := by
  refine code_defG (news := news) B F X₀ N T hA hf hke ho hcd hroom hbind hloc (fun g L' h₁ FG F' N' B' X' T' G => wpAny_mono (h g L' h₁ FG F' N' B' X' T') (fun fl s' hl => ?_) fun _ _ y => y) hco hgen hk hcell
  obtain ⟨L₂, m', news', F₂, N₂, k⟩ := hl
  exact ⟨L₂, m', news', F₂, N₂, fun a b => k a b fun b o hb e => F₂.keep b o (G b o e hb)⟩
theorem enter_new {K : Frag} {p : Program} {loose : List Str} {mean : ExcName → Option Value} {mg mb : Str → Option Value} {R : Result → Shared → Prop} {name qual : Str} {params : Arguments} {body : List Stmt} {scope : Scope} {dV kV doc pm cdv ct oc : Value} {an od : Option Addr} {osl : Array (Option Value)} {f : Addr} {args : Args} {binds : List (Str × Value)}
    (B : Below A₀ base outer h₀) (F : Fr h₀ L s.heap m) (X₀ : K.In h₀) (T : Top p loose mean mg mb h₀) (hA : A.frames = some (env :: outer)) (hf : env.frame = some L) (hke : env.scope.kind = .function)
    (ho : K.lookup f = some ⟨oc, od, .func (fnOf name qual params body scope dV kV doc pm an cdv ct), osl⟩) (hcd : codeIn K cdv qual = true) (hroom : A.depth < recursionLimit)
    (hbind : BindsTo s (fnOf name qual params body scope dV kV doc pm an cdv ct) args binds) (hloc : ∀ y ∈ binds, scope.names.lookup y.1 = some .local)
    (h : ∀ g L' h₁, Fr h₀ L g m → Fr g L' h₁ (fun y => binds.reverse.lookup y) → News g L' h₁ [] → Below A base (env :: outer) g → K.In g → Top p loose mean mg mb g → (∀ b o, s.heap.get? b = some o → g.get? b = some o) →
      wpAny (model prog w) (A.deeper (envOf qual scope L' f cdv)) (execs body (envOf qual scope L' f cdv))
        (fun fl s' => LeaveK h₀ L m g (fun r s'' => (∀ b o, s.heap.get? b = some o → s''.heap.get? b = some o) → R r s'') (match fl with | .ret v => v | _ => .none) s')
        (fun e s' => wpAny (model prog w) (A.deeper (envOf qual scope L' f cdv)) (leaving (envOf qual scope L' f cdv) e) (fun _ s'' => R (.error e) s'') (fun e' s'' => R (.error e') s'') s')
        { s with heap := h₁, toks := s.toks + binds.length })
    (hco : scope.isCoroutine = false) (hgen : scope.isGenerator = false) (hk : scope.kind = .function)
    (hcell : ∀ x ∈ scope.names, x.2 ≠ .cell) : codeAny (model prog w) A (.call (.ref f) args) R s := by
  refine code_defG (news := []) B F X₀ News.nil T hA hf hke ho hcd hroom hbind hloc (fun g L' h₁ FG F' N' B' X' T' G => wpAny_mono (h g L' h₁ FG F' N' B' X' T' (fun b o e => G b o e (by simp))) (fun fl s' hl => ?_) fun _ _ y => y) hco hgen hk hcell
  obtain ⟨L₂, m', news', F₂, N₂, k⟩ := hl
  exact ⟨L₂, m', news', F₂, N₂, fun a b => k a b fun b o e => F₂.keep b o (G b o e (by simp))⟩
theorem enter_pure {K : Frag} {p : Program} {loose : List Str} {mean : ExcName → Option Value} {mg mb : Str → Option Value} {R : Result → Shared → Prop} {name qual : Str} {params : Arguments} {body : List Stmt} {scope : Scope} {dV kV doc pm cdv ct oc : Value} {an od : Option Addr} {osl : Array (Option Value)} {f : Addr} {args : Args} {binds : List (Str × Value)}
    (B : Below A₀ base outer h₀) (F : Fr h₀ L s.heap m) (X₀ : K.In h₀) (T : Top p loose mean mg mb h₀) (hA : A.frames = some (env :: outer)) (hf : env.frame = some L) (hke : env.scope.kind = .function)
    (ho : K.lookup f = some ⟨oc, od, .func (fnOf name qual params body scope dV kV doc pm an cdv ct), osl⟩) (hcd : codeIn K cdv qual = true) (hroom : A.depth < recursionLimit)
    (hbind : BindsTo s (fnOf name qual params body scope dV kV doc pm an cdv ct) args binds) (hloc : ∀ y ∈ binds, scope.names.lookup y.1 = some .local)
    (h : ∀ g L' h₁, Fr h₀ L g m → Fr g L' h₁ (fun y => binds.reverse.lookup y) → News g L' h₁ [] → Below A base (env :: outer) g → K.In g → Top p loose mean mg mb g →
      wpAny (model prog w) (A.deeper (envOf qual scope L' f cdv)) (execs body (envOf qual scope L' f cdv))
        (fun fl s' => LeaveK h₀ L m g (fun r s'' => (∀ b o, s.heap.get? b = some o → s''.heap.get? b = some o) → R r s'') (match fl with | .ret v => v | _ => .none) s')
        (fun e s' => wpAny (model prog w) (A.deeper (envOf qual scope L' f cdv)) (leaving (envOf qual scope L' f cdv) e) (fun _ s'' => R (.error e) s'') (fun e' s'' => R (.error e') s'') s')
        { s with heap := h₁, toks := s.toks + binds.length })
    (hco : scope.isCoroutine = false) (hgen : scope.isGenerator = false) (hk : scope.kind = .function)
    (hcell : ∀ x ∈ scope.names, x.2 ≠ .cell) : codeAny (model prog w) A (.call (.ref f) args) R s := by
  refine enter_led [] B F X₀ News.nil T hA hf hke ho hcd hroom hbind hloc (fun g L' h₁ FG F' N' B' X' T' => wpAny_mono (h g L' h₁ FG F' N' B' X' T') (fun fl s' hl => ?_) fun _ _ y => y) hco hgen hk hcell
  obtain ⟨L₂, m', news', F₂, N₂, k⟩ := hl
  exact ⟨L₂, m', news', F₂, N₂, fun a b c => k a b fun b o e => c b o (by simp) e⟩
end
theorem replace_toks {prog : Program} {w : World} {A : Around} {E : Value → Shared → Prop} {s : Shared} {x y z : Str} {t u v : Tok} {Q : Value → Shared → Prop} (hn : 1 ≤ s.toks) (hu : @Ne Nat u 0) (hv : @Ne Nat v 0) (huv : @Ne Nat u v) (hyz : (y == z) = false) (hx : x.length ≤ 1048576) (hy : y.length = 1) (hz : z.length = 0)
    (hq : ∀ t' k, 1 ≤ k → (Txt.replace x y z).length ≤ x.length → Q (.str (Txt.replace x y z) t') { s with toks := k }) : wpAny (model prog w) A (call (.builtin "str.replace") [.str x t, .str y u, .str z v]) Q E s :=
  wpAny_with_toks hn (SC.replaceW hu hv huv hyz hx (by omega) fun t' k hk => hq t' k hk (strike_len hy hz))
theorem gen_toks {α : Type} {M : Model} {A : Around} {t : Sem α} {Q : α → Shared → Prop} {E : Value → Shared → Prop} {h : Heap} {g : Array GenState} {d : Drawn} {tk : Nat} {os : OsState} (n : Nat) (hn : n ≤ tk)
    (h' : ∀ T, n ≤ T → wpAny M A t Q E ⟨h, g, d, T, os⟩) : wpAny M A t Q E ⟨h, g, d, tk, os⟩ := h' tk hn
/-- PCon of a call that asks something of the state -/
def PConS (lv : Nat) (Pre : Shared → Prop) (w : World) (p : Program) (loose : List Str) (mean : ExcName → Option Value) (mg mb : Str → Option Value) (f : Addr) (vs : List Value) (kw : List (Str × Value)) (Res : Value → Prop) : Prop :=
  ∀ (dp un : Nat) (gd : Option (List Code)) (cn : Str) (cs : Scope) (a : Addr) (ccd : Value) (cl : List (Str × Addr)) (outer : List Env) (A₀ : Around) (base h₀ : Heap) (L : Addr) (m : Str → Option Value) (s : Shared) (Q E : Value → Shared → Prop),
    Pre s → Below A₀ base outer h₀ → Fr h₀ L s.heap m → (Mine.hd.heap_39 w.params).In h₀ → Top p loose mean mg mb h₀ → cs.kind = .function → dp + lv < recursionLimit → un + 500 * lv < cLine →
    (∀ r h' tk', Fr h₀ L h' m → (∀ b o, s.heap.get? b = some o → h'.get? b = some o) → Res r → Q r { s with heap := h', toks := tk' }) →
    wpAny (model PySem.Challenge.rw_at6012_01.row.prog w) (ktrTop dp un gd cn cs L a ccd cl outer) (call (.ref f) vs kw) Q E s
theorem strip_toks {prog : Program} {w : World} {A : Around} {E : Value → Shared → Prop} {s : Shared} {x : Str} {t : Tok} {n : Nat} {Q : Value → Shared → Prop} (hn : n ≤ s.toks) (hx : x.length ≤ 1048576)
    (hq : ∀ t' k, n ≤ k → Q (.str (Txt.strip x) t') { s with toks := k }) : wpAny (model prog w) A (call (.builtin "str.strip") [.str x t]) Q E s :=
  wpAny_with_toks hn (SC.strip (fun t' k hk => hq t' k hk) (by rw [sizeLine_eq]; omega))
/-- a def that may turn the objects of the ledger news alone: what a call promises -/
def LCon (lv : Nat) (w : World) (p : Program) (loose : List Str) (mean : ExcName → Option Value) (mg mb : Str → Option Value) (f : Addr) (vs : List Value) (news : List (Addr × Obj)) (Res : Value → List (Addr × Obj) → Prop) : Prop :=
  ∀ (dp un : Nat) (gd : Option (List Code)) (cn : Str) (cs : Scope) (a : Addr) (ccd : Value) (cl : List (Str × Addr)) (outer : List Env) (A₀ : Around) (base h₀ : Heap) (L : Addr) (m : Str → Option Value) (s : Shared) (Q E : Value → Shared → Prop),
    Below A₀ base outer h₀ → Fr h₀ L s.heap m → (Mine.hd.heap_39 w.params).In h₀ → News h₀ L s.heap news → Top p loose mean mg mb h₀ → cs.kind = .function → dp + lv < recursionLimit → un + 500 * lv < cLine →
    (∀ r news' h' tk', Fr h₀ L h' m → News h₀ L h' news' → (∀ b o, b ∉ news.map (·.1) → s.heap.get? b = some o → h'.get? b = some o) → Res r news' → Q r { s with heap := h', toks := tk' }) →
    wpAny (model PySem.Challenge.rw_at6012_01.row.prog w) (ktrTop dp un gd cn cs L a ccd cl outer) (call (.ref f) vs) Q E s
/-- the law's draw: a list of a list of ints and a seed -/
def DrawIs (l : Addr) (od ol : Obj) : Prop :=
  ∃ (seed : Int) (ts : Tok) (n : Nat) (vs : List Value) (ns : List Int) (k : Nat), od = W.listOf #[.ref l, .int seed ts] n ∧ ol = W.listOf vs.toArray k ∧ IntsAre vs ns ∧ ns.length ≤ 63 ∧ 0 ≤ seed ∧ seed < 2147483647
theorem fmod_in (x : Int) {m : Int} (h : 0 < m) : 0 ≤ x.fmod m ∧ x.fmod m < m := ⟨Int.fmod_nonneg_of_pos _ h, Int.fmod_lt_of_pos _ h⟩
/-- a goal that the walk leaves to me -/
def Stop (P : Prop) : Prop := P
theorem stop {P : Prop} (h : Stop P) : P := h
theorem Stop.out {P : Prop} (h : P) : Stop P := h
end Mine
end
section
open PySem PySem.W PyProof.Rows PySem.Calls
namespace Mine
section
variable {prog : Program} {w : World} {A : Around} {E : Value → Shared → Prop} {s : Shared}
theorem starts_tree {M : Model} {a : Addr} {items : Array Value} {ys : List Str} {x : Str} {t : Tok} {P : Fin → Shared → Prop} (ht : IsTup s.heap a items) (hi : StrsAre items.toList ys)
    (h : P (.done (.ret (.bool (ys.any fun y => Txt.startswith x y)))) s) : wpAny M A (Builtin.«str.startswith» ⟨[.str x t, .ref a], []⟩) P E s := by
  obtain ⟨o, ho, hc, n, hd⟩ := id ht
  show wpAny _ _ (asStr? (.ref a) >>= fun r => _) _ _ s
  refine wpAny_bind ?_
  show wpAny _ _ (load a >>= fun o => _) _ _ s
  refine wpAny_bind (wpAny_load ho ?_)
  rw [hd]
  refine wpAny_pure ?_
  show wpAny _ _ (isInstance (.ref a) (.type "tuple") >>= fun r => _) _ _ s
  refine wpAny_bind (wpAny_isInstance (T := "tuple") ht.typeIs rfl ?_)
  show wpAny _ _ (rule _ >>= fun r => _) _ _ s
  refine wpAny_bind (wpAny_rule ?_)
  show wpAny _ _ (seqItems? (.ref a) >>= fun r => _) _ _ s
  refine wpAny_bind (wpAny_seqItems ho hd ?_)
  refine wpAny_bind (forIn_array_ _ (fun rest b s' => b.1 = none ∧ s' = s ∧ ∃ ms, StrsAre rest ms ∧ P (.done (.ret (.bool (ms.any fun y => Txt.startswith x y)))) s) _ ?_ ?_ items _ ⟨rfl, rfl, ys, hi, h⟩)
  · rintro y rest b s' ⟨hb, rfl, ms, hm, hP⟩
    cases hm with
    | cons n tk hm' =>
      refine wpAny_bind (wpAny_pure ?_)
      rw [List.any_cons] at hP
      have hT : Txt.startswith x n = (decide (0 + n.length ≤ min x.length x.length) && Builtin.Str.subAt x n 0) := by rw [Nat.min_self]; rfl
      cases hnx : Txt.startswith x n with
      | true =>
        rw [hnx] at hP hT
        show wpAny _ _ (if (decide (0 + n.length ≤ min x.length x.length) && Builtin.Str.subAt x n 0) = true then _ else _) _ _ _
        rw [← hT]
        exact wpAny_bind (wpAny_pure (wpAny_pure (wpAny_pure (by simpa using hP))))
      | false =>
        rw [hnx] at hP hT
        show wpAny _ _ (if (decide (0 + n.length ≤ min x.length x.length) && Builtin.Str.subAt x n 0) = true then _ else _) _ _ _
        rw [← hT]
        exact wpAny_pure ⟨rfl, rfl, _, hm', by simpa using hP⟩
  · rintro ⟨b1, b2⟩ s' ⟨hb, rfl, ms, hm, hP⟩
    cases hm
    simp only at hb
    subst hb
    exact wpAny_pure (by simpa using hP)
theorem starts_tuple {a : Addr} {items : Array Value} {ys : List Str} {x : Str} {t : Tok} {Q : Value → Shared → Prop} (ht : IsTup s.heap a items) (hi : StrsAre items.toList ys)
    (h : Q (.bool (ys.any fun y => Txt.startswith x y)) s) : wpAny (model prog w) A (call (.builtin "str.startswith") [.str x t, .ref a]) Q E s :=
  wpAny_call (codeAny_call_builtin F.slot_str_startswith.plain F.entry_str_startswith (F.slot_str_startswith.check _ _ _ _ _ _ _ _ (typeIs_str _ _ _) (F.args_str_startswith_2 _ _)
    (starts_tree ht hi h)))
theorem pop0_led {h₀ : Heap} {L D : Addr} {m : Str → Option Value} {news news' : List (Addr × Obj)} {v : Value} {vs : List Value} {n : Nat} {u : Tok} {Q : Value → Shared → Prop} (F : Fr h₀ L s.heap m) (N : News h₀ L s.heap news)
    (U : Upd D (W.listOf (v :: vs).toArray n) (W.listOf vs.toArray (n + 1)) news news') (hz : vs.length ≤ 1000) (h : ∀ h', Fr h₀ L h' m → News h₀ L h' news' → Q v { s with heap := h' }) :
    wpAny (model prog w) A (call (.builtin "list.pop") [.ref D, .int 0 u]) Q E s :=
  kl_popAt (k := 0) (p := []) (q := vs) (y := v) F N rfl (by simp [seqIndex?]) rfl U (by rw [sizeLine_eq]; simp; omega) h
end
end Mine
end
section
open PySem PySem.W PyProof.Rows PySem.Calls PySem.Spec
namespace Mine
section
variable {prog : Program} {w : World} {A : Around} {s : Shared} {h₀ : Heap} {L : Addr} {m : Str → Option Value} {env : Env} {elt : Expr} {x : Str} {scope : Scope} {cl : List (Str × Addr)} {S : List (Addr × Obj) → Prop} {P : Nat → Value → Prop} {Fin : List Value → List (Addr × Obj) → Prop}
/-- a list comprehension by what holds of it after i turns -/
theorem comp_inv (Inv : Nat → List Value → List (Addr × Obj) → Prop) (n : Nat)
    (step : ∀ i ys news v I oI C oC D m₂ h tk (E' : Value → Shared → Prop), i < n → Inv i ys news → P i v → LCg.NsObj oC m₂ → m₂ x = some v → Fr h₀ L h m → News h₀ L h ((I, oI) :: (C, oC) :: (D, LCg.lst ys) :: news) → LCg.Off3 I C D news → ((@Ne Nat I C) ∧ (@Ne Nat I D) ∧ (@Ne Nat C D)) →
      wpAny (model prog w) A (eval elt (compEnvC scope cl C env)) (LCg.CompEnd h₀ L m { s with heap := h, toks := tk } I oI C oC D (LCg.lst ys) S (fun y news' => Inv (i + 1) (ys ++ [y]) news')) E' { s with heap := h, toks := tk })
    (fin : ∀ ys news, Inv n ys news → Fin ys news) : ∀ (k i : Nat) (ys : List Value) (news : List (Addr × Obj)), i + k = n → Inv i ys news → LCg.CompRest prog w A h₀ L m env elt x scope cl s S P Fin k i ys news := by
  intro k
  induction k with
  | zero => intro i ys news e hI; obtain rfl : i = n := by omega
            exact LCg.CompRest.zero (fin ys news hI)
  | succ k ih =>
    intro i ys news e hI
    refine LCg.CompRest.succ fun v I oI C oC D m₂ h tk E' hP hC hx F N off ne => ?_
    refine wpAny_mono (step i ys news v I oI C oC D m₂ h tk E' (by omega) hI hP hC hx F N off ne) (fun y s' he => ?_) fun _ _ e => e
    obtain ⟨h', tk', news', e1, F', N', off', hS, r⟩ := he
    exact ⟨h', tk', news', e1, F', N', off', hS, ih (i + 1) (ys ++ [y]) news' (by omega) r⟩
end
theorem ints_snoc {vs : List Value} {ns : List Int} {i : Int} {t : Tok} (h : IntsAre vs ns) : IntsAre (vs ++ [.int i t]) (ns ++ [i]) := by
  induction h with
  | nil => exact .cons i t .nil
  | cons k u _ ih => exact .cons k u ih
theorem ints_take {vs : List Value} {ns : List Int} (h : IntsAre vs ns) : ∀ k, IntsAre (vs.take k) (ns.take k) := by
  induction h with
  | nil => intro k; simp; exact .nil
  | cons i t _ ih =>
    intro k
    cases k with
    | zero => exact .nil
    | succ k => exact .cons i t (ih k)
theorem news_two {h₀ h : Heap} {L : Addr} {a b : Addr × Obj} {r : List (Addr × Obj)} (N : News h₀ L h (a :: b :: r)) : News h₀ L h [a, b] := fun p hp => N p (by
  rcases List.mem_cons.mp hp with rfl | hp
  · exact .head _
  · rw [List.mem_singleton.mp hp]; exact .tail _ (.head _))
theorem fresh_of {hs g h : Heap} {L : Addr} {news : List (Addr × Obj)} {a : Addr} {o : Obj} (G : ∀ b o, hs.get? b = some o → g.get? b = some o) (N : News g L h news) (hm : (a, o) ∈ news) : hs.get? a = none := by
  cases e : hs.get? a with
  | none => rfl
  | some x => have := (N _ hm).2.2; rw [G _ _ e] at this; cases this
end Mine
end
section
open PySem PySem.W PyProof.Rows PySem.Calls PySem.Spec
namespace Mine
section
variable {prog : Program} {w : World} {A₀ A : Around} {s : Shared} {base h₀ : Heap} {outer : List Env} {L : Addr} {m : Str → Option Value} {env : Env}
/-- into a def one of whose names is kept in a cell: it may turn the objects of the ledger alone -/
theorem enter_cells {K : Frag} {p : Program} {loose : List Str} {mean : ExcName → Option Value} {mg mb : Str → Option Value} {R : Result → Shared → Prop} {name qual : Str} {params : Arguments} {body : List Stmt} {scope : Scope} {dV kV doc pm cdv ct oc : Value} {an od : Option Addr} {osl : Array (Option Value)} {f : Addr} {args : Args} {binds : List (Str × Value)} (news : List (Addr × Obj))
    (B : Below A₀ base outer h₀) (F : Fr h₀ L s.heap m) (X₀ : K.In h₀) (N : News h₀ L s.heap news) (T : Top p loose mean mg mb h₀) (hA : A.frames = some (env :: outer)) (hf : env.frame = some L) (hke : env.scope.kind = .function)
    (ho : K.lookup f = some ⟨oc, od, .func (fnOf name qual params body scope dV kV doc pm an cdv ct), osl⟩) (hcd : codeIn K cdv qual = true) (hroom : A.depth < recursionLimit)
    (hbind : BindsTo s (fnOf name qual params body scope dV kV doc pm an cdv ct) args binds) (hkind : (binds.all fun y => scope.names.lookup y.1 == some .local || scope.names.lookup y.1 == some .cell) = true)
    (hnd : ((cellsFrom 0 scope.names []).map (·.1)).Nodup)
    (h : ∀ g L' h₁ tk cells, Fr h₀ L g m → Fr g L' h₁ (bindL (envOfC qual scope L' f cdv).kindOf binds fun _ => none) → News g L' h₁ (cells ++ news) →
      CellsAre (bindC (envOfC qual scope L' f cdv).kindOf binds fun _ => none) (cellsFrom (L' + 1) scope.names []) cells → Below A base (env :: outer) g → K.In g → Top p loose mean mg mb g → (∀ p ∈ news, p.1 < L') → (∀ b o, s.heap.get? b = some o → b ∉ news.map (·.1) → g.get? b = some o) →
      wpAny (model prog w) (A.deeper (envOfC qual scope L' f cdv)) (execs body (envOfC qual scope L' f cdv))
        (fun fl s' => LeaveK h₀ L m g (fun r s'' => (∀ b o, b ∉ news.map (·.1) → s.heap.get? b = some o → s''.heap.get? b = some o) → R r s'') (match fl with | .ret v => v | _ => .none) s')
        (fun e s' => wpAny (model prog w) (A.deeper (envOfC qual scope L' f cdv)) (leaving (envOfC qual scope L' f cdv) e) (fun _ s'' => R (.error e) s'') (fun e' s'' => R (.error e') s'') s')
        { s with heap := h₁, toks := tk })
    (hco : scope.isCoroutine = false) (hgen : scope.isGenerator = false) (hk : scope.kind = .function) : codeAny (model prog w) A (.call (.ref f) args) R s := by
  obtain ⟨FG, BG, st, lv⟩ := groundX (R := R) B F N hA hf hke
  refine codeAny_call_function (fd := fnX name qual params body scope [] dV kV doc pm an cdv ct) hroom ((X₀.keeps F.keep) _ _ ho) rfl hco hgen rfl (codeRec_of (X₀.keeps F.keep) hcd) (hbind _ _ _ _ ?_)
  refine wpAny_newFunctionEnv_cells hk (kindsX hkind _) fun env' he s' x => ?_
  subst he
  have hk₁ := x.toInCall.keep
  refine ⟨(T.nolimit.keeps F.keep).keeps hk₁, codeAny_func ?_⟩
  obtain ⟨h₁, tk, rfl, _⟩ := x.done
  obtain ⟨cells, NC, Y⟩ := Cl.news (h₀ := s.heap) (Nat.le_refl _) fun n c hm => ⟨x.cell n c (lookup_of_mem_nodup (cellsFrom_names scope.names 0 (s.heap.objs.size + 1) [] [] rfl ▸ hnd) hm), x.above n c hm⟩
  refine wpAny_mono (h _ s.heap.objs.size h₁ tk cells FG ⟨x.toInCall.ns, fun b o e => hk₁ b o (of_hideAll _ e), Nat.le_of_eq (hideAll_size _ _)⟩ (fun p hp => ?_) Y BG (X₀.keeps st) (T.keeps st) (fun p hp => Heap.lt_size (N p hp).1) (fun b o e n => hideAll_get _ e n)) (fun fl s' hl => ?_) fun _ _ y => y
  · rcases List.mem_append.mp hp with hp | hp
    · refine ⟨(NC p hp).1, (NC p hp).2.1, ?_⟩
      cases q : (hideAll s.heap (news.map (·.1))).get? p.1 with
      | none => rfl
      | some o => have := of_hideAll _ q; rw [(NC p hp).2.2] at this; cases this
    · exact ⟨hk₁ _ _ (N p hp).1, Nat.ne_of_lt (Heap.lt_size (N p hp).1), hideAll_none _ (List.mem_map_of_mem hp)⟩
  · obtain ⟨L₂, m', news', F₂, N₂, k⟩ := hl
    exact lv _ _ ⟨L₂, m', news', F₂, N₂, fun a b => k a b fun b o hb e => F₂.keep b o (hideAll_get _ e hb)⟩
end
/-- the rest of a ledger behind a call that turned d and l alone -/
theorem led_back {h₀ h h' : Heap} {L d l : Addr} {od' ol' : Obj} {rest : List (Addr × Obj)} (N : News h₀ L h rest) (N' : News h₀ L h' [(d, od'), (l, ol')]) (k : ∀ b o, b ∉ [d, l] → h.get? b = some o → h'.get? b = some o)
    (off : ∀ p ∈ rest, @Ne Nat p.1 d ∧ @Ne Nat p.1 l) : News h₀ L h' (rest ++ [(d, od'), (l, ol')]) := fun p hp => by
  rcases List.mem_append.mp hp with hp | hp
  · refine ⟨k _ _ ?_ (N p hp).1, (N p hp).2⟩
    intro hm
    rcases List.mem_cons.mp hm with e | hm
    · exact (off p hp).1 e
    · exact (off p hp).2 (List.mem_singleton.mp hm)
  · exact N' p hp
theorem upd_mem {d : Addr} {o o' : Obj} {l l' : List (Addr × Obj)} (U : Upd d o o' l l') : (d, o) ∈ l ∧ ∀ p ∈ l', p = (d, o') ∨ (p ∈ l ∧ @Ne Nat p.1 d) := by
  induction U with
  | head h =>
    refine ⟨.head _, fun p hp => ?_⟩
    rcases List.mem_cons.mp hp with rfl | hp
    · exact .inl rfl
    · exact .inr ⟨.tail _ hp, h p hp⟩
  | tail h _ ih =>
    refine ⟨.tail _ ih.1, fun p hp => ?_⟩
    rcases List.mem_cons.mp hp with rfl | hp
    · exact .inr ⟨.head _, h⟩
    · exact (ih.2 p hp).imp id fun q => ⟨.tail _ q.1, q.2⟩
theorem led_upd {P : Prop} {h₀ h h' : Heap} {L d l : Addr} {od ol od' ol' : Obj} {news n1 n2 : List (Addr × Obj)} (N : News h₀ L h news) (U1 : Upd d od od' news n1) (U2 : Upd l ol ol' n1 n2) (N' : News h₀ L h' [(d, od'), (l, ol')])
    (k : ∀ b o, b ∉ [d, l] → h.get? b = some o → h'.get? b = some o) (f : News h₀ L h' n2 → P) : P := f fun p hp => by
  rcases (upd_mem U2).2 p hp with rfl | ⟨hp, hl⟩
  · exact N' _ (.tail _ (.head _))
  · rcases (upd_mem U1).2 p hp with rfl | ⟨hp, hd⟩
    · exact N' _ (.head _)
    · refine ⟨k _ _ ?_ (N p hp).1, (N p hp).2⟩
      intro hm
      rcases List.mem_cons.mp hm with e | hm
      · exact hd e
      · exact hl (List.mem_singleton.mp hm)
end Mine
namespace Mine
open LCg
theorem small_range (i : Int) (h0 : 0 ≤ i) (h1 : i < 100) : Builtin.Range.small 0 i 1 = true := small_one (by decide) (by decide) (by omega) (by omega)
theorem src_range {prog : Program} {w : World} {A : Around} {h₀ : Heap} {L : Addr} {m : Str → Option Value} {env : Env} {elt : Expr} {x : Str} {scope : Scope} {cl : List (Str × Addr)} {Fin : Shared → List Value → List (Addr × Obj) → Prop} {r : Addr} {i : Int} {t u v : Tok} {news : List (Addr × Obj)} {s₁ : Shared}
    (h0 : 0 ≤ i) (h1 : i < 100) (hh : A.handled = none) (F : Fr h₀ L s₁.heap m) (N : News h₀ L s₁.heap news) (hr : IsRange s₁.heap r 0 i 1 t u v)
    (h : ∀ (n : Nat) g, (n : Int) = i → CompRest prog w A h₀ L m env elt x scope cl { s₁ with heap := g } (fun _ => True) (fun j v => ∃ t, v = .int (0 + (j : Int)) t) (Fin { s₁ with heap := g }) n 0 [] news) :
    CompSrc prog w A h₀ L m env elt x scope cl Fin (.ref r) s₁ :=
  CompSrc.range (n := i.toNat) hh F N hr (small_range i h0 h1) (by rw [rangeSize_nat]; omega) (by rw [sizeLine_eq]; omega) fun g => h _ g (by omega)
end Mine
namespace Mine
theorem app_led {prog : Program} {w : World} {A : Around} {E : Value → Shared → Prop} {s : Shared} {h₀ : Heap} {L D : Addr} {m : Str → Option Value} {own : List (Addr × Obj)} {its : List Value} {n : Nat} {x : Value} {Q : Value → Shared → Prop} (F : Fr h₀ L s.heap m) (N : News h₀ L s.heap ((D, W.listOf its.toArray n) :: own))
    (off : ∀ p ∈ own, @Ne Nat p.1 D) (hsz : its.length ≤ 3000000) (h : ∀ h', Fr h₀ L h' m → News h₀ L h' ((D, W.listOf (its ++ [x]).toArray (n + 1)) :: own) → Q .none { s with heap := h' }) :
    wpAny (model prog w) A (call (.builtin "list.append") [.ref D, x]) Q E s := by
  refine append_K (its := its.toArray) F N (Upd.head off) (fun h' F' N' => h h' F' ?_) (by rw [sizeLine_eq, List.size_toArray]; omega)
  rw [List.push_toArray] at N'
  exact N'
end Mine
namespace Mine
section
variable {prog : Program} {w : World} {A : Around} {E : Value → Shared → Prop} {s : Shared} {h₀ : Heap} {L D : Addr} {m : Str → Option Value} {own : List (Addr × Obj)} {ws : List Value} {v : Value} {n : Nat} {u : Tok} {Q : Value → Shared → Prop}
theorem cut_end (v : Value) : ∀ ws : List Value, kl_cut (ws ++ [v]) ws.length = some (ws, v, [])
  | [] => rfl
  | x :: r => by
    show (match kl_cut (r ++ [v]) r.length with | some (p, y, q) => some (x :: p, y, q) | none => none) = _
    rw [cut_end v r]
theorem last_end (v : Value) : ∀ ws : List Value, kl_last (ws ++ [v]) = some (ws, v)
  | [] => rfl
  | x :: r => by
    show (match kl_last (r ++ [v]) with | some (p, y) => some (x :: p, y) | none => some ([], x)) = _
    rw [last_end v r]
theorem seq_last (k : Nat) : seqIndex? (-1) (k + 1) = some k := by
  have h : (if (-1 : Int) < 0 then (-1 : Int) + ((k + 1 : Nat) : Int) else -1) = (k : Int) := by rw [if_pos (by decide)]; omega
  unfold seqIndex?
  simp only [h]
  rw [if_pos (by simp; omega)]
  simp
theorem last_item {value slice : Expr} (hl : s.heap.IsList D (ws ++ [v]).toArray) (h : Q v s)
    (hs : subscripted slice false (.ref D) (.int (-1) u) = operate [.ref D, .int (-1) u] (getItem (.ref D) (.int (-1) u)) := by with_unfolding_all rfl) :
    wpAny (model prog w) A (subscriptTail value slice (.ref D) (.int (-1) u)) Q E s :=
  kde_neg (j := ws.length) hl (by decide) (by decide) (by rw [List.length_append]; exact seq_last _) (by simp) h hs
theorem pop_last (F : Fr h₀ L s.heap m) (N : News h₀ L s.heap ((D, W.listOf (ws ++ [v]).toArray n) :: own)) (off : ∀ p ∈ own, @Ne Nat p.1 D) (hz : ws.length ≤ 3000000)
    (h : ∀ h', Fr h₀ L h' m → News h₀ L h' ((D, W.listOf ws.toArray (n + 1)) :: own) → Q v { s with heap := h' }) : wpAny (model prog w) A (call (.builtin "list.pop") [.ref D, .int (-1) u]) Q E s := by
  refine kl_popAt (n := n) (k := ws.length) (p := ws) (q := []) (y := v) F N rfl ?_ (cut_end v ws) ?_ (by rw [sizeLine_eq]; simp; omega) h
  · rw [List.size_toArray, List.length_append]; exact seq_last _
  · rw [List.append_nil]; exact Upd.head off
theorem pop_last0 (F : Fr h₀ L s.heap m) (N : News h₀ L s.heap ((D, W.listOf (ws ++ [v]).toArray n) :: own)) (off : ∀ p ∈ own, @Ne Nat p.1 D) (hz : ws.length ≤ 3000000)
    (h : ∀ h', Fr h₀ L h' m → News h₀ L h' ((D, W.listOf ws.toArray (n + 1)) :: own) → Q v { s with heap := h' }) : wpAny (model prog w) A (call (.builtin "list.pop") [.ref D]) Q E s :=
  kl_pop (p := ws) (y := v) F N (last_end v ws) (Upd.head off) (by rw [sizeLine_eq]; simp; omega) h
end
theorem strs_inv {vs : List Value} {ys : List Str} {y : Str} (h : StrsAre vs (ys ++ [y])) : ∃ ws t, vs = ws ++ [.str y t] ∧ StrsAre ws ys := by
  induction ys generalizing vs with
  | nil => cases h with | cons _ t h => cases h; exact ⟨[], t, rfl, .nil⟩
  | cons a r ih => cases h with | cons _ t h => obtain ⟨ws, t', rfl, h'⟩ := ih h; exact ⟨_, t', rfl, .cons a t h'⟩
end Mine
namespace Mine
/-- LCon of a call that asks something of the ground -/
def LConP (lv : Nat) (Pre : Heap → Prop) (w : World) (p : Program) (loose : List Str) (mean : ExcName → Option Value) (mg mb : Str → Option Value) (f : Addr) (vs : List Value) (news : List (Addr × Obj)) (Res : Value → List (Addr × Obj) → Prop) : Prop :=
  ∀ (dp un : Nat) (gd : Option (List Code)) (cn : Str) (cs : Scope) (a : Addr) (ccd : Value) (cl : List (Str × Addr)) (outer : List Env) (A₀ : Around) (base h₀ : Heap) (L : Addr) (m : Str → Option Value) (s : Shared) (Q E : Value → Shared → Prop),
    Pre h₀ → Below A₀ base outer h₀ → Fr h₀ L s.heap m → (Mine.hd.heap_39 w.params).In h₀ → News h₀ L s.heap news → Top p loose mean mg mb h₀ → cs.kind = .function → dp + lv < recursionLimit → un + 500 * lv < cLine →
    (∀ r news' h' tk', Fr h₀ L h' m → News h₀ L h' news' → (∀ b o, b ∉ news.map (·.1) → s.heap.get? b = some o → h'.get? b = some o) → Res r news' → Q r { s with heap := h', toks := tk' }) →
    wpAny (model PySem.Challenge.rw_at6012_01.row.prog w) (ktrTop dp un gd cn cs L a ccd cl outer) (call (.ref f) vs) Q E s
end Mine
end
section
open PySem PySem.W PyProof.Rows PySem.Calls PySem.Spec
namespace Mine
theorem allObj_mono {k k' : List (Addr × Obj) → Prop} (h : ∀ its, k its → k' its) : ∀ {ws : List (Addr × String)}, AllObj ws k → AllObj ws k'
  | [], x => h _ x
  | w :: r, x => fun o ho => allObj_mono (k := fun its => k ((w.1, o) :: its)) (k' := fun its => k' ((w.1, o) :: its)) (fun its => h _) (ws := r) (x o ho)
theorem subL_of {l all : List (Addr × Obj)} (h : ∀ p ∈ l, p ∈ all) : SubL l all := by
  induction l with
  | nil => exact trivial
  | cons p r ih => exact ⟨h _ (.head _), ih fun q hq => h q (.tail _ hq)⟩
def ZipEnd {σ : Type} (Led : σ → List (Addr × Obj)) (stored : List Str) (m₀ : Str → Option Value) (P : Nat → σ → Prop) (i : Nat) (m' : Str → Option Value) (n' : List (Addr × Obj)) : Prop :=
  ∃ c, (∀ p ∈ Led c, p ∈ n') ∧ (∀ z, stored.contains z = false → m' z = m₀ z) ∧ P i c
section
variable {prog : Program} {w : World} {A : Around} {E : Value → Shared → Prop} {Q : Flow → Shared → Prop} {s : Shared} {h₀ : Heap} {env : Env} {target : Expr} {body : List Stmt} {ws : List (Addr × String)} {keep : List (Addr × Obj)} {xs : List Itm} {m₀ : Str → Option Value}
theorem zip_state {σ : Type} (Led : σ → List (Addr × Obj)) (stored : List Str) (P : Nat → σ → Prop) (c₀ : σ) (hp : P 0 c₀) (hkeep : ∀ c, SubL keep (Led c))
    (turn : ∀ (i : Nat) (a : Itm) (c : σ) (u : Str → Option Value) (v : Value) (h : Heap) (tk : Nat), xs[i]? = some a → P i c → a.Is v h → Fr h₀ env.locals h (kstB (fun z => if stored.contains z then u z else m₀ z) []) → AllObj ws (fun its => News h₀ env.locals h (its ++ Led c) →
      wpAny (model prog w) A (assign target env v) (fun _ s₂ => wpAny (model prog w) A (execs body env) (UnrPostW h₀ env.locals { s with heap := h, toks := tk } its (fun m' n' => SubL keep n' ∧ ZipEnd Led stored m₀ P (i + 1) m' n') Q) E s₂) E { s with heap := h, toks := tk }))
    (done : ∀ (c : σ) (u : Str → Option Value) (h : Heap) (tk : Nat), P xs.length c → Fr h₀ env.locals h (kstB (fun z => if stored.contains z then u z else m₀ z) []) → News h₀ env.locals h (Led c) → Q .next { s with heap := h, toks := tk }) :
    ItemsRest prog w A E h₀ env target body Q s ws keep xs m₀ (Led c₀) := by
  have fr : ∀ {h : Heap} {m : Str → Option Value}, (∀ z, stored.contains z = false → m z = m₀ z) → Fr h₀ env.locals h m → Fr h₀ env.locals h (kstB (fun z => if stored.contains z then m z else m₀ z) []) := by
    intro h m e F
    have em : kstB (fun z => if stored.contains z then m z else m₀ z) [] = m := by
      funext z
      show (if stored.contains z = true then m z else m₀ z) = m z
      cases hs : stored.contains z with
      | true => simp
      | false => simp only [Bool.false_eq_true, if_false]; exact (e z hs).symm
    rw [em]; exact F
  have key : ∀ (r : List Itm) (i : Nat) (m : Str → Option Value) (n' : List (Addr × Obj)), r = xs.drop i → i + r.length = xs.length → ZipEnd Led stored m₀ P i m n' → ItemsRest prog w A E h₀ env target body Q s ws keep r m n' := by
    intro r
    induction r with
    | nil =>
      rintro i m n' hr hl ⟨c, hs, he, hP⟩ h tk F N
      obtain rfl : i = xs.length := by simpa using hl
      exact done c m h tk hP (fr he F) fun p hp => N p (hs p hp)
    | cons a r ih =>
      rintro i m n' hr hl ⟨c, hs, he, hP⟩ v h tk hv F
      have ha : xs[i]? = some a := by
        have := congrArg List.head? hr
        simpa [List.head?_drop] using this.symm
      have hr' : r = xs.drop (i + 1) := by
        have := congrArg List.tail hr
        simpa [List.tail_drop] using this
      refine allObj_mono (fun its t N => ?_) (turn i a c m v h tk ha hP hv (fr he F))
      refine wpAny_mono (t fun p hp => N p ?_) (fun _ s₂ h₂ => wpAny_mono h₂ (fun f s₃ q => ?_) fun _ _ e => e) fun _ _ e => e
      · rcases List.mem_append.mp hp with hp | hp
        · exact List.mem_append_left _ hp
        · exact List.mem_append_right _ (hs p hp)
      · have conv : UnrEndW h₀ env.locals { s with heap := h, toks := tk } its (fun m' n' => SubL keep n' ∧ ZipEnd Led stored m₀ P (i + 1) m' n') s₃ → UnrEndW h₀ env.locals { s with heap := h, toks := tk } its (fun m' n' => SubL keep n' ∧ ItemsRest prog w A E h₀ env target body Q s ws keep r m' n') s₃ := by
          rintro ⟨h', tk', m', news', e, F', N', off, hk, z⟩
          exact ⟨h', tk', m', news', e, F', N', off, hk, ih (i + 1) m' news' hr' (by simp only [List.length_cons] at hl; omega) z⟩
        cases f with
        | ret v => exact q
        | brk => exact q
        | next => exact conv q
        | cont => exact conv q
  exact key xs 0 m₀ (Led c₀) (by simp) (by simp) ⟨c₀, fun p hp => hp, fun _ _ => rfl, hp⟩
end
end Mine
namespace Mine
theorem strs_getD {vs : List Value} {ss : List Str} (h : StrsAre vs ss) : ∀ i : Nat, i < vs.length → ∃ t, vs[i]? = some (.str (ss.getD i Str.empty) t) := by
  induction h with
  | nil => intro i hi; exact absurd hi (Nat.not_lt_zero _)
  | cons x t _ ih =>
    intro i hi
    cases i with
    | zero => exact ⟨t, rfl⟩
    | succ i =>
      obtain ⟨t', e⟩ := ih i (Nat.lt_of_succ_lt_succ hi)
      exact ⟨t', by simpa using e⟩
theorem zip_at {vs : List Value} {ss : List Str} {a : Itm} {v : Value} {h : Heap} {i : Nat} (hs : StrsAre vs ss) (ha : (zipItems vs (.none :: vs))[i]? = some a) (hv : a.Is v h) :
    i < ss.length ∧ ∃ T tx, v = .ref T ∧ ((i = 0 ∧ IsTup h T #[.str (ss.getD i Str.empty) tx, .none]) ∨ ∃ ty, 0 < i ∧ IsTup h T #[.str (ss.getD i Str.empty) tx, .str (ss.getD (i - 1) Str.empty) ty]) := by
  have hl := StrsAre.len_eq hs
  have hi : i < vs.length := by
    have h1 := (List.getElem?_eq_some_iff.mp ha).1
    rw [zipItems_length] at h1
    simp only [List.length_cons] at h1
    omega
  refine ⟨by omega, ?_⟩
  obtain ⟨tx, hx⟩ := strs_getD hs i hi
  cases i with
  | zero =>
    have h2 := zipItems_get vs (.none :: vs) 0 hx rfl
    rw [h2] at ha
    cases ha
    obtain ⟨T, t, e, ht⟩ := hv
    exact ⟨T, tx, e, .inl ⟨rfl, ht⟩⟩
  | succ k =>
    obtain ⟨ty, hy⟩ := strs_getD hs k (by omega)
    have h2 := zipItems_get vs (.none :: vs) (k + 1) hx (y := .str (ss.getD k Str.empty) ty) (by simpa using hy)
    rw [h2] at ha
    cases ha
    obtain ⟨T, t, e, ht⟩ := hv
    exact ⟨T, tx, e, .inr ⟨ty, by omega, ht⟩⟩
theorem zip_len (vs : List Value) (v : Value) : (zipItems vs (v :: vs)).length = vs.length := by
  rw [zipItems_length, List.length_cons]; omega
end Mine
namespace Mine
theorem app_upd {prog : Program} {w : World} {A : Around} {E : Value → Shared → Prop} {s : Shared} {h₀ : Heap} {L D : Addr} {m : Str → Option Value} {news news' : List (Addr × Obj)} {its : List Value} {n : Nat} {x : Value} {Q : Value → Shared → Prop} (F : Fr h₀ L s.heap m) (N : News h₀ L s.heap news)
    (U : Upd D (W.listOf its.toArray n) (W.listOf (its ++ [x]).toArray (n + 1)) news news') (hsz : its.length ≤ 3000000) (h : ∀ h', Fr h₀ L h' m → News h₀ L h' news' → Q .none { s with heap := h' }) :
    wpAny (model prog w) A (call (.builtin "list.append") [.ref D, x]) Q E s := by
  refine append_K (its := its.toArray) (n := n) F N (by rw [List.push_toArray]; exact U) (fun h' F' N' => h h' F' N') (by rw [sizeLine_eq, List.size_toArray]; omega)
end Mine
namespace Mine
theorem zip_end {α β : Type} {Led : α × β → List (Addr × Obj)} {stored : List Str} {m₀ m' : Str → Option Value} {P : Nat → α × β → Prop} {i : Nat} {n' : List (Addr × Obj)} {x : α} {y : β} (hs : SubL (Led (x, y)) n') (hP : P i (x, y)) (he : ∀ z, stored.contains z = false → m' z = m₀ z) : ZipEnd Led stored m₀ P i m' n' :=
  ⟨(x, y), fun p hp => SubL.mem hs p hp, he, hP⟩
theorem not_in2 {a b z : Str} (h : [a, b].contains z = false) : z ≠ a ∧ z ≠ b := by
  simp only [List.contains_cons, List.contains_nil, Bool.or_false, Bool.or_eq_false_iff, beq_eq_false_iff_ne, ne_eq] at h
  exact h
end Mine
end
section
open PySem PySem.W PyProof.Rows PySem.Calls PySem.Spec
open Builtin Builtin.Str
namespace Mine
theorem args_keep (a b : Value) : argsOk "str.splitlines" ⟨[a], [(Str.ofString "keepends", b)]⟩ := by
  unfold argsOk; rw [signature?_of (id := "str.splitlines") (n := ['s', 'e', 'n', 'i', 'l', 't', 'i', 'l', 'p', 's']) (o := ['r', 't', 's']) (by kernel_rfl) F.owner_str]; kernel_rfl
theorem keep_tree (x : Str) (t : Tok) : «str.splitlines» ⟨[.str x t], [(Str.ofString "keepends", .bool true)]⟩ = (do
    if (true && (lineSpans x).map (fun (i, j, k) => (i, if true = true then k else j)) == [(0, x.length)]) = true then (do rule "str.splitlines.same-object"; ret (← newList [.str x t]))
    else ret (← newList (← ((lineSpans x).map fun (i, j, k) => (i, if true = true then k else j)).mapM fun (i, j) => mkStr (strSub x i j)))) := rfl
theorem strsFrom_are (n : Nat) (l : List Str) : StrsAre (strsFrom n l) l := by
  rw [strsFrom_eq]
  have := strsAre_of_values (numbered n l)
  rwa [numbered_texts] at this
theorem keep_cuts (x : Str) : (lineSpans x).map (fun (i, j, k) => (i, if true = true then k else j)) = keptCuts x := rfl
section
variable {prog : Program} {w : World} {A : Around} {E : Value → Shared → Prop} {s : Shared} {h₀ : Heap} {L : Addr} {m : Str → Option Value} {news : List (Addr × Obj)} {x : Str} {t : Tok} {Q : Value → Shared → Prop}
theorem lines_keep (hF : Fr h₀ L s.heap m) (hN : News h₀ L s.heap news)
    (h : ∀ vs h' k, StrsAre vs (keptRows x) → Fr h₀ L h' m → News h₀ L h' ((s.heap.objs.size, W.listOf vs.toArray 0) :: news) → (∀ b o, s.heap.get? b = some o → h'.get? b = some o) → Q (.ref s.heap.objs.size) { s with heap := h', toks := k })
    (hsz : x.length ≤ sizeLine) (hsz2 : (keptCuts x).length ≤ sizeLine) :
    wpAny (model prog w) A (call (.builtin "str.splitlines") [.str x t] [(Str.ofString "keepends", .bool true)]) Q E s := by
  refine wpAny_call (codeAny_call_builtin F.slot_str_splitlines.plain F.entry_str_splitlines (F.slot_str_splitlines.check _ _ _ _ _ _ _ _ (typeIs_str _ _ _) (args_keep _ _) ?_))
  rw [keep_tree, keep_cuts]
  cases hw : keptCuts x == [(0, x.length)]
  · show wpAny _ _ (do ret (← newList (← (keptCuts x).mapM fun (i, j) => mkStr (strSub x i j)))) _ _ s
    refine wpAny_bind (wpAny_mapM_mkStr_of (fun (p : Nat × Nat) => strSub x p.1 p.2) (fun p => Nat.le_trans (strSub_length_le ..) hsz) _ _ _ (wpAny_bind (wpAny_newList (wpAny_pure ?_) (by rw [strsFrom_length, List.length_map]; exact hsz2))))
    exact h _ _ _ (strsFrom_are _ _) (Fr.pushS hF _) (News.push hF hN _) fun _ _ e => Heap.get?_push_of_some _ e
  · show wpAny _ _ (do rule "str.splitlines.same-object"; ret (← newList [.str x t])) _ _ s
    refine wpAny_bind (wpAny_rule (wpAny_bind (wpAny_newList (wpAny_pure ?_) (by show 1 ≤ sizeLine; decide))))
    have e := beq_iff_eq.mp hw
    have e2 : keptRows x = [x] := by
      unfold keptRows
      rw [e]
      show [strSub x 0 x.length] = [x]
      rw [strSub_whole]
    exact h [.str x t] _ s.toks (by rw [e2]; exact .cons _ _ .nil) (Fr.pushS hF _) (News.push hF hN _) fun _ _ e => Heap.get?_push_of_some _ e
end
end Mine
namespace Mine
theorem callWith_bkw0 {M : Model} {A : Around} {E : Value → Shared → Prop} {s : Shared} {env : Env} {pos : Pos} {id : String} {first : List Value} {Q : Value → Shared → Prop} {kws : List Keyword} (hall : (backToKw pos (keywordEach kws env)).all (·.1.isSome) = true) (hkw : (backToKw pos (keywordEach kws env)).any (·.1.isNone) = false)
    (h : wpAny M A (evalAll ((backToKw pos (keywordEach kws env)).map (·.2))) (fun ks s₂ => wpAny M A (call (.builtin id) (first ++ []) (((backToKw pos (keywordEach kws env)).filterMap (·.1)).zip ks)) Q E s₂) E s) :
    wpAny M A (callWith pos (.builtin id) first (backTo pos (starEach [] env)) (backToKw pos (keywordEach kws env))) Q E s :=
  callWith_builtin_kwB rfl hkw (evalArgs_kw2_nil hall h)
end Mine
end
section
open PySem PySem.W PyProof.Rows PySem.Calls PySem.Spec
namespace Mine
theorem grown_was {h h' : Heap} {tabs : List (Addr × Addr)} (hT : TabsAt tabs h) (hk : ∀ b o, (ghostOf h tabs).get? b = some o → h'.get? b = some o) (hg : ∀ q ∈ tabs, GrownAt q.2 h') : OldK h h' := by
  have both : ∀ b o, h.get? b = some o → asItWas h h' b o ∧ ∃ o', h'.get? b = some o' := by
    intro b o e
    by_cases hb : b ∈ tabs.map (·.2)
    · obtain ⟨q, hq, rfl⟩ := List.mem_map.mp hb
      obtain ⟨ps, hP⟩ := hg q hq
      have e2 := (hT q hq).2
      rw [e2] at e
      cases e
      exact ⟨.inr (.inl ⟨((hT q hq).1.tab (hT q hq).2).isCodeTable, rfl, #[], ps, rfl, by rw [Array.empty_append]; exact hP⟩), _, hP⟩
    · have e3 := hk b o (ghost_ne e hb)
      exact ⟨.inl e3, _, e3⟩
  exact ⟨fun b o e => (both b o e).1, fun b o e => (both b o e).2⟩
theorem my_post {M : Model} {A : Around} {cd : Code} {s s₁ : Shared} {cw : ClaimW} {cl : Str → Option Addr} {mean : ExcName → Option Value} {args : List WData} {tabs : List (Addr × Addr)} (hT : TabsAt tabs s₁.heap) (hr : ∀ x, cw.raises args x = false) (hp : cw.post args (.bool true) args = true)
    (h : codeAny M A cd (fun r s' => r = .ok (.ret (.bool true)) ∧ (∀ b o, (ghostOf s₁.heap tabs).get? b = some o → s'.heap.get? b = some o) ∧ (∀ q ∈ tabs, GrownAt q.2 s'.heap) ∧ s'.os = s₁.os ∧ AllBare s'.gens) s) : codeAny M A cd (GoodWG cw cl mean args s₁) s := by
  refine codeAny_mono h fun r s' hh => ?_
  obtain ⟨rfl, hk, hg, hos, hb⟩ := hh
  exact ⟨.inl ⟨_, _, [], rfl, hr, .bool true, hp, fun _ => ⟨List.nodup_nil, fun a ha => nomatch ha⟩⟩, grown_was hT hk hg, hos, hb⟩
end Mine
end
section
open PySem PySem.W PyProof.Rows PySem.Calls PySem.Spec
namespace Mine
theorem post_any (R : WRecords) (args : List WData) : WTm.holds R (WTm.eq WTm.res (.lit (.bool true))) { args := args, res := some (.bool true), after := args } = true := by
  unfold WTm.holds
  rw [w_eq_bool (w_res rfl) w_lit]
  rfl
theorem law_post (args : List WData) : PySem.Challenge.rw_at6012_01.row.claim.post args (.bool true) args = true := by
  have e : PySem.Challenge.rw_at6012_01.row.claim.post args (.bool true) args = (WShape.has [] (.bool true) .bool && WTm.holds [] (WTm.eq WTm.res (.lit (.bool true))) { args := args, res := some (.bool true), after := args }) := rfl
  rw [e, post_any]
  simp [WShape.has, WShape.arms]
end Mine
end
section
open PySem PySem.W PyProof.Rows PySem.Calls
namespace Mine

set_option maxRecDepth 100000 in
set_option maxHeartbeats 8000000 in
theorem bare_con (w : World) (p : Program) (loose : List Str) (mean : ExcName → Option Value) (mg mb : Str → Option Value) (x : Str) (t1 : Tok) (hx : x.length ≤ 100) :
    PCon 1 w p loose mean mg mb 104 [.str x t1] [] (fun r => ∃ tk, r = .str (bareBy lets1 x) tk) := by
  w_top off
  unfold PCon
  k_fill
  intro dp un gd cn cs a ccd cl outer A₀ base h₀ L m s Q E B F X T hk hd hu hret
  refine wpAny_call ?_
  k_dflt (refine' enter_pure ?k1 ?k2 ?k3 ?k5 ?kA ?kF ?kK ?k6 ?k7 ?k8 ?k9 ?kB ?_ ?c2 ?c3 ?c4 ?c5; (case kA => exact rfl); (case kF => exact rfl); (case kK => assumption); (case k1 => k_asm); (case k2 => k_asm); (case k3 => k_asm); (case k5 => k_asm); (case k6 => k_is); (case k7 => k_is); (case k8 => ktr_room); (case k9 => first | exact BindsTo.of_eq rfl | exact binds_K (by k_in) rfl (by k_is) rfl rfl rfl); (case c5 => decide); (case kB => exact locs rfl); (case c2 => exact rfl); (case c3 => exact rfl); (case c4 => exact rfl); k_whole; intro g' L' h' FG' F' N' B' X' T'; (try dsimp only); (try k_lift B'); (try k_fold))

  k_steps
  all_goals (refine hret _ _ _ (by assumption) (by assumption) ⟨_, congrArg (fun z => Value.str z _) ?_⟩; simp only [bareBy, lets1, lets2] at *; simp_all)
end Mine
end
section
open PySem PySem.W PyProof.Rows PySem.Calls
namespace Mine
local macro_rules | `(tactic| walk_at "compareOp In str ref") => `(tactic| (k_here; (with_reducible show wpAny _ _ (compareOp CmpOp.In (Value.str _ _) (Value.ref 24)) _ _ _); (with_unfolding_all refine' in_tuple_strs (ys := lets2) ?k1 ?k2 ?_; (case k1 => exact tupK (Frag.In.keeps (by k_asm) (Fr.keep (by k_asm))) (by k_is)); (case k2 => (repeat constructor)); k_whole)))

set_option maxRecDepth 100000 in
set_option maxHeartbeats 8000000 in
theorem strip_con (w : World) (p : Program) (loose : List Str) (mean : ExcName → Option Value) (mg mb : Str → Option Value) (x : Str) (t1 : Tok) (hx : x.length ≤ 100) :
    PCon 1 w p loose mean mg mb 31 [.str x t1] [] (fun r => ∃ tk, r = .str (bareBy lets2 x) tk) := by
  w_top off
  unfold PCon
  k_fill
  intro dp un gd cn cs a ccd cl outer A₀ base h₀ L m s Q E B F X T hk hd hu hret
  refine wpAny_call ?_
  k_dflt (refine' enter_pure ?k1 ?k2 ?k3 ?k5 ?kA ?kF ?kK ?k6 ?k7 ?k8 ?k9 ?kB ?_ ?c2 ?c3 ?c4 ?c5; (case kA => exact rfl); (case kF => exact rfl); (case kK => assumption); (case k1 => k_asm); (case k2 => k_asm); (case k3 => k_asm); (case k5 => k_asm); (case k6 => k_is); (case k7 => k_is); (case k8 => ktr_room); (case k9 => first | exact BindsTo.of_eq rfl | exact binds_K (by k_in) rfl (by k_is) rfl rfl rfl); (case c5 => decide); (case kB => exact locs rfl); (case c2 => exact rfl); (case c3 => exact rfl); (case c4 => exact rfl); k_whole; intro g' L' h' FG' F' N' B' X' T'; (try dsimp only); (try k_lift B'); (try k_fold))

  k_steps
  all_goals (refine hret _ _ _ (by assumption) (by assumption) ⟨_, congrArg (fun z => Value.str z _) ?_⟩; simp only [bareBy, lets1, lets2] at *; simp_all)
end Mine
end
section
open PySem PySem.W PyProof.Rows PySem.Calls
namespace Mine

set_option maxRecDepth 100000 in
set_option maxHeartbeats 8000000 in
theorem open_con (w : World) (p : Program) (loose : List Str) (mean : ExcName → Option Value) (mg mb : Str → Option Value) (x q : Str) (t1 t2 : Tok) (hx : x.length ≤ 100) (hq : q.length ≤ 3) :
    PCon 1 w p loose mean mg mb 97 [.str x t1, .str q t2] [] (fun r => ∃ tk, r = .str (runF openNext (x.length + 1) x 0 q) tk) := by
  w_top off
  unfold PCon
  k_fill
  intro dp un gd cn cs a ccd cl outer A₀ base h₀ L m s Q E B F X T hk hd hu hret
  refine wpAny_call ?_
  k_dflt (refine' enter_pure ?k1 ?k2 ?k3 ?k5 ?kA ?kF ?kK ?k6 ?k7 ?k8 ?k9 ?kB ?_ ?c2 ?c3 ?c4 ?c5; (case kA => exact rfl); (case kF => exact rfl); (case kK => assumption); (case k1 => k_asm); (case k2 => k_asm); (case k3 => k_asm); (case k5 => k_asm); (case k6 => k_is); (case k7 => k_is); (case k8 => ktr_room); (case k9 => first | exact BindsTo.of_eq rfl | exact binds_K (by k_in) rfl (by k_is) rfl rfl rfl); (case c5 => decide); (case kB => exact locs rfl); (case c2 => exact rfl); (case c3 => exact rfl); (case c4 => exact rfl); k_whole; intro g' L' h' FG' F' N' B' X' T'; (try dsimp only); (try k_lift B'); (try k_fold))
  k_with "exec While Compare cons nil" => k_while (fun (_ : List Int) (at' : Int) (qq : Str) => 0 ≤ at' ∧ qq.length ≤ 3 ∧ RunInv openNext x q at' qq) (fun _ at' _ => x.length - at'.toNat) "at" "quotes"
  k_with "state" => first | exact ⟨Int.le_refl _, hq, run_start⟩ | (refine ⟨by omega, ?_, run_go (by assumption) (by assumption) ?_ ?_⟩; rotate_left; (simp only [openNext]; (try have hq0 := Int.natCast_ne_zero.mp (by assumption)); simp [*]); (first | omega | (have := long_len (by assumption); omega)); (first | omega | decide +kernel | (have := long_len (by assumption); omega)))
  k_with "measure" => first | omega | (have := long_len (by assumption); omega)

  k_steps
  · rename_i hkeep
    refine hret _ _ _ (by assumption) hkeep ⟨_, congrArg (fun z => Value.str z _) ?_⟩
    refine Eq.trans ?_ (run_stop (by assumption) (by assumption) ?_).symm
    · simp_all
    · simp only [openNext]; simp [*]
  · rename_i hkeep
    refine hret _ _ _ (by assumption) hkeep ⟨_, congrArg (fun z => Value.str z _) ?_⟩
    exact (run_end (by assumption) (by assumption)).symm
end Mine
end
section
open PySem PySem.W PyProof.Rows PySem.Calls
namespace Mine
local macro_rules | `(tactic| walk_at "pad") => `(tactic| fail "pad")

set_option maxRecDepth 100000 in
set_option maxHeartbeats 8000000 in
theorem scan_con (w : World) (p : Program) (loose : List Str) (mean : ExcName → Option Value) (mg mb : Str → Option Value) (x y q : Str) (t1 t2 t3 : Tok) (hx : x.length ≤ 100) (hy : y.length ≤ 100) (hs : Txt.startswith y (Str.ofString "#") = false) (hq : q.length ≤ 3) :
    PCon 1 w p loose mean mg mb 52 [.str x t1, .str y t2, .str q t3] [] (fun r => ∃ tk, r = .str (scanF x q) tk) := by
  w_top off
  unfold PCon
  k_fill
  intro dp un gd cn cs a ccd cl outer A₀ base h₀ L m s Q E B F X T hk hd hu hret
  refine wpAny_call ?_
  k_dflt (refine' enter_pure ?k1 ?k2 ?k3 ?k5 ?kA ?kF ?kK ?k6 ?k7 ?k8 ?k9 ?kB ?_ ?c2 ?c3 ?c4 ?c5; (case kA => exact rfl); (case kF => exact rfl); (case kK => assumption); (case k1 => k_asm); (case k2 => k_asm); (case k3 => k_asm); (case k5 => k_asm); (case k6 => k_is); (case k7 => k_is); (case k8 => ktr_room); (case k9 => first | exact BindsTo.of_eq rfl | exact binds_K (by k_in) rfl (by k_is) rfl rfl rfl); (case c5 => decide); (case kB => exact locs rfl); (case c2 => exact rfl); (case c3 => exact rfl); (case c4 => exact rfl); k_whole; intro g' L' h' FG' F' N' B' X' T'; (try dsimp only); (try k_lift B'); (try k_fold))
  k_with "exec While Compare cons nil" => k_while (fun (_ : List Int) (at' : Int) (qq : Str) => 0 ≤ at' ∧ qq.length ≤ 3 ∧ RunInv scanNext x q at' qq) (fun _ at' _ => x.length - at'.toNat) "char_index" "in_quote"
  k_with "state" => first | exact ⟨Int.le_refl _, hq, run_start⟩ | (refine ⟨by omega, ?_, run_go (by assumption) (by assumption) ?_ ?_⟩; rotate_left; (simp only [scanNext]; (try have hq0 := Int.natCast_ne_zero.mp (by assumption)); simp [*]); (first | omega | (have := long_len' (by assumption); omega)); (first | omega | decide +kernel | (have := long_len' (by assumption); omega)))
  k_with "measure" => first | omega | (have := long_len' (by assumption); omega)

  k_steps
  · rename_i hkeep
    refine hret _ _ _ (by assumption) hkeep ⟨_, congrArg (fun z => Value.str z _) ?_⟩
    rw [scanF, if_pos ⟨by assumption, by assumption⟩]
  all_goals (rename_i hkeep; refine hret _ _ _ (by assumption) hkeep ⟨_, congrArg (fun z => Value.str z _) ?_⟩; (have hne : ¬ (hasNo x (Str.ofString "\"") = true ∧ hasNo x (Str.ofString "'") = true) := by simp [hasNo, *]); rw [scanF, if_neg hne])
  all_goals first | exact (run_end (by assumption) (by assumption)).symm | (refine (run_stop (by assumption) (by assumption) ?_).symm; simp only [scanNext]; simp [*])
end Mine
end
section
open PySem PySem.W PyProof.Rows PySem.Calls
namespace Mine
local macro_rules | `(tactic| walk_at "pad") => `(tactic| fail "pad")
local macro_rules | `(tactic| walk_at "call builtin:str.replace") => `(tactic| (k_here; (with_reducible show wpAny _ _ (call (Value.builtin "str.replace") [Value.str _ _, Value.str _ _, Value.str _ _]) _ _ _); (refine replace_toks (by (try dsimp only); omega) (by (try dsimp only); omega) (by (try dsimp only); omega) (by (try dsimp only); omega) (by first | assumption | decide +kernel) (by omega) (by first | assumption | decide +kernel) (by decide +kernel) ?_); intro t' k hk hlen))

set_option maxRecDepth 100000 in
set_option maxHeartbeats 8000000 in
theorem rw_con (w : World) (p : Program) (loose : List Str) (mean : ExcName → Option Value) (mg mb : Str → Option Value) (x : Str) (t1 t2 : Tok) (hx : x.length ≤ 100) :
    PConS 1 (fun s => @LE.le Nat _ 1 t2 ∧ @LT.lt Nat _ t2 s.toks) w p loose mean mg mb 22 [.str x t1] [(Str.ofString "line_separator", .str (Str.ofString "\n") t2)] (fun r => ∃ tk, r = .str (rwF x) tk) := by
  w_top off
  unfold PConS
  k_fill
  intro dp un gd cn cs a ccd cl outer A₀ base h₀ L m s Q E hpre B F X T hk hd hu hret
  refine wpAny_call ?_
  k_dflt (refine' enter_pure ?k1 ?k2 ?k3 ?k5 ?kA ?kF ?kK ?k6 ?k7 ?k8 ?k9 ?kB ?_ ?c2 ?c3 ?c4 ?c5; (case kA => exact rfl); (case kF => exact rfl); (case kK => assumption); (case k1 => k_asm); (case k2 => k_asm); (case k3 => k_asm); (case k5 => k_asm); (case k6 => k_is); (case k7 => k_is); (case k8 => ktr_room); (case k9 => first | exact BindsTo.of_eq rfl | exact binds_K (by k_in) rfl (by k_is) rfl rfl rfl); (case c5 => decide); (case kB => exact locs rfl); (case c2 => exact rfl); (case c3 => exact rfl); (case c4 => exact rfl); k_whole; intro g' L' h' FG' F' N' B' X' T'; (try dsimp only); (try k_lift B'); (try k_fold))
  refine gen_toks (t2 + 1) (Nat.le_trans hpre.2 (Nat.le_add_right _ _)) (fun tT hT => ?_)
  have hpre1 := hpre.1

  k_steps
  all_goals (rename_i hkeep; exact hret _ _ _ (by assumption) hkeep ⟨_, rfl⟩)
end Mine
end
section
open PySem PySem.W PyProof.Rows PySem.Calls
namespace Mine
local macro_rules | `(tactic| walk_at "call builtin:str.join") => `(tactic| (k_here; (with_reducible show wpAny _ _ (call (Value.builtin "str.join") [Value.str _ _, Value.ref _]) _ _ _); (with_reducible rename CarriedAll _ _ => hc'); (refine join_signsW (by assumption) hc' (by omega) (by decide +kernel) ?_); intro tj kj))

set_option maxRecDepth 100000 in
set_option maxHeartbeats 8000000 in
theorem less_con (w : World) (p : Program) (loose : List Str) (mean : ExcName → Option Value) (mg mb : Str → Option Value) (x : Str) (t1 : Tok) (hx : x.length ≤ 100) :
    PCon 1 w p loose mean mg mb 109 [.str x t1] [] (fun r => ∃ tk, r = .str (lessF x) tk) := by
  w_top off
  unfold PCon
  k_fill
  intro dp un gd cn cs a ccd cl outer A₀ base h₀ L m s Q E B F X T hk hd hu hret
  refine wpAny_call ?_
  k_dflt (refine' enter_pure ?k1 ?k2 ?k3 ?k5 ?kA ?kF ?kK ?k6 ?k7 ?k8 ?k9 ?kB ?_ ?c2 ?c3 ?c4 ?c5; (case kA => exact rfl); (case kF => exact rfl); (case kK => assumption); (case k1 => k_asm); (case k2 => k_asm); (case k3 => k_asm); (case k5 => k_asm); (case k6 => k_is); (case k7 => k_is); (case k8 => ktr_room); (case k9 => first | exact BindsTo.of_eq rfl | exact binds_K (by k_in) rfl (by k_is) rfl rfl rfl); (case c5 => decide); (case kB => exact locs rfl); (case c2 => exact rfl); (case c3 => exact rfl); (case c4 => exact rfl); k_whole; intro g' L' h' FG' F' N' B' X' T'; (try dsimp only); (try k_lift B'); (try k_fold))

  k_steps
  all_goals (rename_i hkeep; exact hret _ _ _ (by assumption) hkeep ⟨_, rfl⟩)
end Mine
end
section
open PySem PySem.W PyProof.Rows PySem.Calls
namespace Mine
local macro_rules | `(tactic| walk_at "call ref") => `(tactic| (k_here; (with_reducible show wpAny _ _ (call (Value.ref 31) _ _) _ _ _); k_dflt (refine' (strip_con _ _ _ _ _ _ _ _ (by assumption)) _ _ _ _ _ _ _ _ _ _ _ _ _ _ _ _ _ ?k1 ?k2 ?k3 ?k5 ?kK ?kd ?ku ?kR; (case k1 => k_asm); (case k2 => k_asm); (case k3 => k_asm); (case k5 => k_asm); (case kK => first | exact rfl | assumption); (case kd => ktr_room); (case ku => ktr_units); k_whole); intro r9 h9 tk9 F9 hk9 hres; (have N9 := News.grown (by assumption) hk9); (obtain ⟨tkr, hres⟩ := hres; subst hres); (try dsimp only); (try k_fold)))
local macro_rules | `(tactic| walk_at "call builtin:str.startswith") => `(tactic| (k_here; (with_reducible show wpAny _ _ (call (Value.builtin "str.startswith") [Value.str _ _, Value.ref 23]) _ _ _); (with_unfolding_all refine' starts_tuple (ys := marks) ?k1 ?k2 ?_; (case k1 => exact tupK (Frag.In.keeps (by k_asm) (Fr.keep (by k_asm))) (by k_is)); (case k2 => (repeat constructor)); k_whole)))

set_option maxRecDepth 100000 in
set_option maxHeartbeats 8000000 in
theorem isc_con (w : World) (p : Program) (loose : List Str) (mean : ExcName → Option Value) (mg mb : Str → Option Value) (x : Str) (t1 : Tok) (hx : x.length ≤ 100) (hl : (Txt.lstrip x).length ≤ 100) :
    PCon 3 w p loose mean mg mb 38 [.str x t1] [] (fun r => r = .bool (iscF x)) := by
  w_top off
  unfold PCon
  k_fill
  intro dp un gd cn cs a ccd cl outer A₀ base h₀ L m s Q E B F X T hk hd hu hret
  refine wpAny_call ?_
  k_dflt (refine' enter_pure ?k1 ?k2 ?k3 ?k5 ?kA ?kF ?kK ?k6 ?k7 ?k8 ?k9 ?kB ?_ ?c2 ?c3 ?c4 ?c5; (case kA => exact rfl); (case kF => exact rfl); (case kK => assumption); (case k1 => k_asm); (case k2 => k_asm); (case k3 => k_asm); (case k5 => k_asm); (case k6 => k_is); (case k7 => k_is); (case k8 => ktr_room); (case k9 => first | exact BindsTo.of_eq rfl | exact binds_K (by k_in) rfl (by k_is) rfl rfl rfl); (case c5 => decide); (case kB => exact locs rfl); (case c2 => exact rfl); (case c3 => exact rfl); (case c4 => exact rfl); k_whole; intro g' L' h' FG' F' N' B' X' T'; (try dsimp only); (try k_lift B'); (try k_fold))

  k_steps
  all_goals (rename_i hkeep; exact hret _ _ _ (by assumption) hkeep rfl)
end Mine
end
section
open PySem PySem.W PyProof.Rows PySem.Calls
namespace Mine
local macro_rules | `(tactic| walk_at "pad") => `(tactic| fail "pad")
local macro_rules | `(tactic| walk_at "call builtin:str.strip") => `(tactic| (k_here; (with_reducible show wpAny _ _ (call (Value.builtin "str.strip") [Value.str _ _]) _ _ _); (refine strip_toks (by assumption) (Nat.le_trans (rwF_len _) (by omega)) ?_); intro t' k hk))
local macro_rules | `(tactic| walk_at "call ref") => `(tactic| (k_here; (with_reducible show wpAny _ _ (call (Value.ref 22) _ _) _ _ _); (refine wpAny_with_toks (by assumption) ?_); k_dflt (refine' (rw_con _ _ _ _ _ _ _ _ _ (by assumption)) _ _ _ _ _ _ _ _ _ _ _ _ _ _ _ _ _ ?hp ?k1 ?k2 ?k3 ?k5 ?kK ?kd ?ku ?kR; (case hp => (refine ⟨by assumption, ?_⟩; (try dsimp only); omega)); (case k1 => k_asm); (case k2 => k_asm); (case k3 => k_asm); (case k5 => k_asm); (case kK => first | exact rfl | assumption); (case kd => ktr_room); (case ku => ktr_units); k_whole); intro r9 h9 tk9 F9 hk9 hres hbound; (have N9 := News.grown (by assumption) hk9); (obtain ⟨tkr, hres⟩ := hres; subst hres); (try dsimp only); (try k_fold)))

set_option maxRecDepth 100000 in
set_option maxHeartbeats 8000000 in
theorem hc_con (w : World) (p : Program) (loose : List Str) (mean : ExcName → Option Value) (mg mb : Str → Option Value) (x y : Str) (b : Bool) (t1 t2 t3 : Tok) (hx : x.length ≤ 100) (hy : y.length ≤ 100) :
    PConS 3 (fun s => @LE.le Nat _ 1 t3 ∧ @LT.lt Nat _ t3 s.toks) w p loose mean mg mb 59 [.str x t1, .str y t2, .str (Str.ofString "\n") t3, .bool b] [] (fun r => r = .bool (hcF b x y)) := by
  w_top off
  unfold PConS
  k_fill
  intro dp un gd cn cs a ccd cl outer A₀ base h₀ L m s Q E hpre B F X T hk hd hu hret
  refine wpAny_call ?_
  k_dflt (refine' enter_pure ?k1 ?k2 ?k3 ?k5 ?kA ?kF ?kK ?k6 ?k7 ?k8 ?k9 ?kB ?_ ?c2 ?c3 ?c4 ?c5; (case kA => exact rfl); (case kF => exact rfl); (case kK => assumption); (case k1 => k_asm); (case k2 => k_asm); (case k3 => k_asm); (case k5 => k_asm); (case k6 => k_is); (case k7 => k_is); (case k8 => ktr_room); (case k9 => first | exact BindsTo.of_eq rfl | exact binds_K (by k_in) rfl (by k_is) rfl rfl rfl); (case c5 => decide); (case kB => exact locs rfl); (case c2 => exact rfl); (case c3 => exact rfl); (case c4 => exact rfl); k_whole; intro g' L' h' FG' F' N' B' X' T'; (try dsimp only); (try k_lift B'); (try k_fold))
  refine gen_toks (t3 + 1) (Nat.le_trans hpre.2 (Nat.le_add_right _ _)) (fun tT hT => ?_)
  have hpre1 := hpre.1

  k_steps
  refine wpAny_with_toks (by assumption) ?_
  k_dflt (refine' (rw_con _ _ _ _ _ _ _ _ _ ?hxx) _ _ _ _ _ _ _ _ _ _ _ _ _ _ _ _ _ ?hp ?k1 ?k2 ?k3 ?k5 ?kK ?kd ?ku ?kR)
  case hp => (refine ⟨by assumption, ?_⟩; (try dsimp only); omega)
  case k1 => k_asm
  case k2 => k_asm
  case k3 => k_asm
  case k5 => k_asm
  case kK => first | exact rfl | assumption
  case kd => ktr_room
  case ku => ktr_units
  case hxx => assumption
  k_whole
  intro r9 h9 tk9 F9 hk9 hres hbound
  have N9 := News.grown (by assumption) hk9
  (obtain ⟨tkr, hres⟩ := hres; subst hres)
  (try dsimp only)
  k_steps
  all_goals (rename_i hkeep; exact hret _ _ _ (by assumption) hkeep (by simp [hcF, *]))
end Mine
end
section
open PySem PySem.W PyProof.Rows PySem.Calls
namespace Mine
local macro_rules | `(tactic| k_room) => `(tactic| ktr_room)
local macro_rules | `(tactic| k_units) => `(tactic| ktr_units)
local macro_rules | `(tactic| units_room) => `(tactic| ktr_units)

set_option maxRecDepth 100000 in
set_option maxHeartbeats 8000000 in
theorem take_nil (w : World) (p : Program) (loose : List Str) (mean : ExcName → Option Value) (mg mb : Str → Option Value) (d l : Addr) (seed many : Int) (ts tm : Tok) (n k : Nat) (h0 : 0 ≤ seed) (h1 : seed < 2147483647) (hm : 0 < many) (hm2 : many < 100) (hdl : @Ne Nat d l) :
    LCon 1 w p loose mean mg mb 85 [.ref d, .int many tm] [(d, W.listOf #[.ref l, .int seed ts] n), (l, W.listOf #[] k)] (fun r news' => ∃ od' ol' i tk, DrawIs l od' ol' ∧ news' = [(d, od'), (l, ol')] ∧ r = .int i tk ∧ 0 ≤ i ∧ i < many) := by
  w_top off
  unfold LCon
  k_fill
  intro dp un gd cn cs a ccd cl outer A₀ base h₀ L m s Q E B F X N T hk hd hu hret
  refine wpAny_call ?_
  k_dflt (refine' enter_led _ ?k1 ?k2 ?k3 ?k4 ?k5 ?kA ?kF ?kK ?k6 ?k7 ?k8 ?k9 ?kB ?_ ?c2 ?c3 ?c4 ?c5; (case kA => exact rfl); (case kF => exact rfl); (case kK => assumption); (case k1 => k_asm); (case k2 => k_asm); (case k3 => k_asm); (case k4 => k_asm); (case k5 => k_asm); (case k6 => k_is); (case k7 => k_is); (case k8 => ktr_room); (case k9 => first | exact BindsTo.of_eq rfl | exact binds_K (by k_in) rfl (by k_is) rfl rfl rfl); (case c5 => decide); (case kB => exact locs rfl); (case c2 => exact rfl); (case c3 => exact rfl); (case c4 => exact rfl); k_whole; intro g' L' h' FG' F' N' B' X' T'; (try dsimp only); (try k_lift B'); (try k_fold))

  k_steps
  all_goals (rename_i hkeep; first | (refine hret _ _ _ _ (by assumption) (kst_newsOf (by assumption) (fun p hp => List.mem_cons_of_mem _ hp)) hkeep ⟨_, _, _, _, ⟨_, _, _, _, _, _, rfl, rfl, .nil, by decide, (fmod_in _ (by decide)).1, (fmod_in _ (by decide)).2⟩, rfl, rfl, (fmod_in _ hm).1, (fmod_in _ hm).2⟩) | (refine hret _ _ _ _ (by assumption) (kst_newsOf (by assumption) (fun p hp => List.mem_cons_of_mem _ hp)) hkeep ⟨_, _, _, _, ⟨_, _, _, _, _, _, rfl, rfl, his, hlen, h0, h1⟩, rfl, rfl, (fmod_in _ hm).1, (fmod_in _ hm).2⟩) | exact absurd (of_decide_eq_true (by assumption)) (List.cons_ne_nil _ _))
end Mine
end
section
open PySem PySem.W PyProof.Rows PySem.Calls
namespace Mine
local macro_rules | `(tactic| k_room) => `(tactic| ktr_room)
local macro_rules | `(tactic| k_units) => `(tactic| ktr_units)
local macro_rules | `(tactic| units_room) => `(tactic| ktr_units)
local macro_rules | `(tactic| walk_at "call builtin:list.pop") => `(tactic| (k_here; (with_reducible show wpAny _ _ (call (Value.builtin _) [Value.ref _, Value.int 0 _]) _ _ _); k_dflt (refine' pop0_led ?F ?N ?U ?z ?_; (case F => k_asm); (case N => k_asm); (case U => k_upd); (case z => (have hz9 := IntsAre.length (by assumption); (try simp only [List.length_cons] at hz9); omega))); kl_rest))

set_option maxRecDepth 100000 in
set_option maxHeartbeats 8000000 in
theorem take_cons (w : World) (p : Program) (loose : List Str) (mean : ExcName → Option Value) (mg mb : Str → Option Value) (d l : Addr) (seed many i : Int) (ts tm ti : Tok) (vs : List Value) (ns : List Int) (n k : Nat) (h0 : 0 ≤ seed) (h1 : seed < 2147483647) (hm : 0 < many) (hm2 : many < 100) (hdl : @Ne Nat d l) (hi : IntsAre (.int i ti :: vs) (i :: ns)) (his : IntsAre vs ns) (hlen : ns.length ≤ 63) :
    LCon 1 w p loose mean mg mb 85 [.ref d, .int many tm] [(d, W.listOf #[.ref l, .int seed ts] n), (l, W.listOf (.int i ti :: vs).toArray k)] (fun r news' => ∃ od' ol' i tk, DrawIs l od' ol' ∧ news' = [(d, od'), (l, ol')] ∧ r = .int i tk ∧ 0 ≤ i ∧ i < many) := by
  w_top off
  unfold LCon
  k_fill
  intro dp un gd cn cs a ccd cl outer A₀ base h₀ L m s Q E B F X N T hk hd hu hret
  refine wpAny_call ?_
  k_dflt (refine' enter_led _ ?k1 ?k2 ?k3 ?k4 ?k5 ?kA ?kF ?kK ?k6 ?k7 ?k8 ?k9 ?kB ?_ ?c2 ?c3 ?c4 ?c5; (case kA => exact rfl); (case kF => exact rfl); (case kK => assumption); (case k1 => k_asm); (case k2 => k_asm); (case k3 => k_asm); (case k4 => k_asm); (case k5 => k_asm); (case k6 => k_is); (case k7 => k_is); (case k8 => ktr_room); (case k9 => first | exact BindsTo.of_eq rfl | exact binds_K (by k_in) rfl (by k_is) rfl rfl rfl); (case c5 => decide); (case kB => exact locs rfl); (case c2 => exact rfl); (case c3 => exact rfl); (case c4 => exact rfl); k_whole; intro g' L' h' FG' F' N' B' X' T'; (try dsimp only); (try k_lift B'); (try k_fold))

  k_steps
  rotate_left
  rotate_right
  all_goals (rename_i hkeep; first | (refine hret _ _ _ _ (by assumption) (kst_newsOf (by assumption) (fun p hp => List.mem_cons_of_mem _ hp)) hkeep ⟨_, _, _, _, ⟨_, _, _, _, _, _, rfl, rfl, .nil, by decide, (fmod_in _ (by decide)).1, (fmod_in _ (by decide)).2⟩, rfl, rfl, (fmod_in _ hm).1, (fmod_in _ hm).2⟩) | (refine hret _ _ _ _ (by assumption) (kst_newsOf (by assumption) (fun p hp => List.mem_cons_of_mem _ hp)) hkeep ⟨_, _, _, _, ⟨_, _, _, _, _, _, rfl, rfl, his, hlen, h0, h1⟩, rfl, rfl, (fmod_in _ hm).1, (fmod_in _ hm).2⟩) | exact absurd (of_decide_eq_true (by assumption)) (List.cons_ne_nil _ _))
end Mine
end
section
open PySem PySem.W PyProof.Rows PySem.Calls
namespace Mine
theorem take_con (w : World) (p : Program) (loose : List Str) (mean : ExcName → Option Value) (mg mb : Str → Option Value) (d l : Addr) (od ol : Obj) (many : Int) (tm : Tok) (h : DrawIs l od ol) (hm : 0 < many) (hm2 : many < 100) (hdl : @Ne Nat d l) :
    LCon 1 w p loose mean mg mb 85 [.ref d, .int many tm] [(d, od), (l, ol)] (fun r news' => ∃ od' ol' i tk, DrawIs l od' ol' ∧ news' = [(d, od'), (l, ol')] ∧ r = .int i tk ∧ 0 ≤ i ∧ i < many) := by
  obtain ⟨seed, ts, n, vs, ns, k, rfl, rfl, hi, hlen, h0, h1⟩ := h
  cases hi with
  | nil => exact take_nil w p loose mean mg mb d l seed many ts tm n k h0 h1 hm hm2 hdl
  | cons i ti r =>
    rename_i vs ns
    exact take_cons w p loose mean mg mb d l seed many i ts tm ti vs ns n k h0 h1 hm hm2 hdl (.cons i ti r) r (by simp at hlen; omega)
end Mine
end
section
open PySem PySem.W PyProof.Rows PySem.Calls
namespace Mine
local macro_rules | `(tactic| k_room) => `(tactic| ktr_room)
local macro_rules | `(tactic| k_units) => `(tactic| ktr_units)
local macro_rules | `(tactic| units_room) => `(tactic| ktr_units)
local macro_rules | `(tactic| walk_at "execs nil") => `(tactic| (k_here; refine wpAny_execs_nil ?_))
local macro_rules | `(tactic| walk_at "eval ListComp") => `(tactic| (k_here; refine stop ?_))

set_option maxRecDepth 100000 in
set_option maxHeartbeats 8000000 in
theorem draw_con (w : World) (p : Program) (loose : List Str) (mean : ExcName → Option Value) (mg mb : Str → Option Value) (sc : Addr) (vs : List Value) (ns : List Int) (hi : IntsAre vs ns) (hn : ns.length ≤ 63)
    (dp un : Nat) (gd : Option (List Code)) (cn : Str) (cs : Scope) (a : Addr) (ccd : Value) (cl : List (Str × Addr)) (outer : List Env) (A₀ : Around) (base h₀ : Heap) (L : Addr) (m : Str → Option Value) (s : Shared) (Q E : Value → Shared → Prop)
    (B : Below A₀ base outer h₀) (F : Fr h₀ L s.heap m) (X : (Mine.hd.heap_39 w.params).In h₀) (T : Top p loose mean mg mb h₀) (hk : cs.kind = .function) (hd : dp + 1 < recursionLimit) (hu : un + 500 < cLine) (hl : base.IsList sc vs.toArray)
    (hret : ∀ d l od ol h' tk', Fr h₀ L h' m → News h₀ L h' [(d, od), (l, ol)] → (∀ b o, s.heap.get? b = some o → h'.get? b = some o) → s.heap.get? d = none → s.heap.get? l = none → @Ne Nat d l → DrawIs l od ol → Q (.ref d) { s with heap := h', toks := tk' }) :
    wpAny (model PySem.Challenge.rw_at6012_01.row.prog w) (ktrTop dp un gd cn cs L a ccd cl outer) (call (.ref 78) [.ref sc]) Q E s := by
  w_top off
  revert X; k_fill; intro X
  refine wpAny_call ?_
  k_dflt (refine' enter_new ?k1 ?k2 ?k3 ?k5 ?kA ?kF ?kK ?k6 ?k7 ?k8 ?k9 ?kB ?_ ?c2 ?c3 ?c4 ?c5; (case kA => exact rfl); (case kF => exact rfl); (case kK => assumption); (case k1 => k_asm); (case k2 => k_asm); (case k3 => k_asm); (case k5 => k_asm); (case k6 => k_is); (case k7 => k_is); (case k8 => ktr_room); (case k9 => first | exact BindsTo.of_eq rfl | exact binds_K (by k_in) rfl (by k_is) rfl rfl rfl); (case c5 => decide); (case kB => exact locs rfl); (case c2 => exact rfl); (case c3 => exact rfl); (case c4 => exact rfl); k_whole; intro g' L' h' FG' F' N' B' X' T' hG; (try dsimp only); (try k_lift B'); (try k_fold))
  k_with "pyIter ref" => k_state (fun (_ : List Int) sd => 0 ≤ sd ∧ sd < 2147483647) "seed"
  k_with "state" => first | exact ⟨by decide, by decide⟩ | exact ⟨(fmod_in _ (by decide)).1, (fmod_in _ (by decide)).2⟩
  k_steps
  refine Stop.out ?_
  k_dflt (refine LCg.ListComp_U (F₀ := by k_asm) (by rfl) (by decide) (by rfl) (by decide) (by rfl) ?_)
  walk1
  refine LCg.CompSrc.base (by rfl) (by k_asm) (by k_asm) (by assumption) (by (rw [sizeLine_eq]; simp; omega)) ?_
  intro gg
  refine comp_inv (fun i ys nw => nw = [] ∧ ys.length = i ∧ ∃ ms, IntsAre ys ms ∧ ms.length = i) _ ?step ?fin _ 0 [] _ (Nat.zero_add _) ⟨rfl, rfl, [], .nil, rfl⟩
  case step =>
    rintro i ys news v I oI C oC D m₂ h tk E' hin ⟨rfl, hyl, ms, hms, hml⟩ hP hC hx F9 N9 off9 ne9
    obtain ⟨n, t, rfl, hn'⟩ := IntsAre.at (‹IntsAre vs ns›) i v (by simpa using hP)
    k_steps
    all_goals first | exact ints_snoc hms | rfl | (simp; omega)
  case fin =>
    rintro ys news ⟨rfl, hyl, ms, hms, hml⟩
    k_steps
    rename_i hkeep
    refine hret _ _ _ _ _ _ (by assumption) (news_two (by assumption)) hkeep (fresh_of hG (by assumption) (List.Mem.head _)) (fresh_of hG (by assumption) (List.Mem.tail _ (List.Mem.head _))) (by omega) ⟨_, _, _, _, _, _, rfl, rfl, by assumption, by omega, by assumption, by assumption⟩
end Mine
end
section
open PySem PySem.W PyProof.Rows PySem.Calls
namespace Mine
local macro_rules | `(tactic| k_room) => `(tactic| ktr_room)
local macro_rules | `(tactic| k_units) => `(tactic| ktr_units)
local macro_rules | `(tactic| units_room) => `(tactic| ktr_units)
local macro_rules | `(tactic| walk_at "eval ListComp") => `(tactic| (k_here; refine stop ?_))
local macro_rules | `(tactic| walk_at "CompSrc") => `(tactic| (k_here; refine stop ?_))
local macro_rules | `(tactic| walk_at "CompEnd") => `(tactic| (k_here; refine stop ?_))
local macro_rules | `(tactic| walk_at "call builtin:str.join") => `(tactic| (k_here; refine stop ?_))
local macro_rules | `(tactic| walk_at "call ref") => `(tactic| (k_here; (with_reducible show wpAny _ _ (call (Value.ref 85) _ _) _ _ _); k_dflt (refine (take_con _ _ _ _ _ _ _ _ _ _ _ _ (by assumption) (by decide) (by decide) (by k_ne)) _ _ _ _ _ _ _ _ _ _ _ _ _ _ _ _ _ (by k_asm) (by k_asm) (by k_asm) (kst_newsOf (by k_asm) (List.forall_mem_cons.mpr ⟨by k_mem, List.forall_mem_cons.mpr ⟨by k_mem, List.forall_mem_nil _⟩⟩)) (by k_asm) (by first | exact rfl | assumption) (by ktr_room) (by ktr_units) ?_); intro r9 news9 h9 tk9 F9 N9 keep9 hres; obtain ⟨od9, ol9, i9, ti9, hD9, hn9, hr9, hlo9, hhi9⟩ := hres; subst hn9; subst hr9; k_dflt (refine led_upd (by k_asm) (by k_upd) (by k_upd) N9 keep9 ?_); clear N9; intro N8; (try dsimp only at N8); (try dsimp only); (try k_fold)))

set_option maxRecDepth 100000 in
set_option maxHeartbeats 8000000 in
theorem row_con (w : World) (p : Program) (loose : List Str) (mean : ExcName → Option Value) (mg mb : Str → Option Value) (d l : Addr) (od ol : Obj) (hD : DrawIs l od ol) (hdl : @Ne Nat d l) :
    LCon 3 w p loose mean mg mb 90 [.ref d] [(d, od), (l, ol)] (fun r news' => ∃ od' ol' x tk, DrawIs l od' ol' ∧ news' = [(d, od'), (l, ol')] ∧ r = .str x tk ∧ RowOk x) := by
  w_top off
  unfold LCon
  k_fill
  intro dp un gd cn cs a ccd cl outer A₀ base h₀ L m s Q E B F X N T hk hd hu hret
  refine wpAny_call ?_
  k_dflt (refine' enter_cells _ ?k1 ?k2 ?k3 ?k4 ?k5 ?kA ?kF ?kK ?k6 ?k7 ?k8 ?k9 ?kB ?kD ?_ ?c2 ?c3 ?c4; (case kA => exact rfl); (case kF => exact rfl); (case kK => assumption); (case k1 => k_asm); (case k2 => k_asm); (case k3 => k_asm); (case k4 => k_asm); (case k5 => k_asm); (case k6 => k_is); (case k7 => k_is); (case k8 => ktr_room); (case k9 => first | exact BindsTo.of_eq rfl | exact binds_K (by k_in) rfl (by k_is) rfl rfl rfl); (case kB => exact rfl); (case kD => decide +kernel); (case c2 => exact rfl); (case c3 => exact rfl); (case c4 => exact rfl); k_whole; intro g' L' h' tk' cells' FG' F' N' Y' B' X' T' l1 hG; (try k_lt l1); k_cells Y'; (try simp only [List.cons_append, List.nil_append] at N'); (try dsimp only); (try k_lift B'); (try k_fold))
  k_steps
  all_goals
    refine Stop.out ?_
    k_dflt (refine LCg.ListComp_U (F₀ := by k_asm) (by rfl) (by decide) (by rfl) (by decide) (by rfl) ?_)
    k_steps
    refine Stop.out ?_
    k_dflt (refine src_range (news := [(L' + 1, _), (d, _), (l, _)]) (by assumption) (by omega) (by rfl) (by k_asm) (kst_newsOf (by k_asm) (List.forall_mem_cons.mpr ⟨by k_mem, List.forall_mem_cons.mpr ⟨by k_mem, List.forall_mem_cons.mpr ⟨by k_mem, List.forall_mem_nil _⟩⟩⟩)) (by assumption) ?_)
    intro nn gg hnn
    refine comp_inv (fun i ys nw => ∃ co od' ol' ss, co.data = Data.cell (some (.ref d)) ∧ DrawIs l od' ol' ∧ nw = [(L' + 1, co), (d, od'), (l, ol')] ∧ StrsAre ys ss ∧ ss.length = i ∧ (∀ z ∈ ss, z.length ≤ 6)) _ ?step ?fin _ 0 [] _ (Nat.zero_add _) ⟨_, _, _, [], by with_unfolding_all assumption, by assumption, rfl, .nil, rfl, fun _ h => nomatch h⟩
    case step =>
      rintro i ys news v I oI C oC D m₂ h tk E' hin ⟨co, od', ol', ss, hco, hD', rfl, hss, hsl, hsz⟩ hP hC hx F9 N9 off9 ne9
      obtain ⟨tP, rfl⟩ := hP
      have off8 := off9
      (try simp only [LCg.Off3, and_true] at off9)
      k_steps
      refine Stop.out ?_
      rename News _ _ _ _ => N8'
      refine LCg.CompEnd.intro (by k_asm) N8' [(L' + 1, co), (d, _), (l, _)] (by lcg_sub) ?_ trivial ⟨co, _, _, ss ++ [_], hco, by assumption, rfl, StrsAre.append' hss (.cons _ _ .nil), by simp; omega, fun z hz => ?_⟩
      · exact off8
      · rcases List.mem_append.mp hz with hz | hz
        · exact hsz z hz
        · rw [List.mem_singleton.mp hz]; exact piece_len _
    case fin =>
      rintro ys news ⟨co, od', ol', ss, hco, hD', rfl, hss, hsl, hsz⟩
      k_steps
      refine Stop.out ?_
      k_dflt (refine join_list (News.isList (by k_asm) (by k_mem)) hss ?tot ?_)
      case tot => exact join_tot hsz (by omega)
      intro tj kj
      have hjl := join_len hsz
      k_steps
      rename_i hkeep
      exact hret _ _ _ _ (by assumption) (kst_newsOf (by assumption) (List.forall_mem_cons.mpr ⟨by k_mem, List.forall_mem_cons.mpr ⟨by k_mem, List.forall_mem_nil _⟩⟩)) hkeep ⟨_, _, _, _, hD', rfl, rfl, row_ok (by decide +kernel) (by omega) (by first | exact start1 | exact start2 | exact start3)⟩
end Mine
end
section
open PySem PySem.W PyProof.Rows PySem.Calls
namespace Mine
local macro_rules | `(tactic| k_room) => `(tactic| ktr_room)
local macro_rules | `(tactic| k_units) => `(tactic| ktr_units)
local macro_rules | `(tactic| units_room) => `(tactic| ktr_units)
local macro_rules | `(tactic| walk_at "subscriptTail") => `(tactic| (k_here; (with_reducible show wpAny _ _ (subscriptTail _ (Expr.Slice none (some _) none _) (Value.str _ _) (Value.ref _)) _ _ _); k_dflt (refine slice_strN_ns (hsz := getD_size (by assumption) _) (s := ⟨_, _, _, _, _⟩) (by k_asm) (by k_asm) ?_); intro h9 t9 k9 F9 N9))
local macro_rules | `(tactic| walk_at "call type:range") => `(tactic| (k_here; (with_reducible show wpAny _ _ (call (Value.type "range") [Value.int _ _]) _ _ _); k_dflt (refine range1_rows (by k_asm) (by k_asm) ?_); intro h9 tk9 t19 u19 v19 R9 F9 N9 k9))
local macro_rules | `(tactic| walk_at "pyIter ref") => `(tactic| (k_here; refine stop ?_))
local macro_rules | `(tactic| walk_at "call builtin:list.append") => `(tactic| (k_here; (with_reducible show wpAny _ _ (call (Value.builtin _) [Value.ref _, _]) _ _ _); k_dflt (refine app_led (by k_asm) (by k_asm) (by assumption) (by (simp only [List.length_append, List.length_cons, List.length_nil] at *); omega) ?_); intro h9 F9 N9))
local macro_rules | `(tactic| walk_at "InvEndN") => `(tactic| (k_here; refine stop ?_))
local macro_rules | `(tactic| walk_at "subscriptTail Name BinOp ref int") => `(tactic| (k_here; (with_reducible show wpAny _ _ (subscriptTail _ _ (Value.ref _) (Value.int _ _)) _ _ _); k_dflt (refine item_strsA (Fr.lst (by k_asm) (by assumption)) (by assumption) (by omega) (by omega) (by omega) ?_); intro t9))
local macro_rules | `(tactic| walk_at "subscriptTail Name Name ref int") => `(tactic| (k_here; (with_reducible show wpAny _ _ (subscriptTail _ _ (Value.ref _) (Value.int _ _)) _ _ _); k_dflt (refine item_strsA (Fr.lst (by k_asm) (by assumption)) (by assumption) (by omega) (by omega) (by omega) ?_); intro t9))
local macro_rules | `(tactic| walk_at "execs nil") => `(tactic| (k_here; refine wpAny_execs_nil ?_))
local macro_rules | `(tactic| walk_at "execs cons") => `(tactic| (k_here; refine wpAny_execs_cons ?_))

set_option maxRecDepth 100000 in
set_option maxHeartbeats 3000000 in
theorem spaced_con (w : World) (p : Program) (loose : List Str) (mean : ExcName → Option Value) (mg mb : Str → Option Value) (R : Addr) (vs : List Value) (ss : List Str) (hss : StrsAre vs ss) (hn : ss.length ≤ 1048576) (hlen : ∀ z ∈ ss, z.length ≤ 100)
    (dp un : Nat) (gd : Option (List Code)) (cn : Str) (cs : Scope) (a : Addr) (ccd : Value) (cl : List (Str × Addr)) (outer : List Env) (A₀ : Around) (base h₀ : Heap) (L : Addr) (m : Str → Option Value) (s : Shared) (Q E : Value → Shared → Prop)
    (B : Below A₀ base outer h₀) (F : Fr h₀ L s.heap m) (X : (Mine.hd.heap_39 w.params).In h₀) (T : Top p loose mean mg mb h₀) (hk : cs.kind = .function) (hd : dp + 1 < recursionLimit) (hu : un + 500 < cLine) (hR : s.heap.IsList R vs.toArray)
    (hret : ∀ (D : Addr) (ws : List Value) (n : Nat) (h' : Heap) (tk' : Nat), Fr h₀ L h' m → (∀ b o, s.heap.get? b = some o → h'.get? b = some o) → s.heap.get? D = none → News h₀ L h' [(D, W.listOf ws.toArray n)] → StrsAre ws (spacedF ss) → Q (.ref D) { s with heap := h', toks := tk' }) :
    wpAny (model PySem.Challenge.rw_at6012_01.row.prog w) (ktrTop dp un gd cn cs L a ccd cl outer) (call (.ref 116) [.ref R]) Q E s := by
  w_top off
  revert X; k_fill; intro X
  refine wpAny_call ?_
  k_dflt (refine' enter_new ?k1 ?k2 ?k3 ?k5 ?kA ?kF ?kK ?k6 ?k7 ?k8 ?k9 ?kB ?_ ?c2 ?c3 ?c4 ?c5; (case kA => exact rfl); (case kF => exact rfl); (case kK => assumption); (case k1 => k_asm); (case k2 => k_asm); (case k3 => k_asm); (case k5 => k_asm); (case k6 => k_is); (case k7 => k_is); (case k8 => ktr_room); (case k9 => first | exact BindsTo.of_eq rfl | exact binds_K (by k_in) rfl (by k_is) rfl rfl rfl); (case c5 => decide); (case kB => exact locs rfl); (case c2 => exact rfl); (case c3 => exact rfl); (case c4 => exact rfl); k_whole; intro g' L' h' FG' F' N' B' X' T' hG; (try dsimp only); (try k_lift B'); (try k_fold))
  have hg : g'.IsList R vs.toArray := hR.at (fun o e => hG _ o e)
  k_steps
  refine Stop.out ?_
  k_dflt (refine kst_range (σ := List Value × Nat) (fun c => [(_, W.listOf c.1.toArray c.2)]) (fun _ => []) (fun _ => True) [] (fun pre c => StrsAre c.1 (spacedTo ss pre.length)) ([], 0) (n := ss.length) (by rfl) (by k_asm) (small_one (by decide) (by decide) (by omega) (by omega)) (by rw [rangeSize_nat]; omega) (by k_asm) (by k_asm) trivial (by simp) .nil ?turn ?done)
  case turn =>
    rintro ⟨cv, cn9⟩ pre k t u h tk own hk' hlt hoff hT hP F9 N9
    obtain rfl : k = (pre.length : Int) := by omega
    (try dsimp only [kstB] at F9); (try dsimp only at N9); (try dsimp only at hP); (try simp only [List.nil_append, List.cons_append, List.append_nil] at N9)
    have hoff9 := OwnOff.ne hoff (List.Mem.head _)
    have hcl := Nat.le_trans (Nat.le_of_eq (StrsAre.len_eq hP)) (spacedTo_len ss pre.length)
    k_steps
    all_goals (refine Stop.out ?_)
    all_goals (k_dflt (refine kst_end (⟨_, _⟩ : List Value × Nat) (by assumption) (by assumption) (by exact List.forall_mem_cons.mpr ⟨List.Mem.head _, List.forall_mem_nil _⟩) (by exact fun p hp => List.Mem.tail _ hp) (by exact rfl) trivial (fun _ h => nomatch h) (fun z h1 h2 h3 => (if_neg h1).trans rfl) ?_))
    all_goals (show StrsAre _ (spacedTo ss (pre ++ [_]).length); rw [List.length_append]; clear F9 N9)
    all_goals (simp only [Int.toNat_natCast, Int.pred_toNat] at *)
    all_goals first | exact spaced_yes hP (by simp_all [spaceBefore]) | exact spaced_no hP (by simp_all [spaceBefore])
  case done =>
    rintro ⟨cv, cn9⟩ u h tk hT hP F9 N9
    (try dsimp only [kstB] at F9); (try dsimp only at N9); (try dsimp only at hP)
    rw [rangeKs_length] at hP
    k_steps
    rename_i hkeep9

    exact hret _ _ _ _ _ (by assumption) hkeep9 (fresh_of hG N9 (List.Mem.head _)) (by assumption) hP

end Mine
end
section
open PySem PySem.W PyProof.Rows PySem.Calls
namespace Mine
local macro_rules | `(tactic| k_room) => `(tactic| ktr_room)
local macro_rules | `(tactic| k_units) => `(tactic| ktr_units)
local macro_rules | `(tactic| units_room) => `(tactic| ktr_units)
local macro_rules | `(tactic| walk_at "exec While BoolOp cons nil") => `(tactic| (k_here; refine stop ?_))
local macro_rules | `(tactic| walk_at "exec While") => `(tactic| (k_here; refine stop ?_))
local macro_rules | `(tactic| walk_at "truthy ref") => `(tactic| (k_here; k_dflt (refine wpAny_truthy_list (News.isList (by assumption) (List.Mem.head _)) (by simp; omega) ?_); (simp only [List.size_toArray, Array.isEmpty, List.length_append, List.length_singleton])))
local macro_rules | `(tactic| walk_at "call builtin:list.append") => `(tactic| (k_here; k_dflt (refine app_led (own := []) (by k_asm) (by k_asm) (List.forall_mem_nil _) (by (simp only [List.length_append, List.length_cons, List.length_nil] at *); omega) ?_); intro h9 F9 N9))
local macro_rules | `(tactic| walk_at "call builtin:list.pop") => `(tactic| (k_here; k_dflt (refine pop_last (own := []) (by k_asm) (by k_asm) (List.forall_mem_nil _) (by omega) ?_); intro h9 F9 N9))
local macro_rules | `(tactic| walk_at "subscriptTail") => `(tactic| (k_here; k_dflt (refine last_item (News.isList (by assumption) (List.Mem.head _)) ?_)))
local macro_rules | `(tactic| walk_at "KswEnd") => `(tactic| (k_here; refine stop ?_))

set_option maxRecDepth 100000 in
set_option maxHeartbeats 1500000 in
theorem norm_con (w : World) (p : Program) (loose : List Str) (mean : ExcName → Option Value) (mg mb : Str → Option Value) (R : Addr) (vs : List Value) (ss : List Str) (n : Nat) (hss : StrsAre vs ss) (hn : ss.length ≤ 1048576) (hlen : ∀ z ∈ ss, z.length ≤ 100) :
    LCon 1 w p loose mean mg mb 66 [.ref R] [(R, W.listOf vs.toArray n)] (fun r news' => r = .ref R ∧ ∃ ws k, news' = [(R, W.listOf ws.toArray k)] ∧ StrsAre ws (normF ss)) := by
  w_top off
  unfold LCon
  k_fill
  intro dp un gd cn cs a ccd cl outer A₀ base h₀ L m s Q E B F X N T hk hd hu hret
  refine wpAny_call ?_
  k_dflt (refine' enter_led _ ?k1 ?k2 ?k3 ?k4 ?k5 ?kA ?kF ?kK ?k6 ?k7 ?k8 ?k9 ?kB ?_ ?c2 ?c3 ?c4 ?c5; (case kA => exact rfl); (case kF => exact rfl); (case kK => assumption); (case k1 => k_asm); (case k2 => k_asm); (case k3 => k_asm); (case k4 => k_asm); (case k5 => k_asm); (case k6 => k_is); (case k7 => k_is); (case k8 => ktr_room); (case k9 => first | exact BindsTo.of_eq rfl | exact binds_K (by k_in) rfl (by k_is) rfl rfl rfl); (case c5 => decide); (case kB => exact locs rfl); (case c2 => exact rfl); (case c3 => exact rfl); (case c4 => exact rfl); k_whole; intro g' L' h' FG' F' N' B' X' T'; (try dsimp only); (try k_lift B'); (try k_fold))

  k_steps
  refine Stop.out ?_
  k_dflt (refine ksw_while (σ := List Value × List Str × Nat) (fun c => [(R, W.listOf c.1.toArray c.2.2)]) (fun _ => []) (fun _ => True) [] (fun c => StrsAre c.1 c.2.1 ∧ dropEnd c.2.1 = dropEnd ss ∧ c.2.1.length ≤ ss.length ∧ ∀ z ∈ c.2.1, z.length ≤ 100) (fun c => c.2.1.length) (vs, ss, n) (by assumption) (by assumption) trivial (fun _ h => nomatch h) ⟨hss, rfl, Nat.le_refl _, hlen⟩ ?turn)
  rintro ⟨cv, cs9, cn9⟩ u h tk - ⟨hP, hE, hL, hZ⟩ F9 N9
  (try dsimp only [kstB] at F9); (try dsimp only at N9); (try dsimp only at hP); (try dsimp only at hE); (try dsimp only at hL); (try dsimp only at hZ)
  rcases list_end cs9 with rfl | ⟨ys, y, rfl⟩
  · cases hP
    k_steps
    rename_i hkeep
    exact hret _ _ _ _ (by assumption) (by assumption) hkeep ⟨rfl, _, _, rfl, by rw [normF, ← hE]; exact .cons _ _ .nil⟩
  · obtain ⟨ws, t9, rfl, hw⟩ := strs_inv hP
    have hy : y.length ≤ 100 := hZ y (by simp)
    have hlw := StrsAre.len_eq hw
    rw [List.length_append, List.length_singleton] at hL
    k_steps
    · refine Stop.out ?_
      k_dflt (refine ksw_end (⟨ws, ys, _⟩ : List Value × List Str × Nat) (by assumption) (by assumption) (by exact List.forall_mem_cons.mpr ⟨List.Mem.head _, List.forall_mem_nil _⟩) trivial (fun _ h => nomatch h) (fun _ _ _ => rfl) ⟨hw, ?_, ?_, ?_⟩ ?_)
      · rw [← hE, dropEnd_yes (by simp only [blankRow]; assumption)]
      · exact Nat.le_of_succ_le hL
      · exact fun z hz => hZ z (by simp [hz])
      · simp
    · rename_i hkeep
      refine hret _ _ _ _ (by assumption) (by assumption) hkeep ⟨rfl, _, _, rfl, ?_⟩
      rw [normF, ← hE, dropEnd_no (by simp only [blankRow]; first | assumption | simp_all)]
      exact hP.append' (.cons _ _ .nil)
end Mine
end
section
open PySem PySem.W PyProof.Rows PySem.Calls
namespace Mine
local macro_rules | `(tactic| k_room) => `(tactic| ktr_room)
local macro_rules | `(tactic| k_units) => `(tactic| ktr_units)
local macro_rules | `(tactic| units_room) => `(tactic| ktr_units)
local macro_rules | `(tactic| walk_at "exec For Tuple Call cons nil") => `(tactic| (k_here; (rename Fr _ _ _ _ => lF'); (with_unfolding_all refine' For_turns lF' ?_; k_whole)))
local macro_rules | `(tactic| walk_at "call type:zip") => `(tactic| (k_here; refine stop ?_))
local macro_rules | `(tactic| walk_at "StarOf ref") => `(tactic| (k_here; k_dflt (refine star_seq (by k_asm) (by k_asm) (by k_mem) rfl rfl (.inl rfl) List.toList_toArray (by rw [sizeLine_eq, List.size_toArray]; omega) ?_); intro h' F' N'; (try k_sweep); try dsimp only [List.nil_append, List.cons_append]))
local macro_rules | `(tactic| walk_at "call builtin:list.append") => `(tactic| (k_here; (with_reducible show wpAny _ _ (call (Value.builtin _) [Value.ref _, _]) _ _ _); k_dflt (refine' app_upd ?F ?N ?U ?z ?_; (case F => k_asm); (case N => k_asm); (case U => k_upd); (case z => ((try simp only [List.length_append, List.length_cons, List.length_nil]); omega))); intro h' F' N'; (try k_sweep)))
local macro_rules | `(tactic| walk_at "ItemsRest") => `(tactic| (k_here; refine stop ?_))
local macro_rules | `(tactic| walk_at "UnrEndW") => `(tactic| (k_here; refine stop ?_))

set_option maxRecDepth 100000 in
set_option maxHeartbeats 1500000 in
theorem ens_con (w : World) (p : Program) (loose : List Str) (mean : ExcName → Option Value) (mg mb : Str → Option Value) (R : Addr) (vs : List Value) (ss : List Str) (n : Nat) (hss : StrsAre vs ss) (hn : ss.length ≤ 1048576) (hlen : ∀ z ∈ ss, z.length ≤ 100) (hR : @LT.lt Nat _ 100 R) :
    LConP 2 (fun h => CodeHd h 72 68) w p loose mean mg mb 73 [.ref R] [(R, W.listOf vs.toArray n), (68, tabObj #[])] (fun r news' => ∃ D ws k, r = .ref D ∧ (D, W.listOf ws.toArray k) ∈ news' ∧ (∃ ps, (68, tabObj ps) ∈ news') ∧ StrsAre ws (ensF ss)) := by
  w_top off
  unfold LConP
  k_fill
  intro dp un gd cn cs a ccd cl outer A₀ base h₀ L m s Q E C B F X N T hk hd hu hret
  refine wpAny_call ?_
  k_dflt (refine' enter_led _ ?k1 ?k2 ?k3 ?k4 ?k5 ?kA ?kF ?kK ?k6 ?k7 ?k8 ?k9 ?kB ?_ ?c2 ?c3 ?c4 ?c5; (case kA => exact rfl); (case kF => exact rfl); (case kK => assumption); (case k1 => k_asm); (case k2 => k_asm); (case k3 => k_asm); (case k4 => k_asm); (case k5 => k_asm); (case k6 => k_is); (case k7 => k_is); (case k8 => ktr_room); (case k9 => first | exact BindsTo.of_eq rfl | exact binds_K (by k_in) rfl (by k_is) rfl rfl rfl); (case c5 => decide); (case kB => exact locs rfl); (case c2 => exact rfl); (case c3 => exact rfl); (case c4 => exact rfl); k_whole; intro g' L' h' FG' F' N' B' X' T'; have C9 : CodeHd g' 72 68 := C.keeps (FG'.keep); (try dsimp only); (try k_lift B'); (try k_fold))

  have hvl := StrsAre.len_eq hss
  k_steps
  refine Stop.out ?_
  rename Fr _ _ _ _ => lF
  rename News _ _ _ _ => N9
  simp only [List.append_nil] at N9
  with_unfolding_all refine ktu_zip (xs := vs) (ys := .none :: vs) (by rfl) lF N9 (by k_mem) (by rfl) (by rfl) (by k_mem) (by rfl) (by rfl) ?_
  intro I hI
  k_lt hI
  clear N9
  refine zip_state (σ := List Value × Nat) (fun c => [(_, _), (_, _), (_, _), (_, W.listOf c.1.toArray c.2), (_, _), (_, _)]) [Str.ofString "line", Str.ofString "prev_line"] (fun i c => StrsAre c.1 (spacedTo ss i)) ([], 0) .nil (fun c => by k_subL) ?turn ?done
  case turn =>
    rintro i a9 ⟨cv, cn9⟩ u v h9 tk9 ha hP hv F9
    k_dflt ktu_objs
    rename News _ _ _ _ => N9
    (try dsimp only at N9); (try dsimp only [kstB] at F9); (try dsimp only at hP); (try dsimp only)
    obtain ⟨hi, T9, tx, rfl, hT⟩ := zip_at hss ha hv
    have hcl := Nat.le_trans (Nat.le_of_eq (StrsAre.len_eq hP)) (spacedTo_len ss i)
    have hgl := getD_len hlen i
    have hgl2 := getD_len hlen (i - 1)
    rcases hT with ⟨hi0, hT⟩ | ⟨ty, hi0, hT⟩
    · k_steps
      all_goals (refine Stop.out ?_; k_dflt ktu_end)
      all_goals (refine zip_end (by k_subL) ?_ (by (intro z hz; obtain ⟨z1, z2⟩ := not_in2 hz; exact (if_neg z2).trans ((if_neg z1).trans ((if_neg (by rw [hz]; exact Bool.false_ne_true)).trans rfl)))))
      all_goals first
        | (refine spaced_no hP ?_; rw [before_eq, starts_empty (by assumption)]; rfl)
        | (refine spaced_yes hP ?_; rw [before0 hi0]; assumption; done)
        | (refine spaced_no hP ?_; rw [before0 hi0]; assumption; done)
    · k_steps
      all_goals (refine Stop.out ?_; k_dflt ktu_end)
      all_goals (refine zip_end (by k_subL) ?_ (by (intro z hz; obtain ⟨z1, z2⟩ := not_in2 hz; exact (if_neg z2).trans ((if_neg z1).trans ((if_neg (by rw [hz]; exact Bool.false_ne_true)).trans rfl)))))
      all_goals first
        | (refine spaced_no hP ?_; rw [before_eq, starts_empty (by assumption)]; rfl)
        | (refine spaced_yes hP ?_; rw [before1 hi0]; simp only [*, Bool.and_true, Bool.true_and, Bool.and_false, Bool.false_and, Bool.not_true, Bool.not_false]; done)
        | (refine spaced_no hP ?_; rw [before1 hi0]; simp only [*, Bool.and_true, Bool.true_and, Bool.and_false, Bool.false_and, Bool.not_true, Bool.not_false]; done)
        | (have h9 := starts_empty (x := ss.getD (i - 1) Str.empty) (by assumption); refine spaced_yes hP ?_; rw [before1 hi0]; simp only [*, Bool.and_true, Bool.true_and, Bool.and_false, Bool.false_and, Bool.not_true, Bool.not_false]; done)
  case done =>
    rintro ⟨cv, cn9⟩ u h9 tk9 hP F9 N9
    (try dsimp only at N9); (try dsimp only [kstB] at F9); (try dsimp only at hP); (try dsimp only)
    rw [zip_len, hvl] at hP
    k_steps
    rename_i hkeep
    exact hret _ _ _ _ (by assumption) (by assumption) hkeep ⟨_, _, _, rfl, by k_mem, ⟨_, by k_mem⟩, hP⟩
end Mine
end
section
open PySem PySem.W PyProof.Rows PySem.Calls
namespace Mine
theorem regrown_at {h : Heap} {P : Addr} {ps : Array Value} (hp : @LT.lt Nat _ P h.objs.size) : (regrown h P ps).get? P = some (tabObj ps) := by
  obtain ⟨objs, l⟩ := h
  have hp' : @LT.lt Nat _ P objs.size := hp
  show Heap.get? ⟨objs.modify P fun _ => tabObj ps, l⟩ P = _
  unfold Heap.get?
  rw [show (objs.modify P fun _ => tabObj ps)[P]? = some (tabObj ps) by rw [Array.getElem?_modify, if_pos rfl, Array.getElem?_eq_getElem hp']; rfl]
theorem regrown_keep {h : Heap} {P : Addr} {ps : Array Value} (hn : h.get? P = none) (b : Addr) (o : Obj) (e : h.get? b = some o) : (regrown h P ps).get? b = some o := by
  have hb : b ≠ P := fun q => by rw [q, hn] at e; cases e
  exact (Heap.get?_update_ne h b P _ hb).trans e
theorem regrown_of {h : Heap} {P : Addr} {ps : Array Value} (b : Addr) (o : Obj) (hb : @Ne Nat b P) (e : (regrown h P ps).get? b = some o) : h.get? b = some o := (Heap.get?_update_ne h b P _ hb).symm.trans e
theorem regrown_size {h : Heap} {P : Addr} {ps : Array Value} : (regrown h P ps).objs.size = h.objs.size := by
  obtain ⟨objs, l⟩ := h
  exact Array.size_modify
theorem fr_regrown {g h : Heap} {L P : Addr} {m : Str → Option Value} {ps : Array Value} (F : Fr g L h m) (e : h.get? P = some (tabObj ps)) : Fr (regrown g P ps) L h m := by
  refine ⟨F.ns, fun b o q => ?_, by rw [regrown_size]; exact F.above⟩
  by_cases hb : b = P
  · subst hb
    by_cases hp : @LT.lt Nat _ b g.objs.size
    · rw [regrown_at hp] at q; cases q; exact e
    · exact absurd (regrown_size (P := b) (ps := ps) ▸ Heap.lt_size q) hp
  · exact F.keep b o (regrown_of b o hb q)
local macro_rules | `(tactic| k_room) => `(tactic| ktr_room)
local macro_rules | `(tactic| k_units) => `(tactic| ktr_units)
local macro_rules | `(tactic| units_room) => `(tactic| ktr_units)
local macro_rules | `(tactic| walk_at "eval GeneratorExp") => `(tactic| (k_here; refine stop ?_))
local macro_rules | `(tactic| walk_at "pyIter ref") => `(tactic| (k_here; refine stop ?_))
local macro_rules | `(tactic| walk_at "call builtin:str.splitlines") => `(tactic| (k_here; refine stop ?_))

set_option maxRecDepth 100000 in
set_option maxHeartbeats 3000000 in
theorem ind_con (w : World) (p : Program) (loose : List Str) (mean : ExcName → Option Value) (mg mb : Str → Option Value) (x q : Str) (t1 t2 : Tok) (hx : x.length ≤ 100) (hq : q.length ≤ 3)
    (dp un : Nat) (gd : Option (List Code)) (cn : Str) (cs : Scope) (a : Addr) (ccd : Value) (cl : List (Str × Addr)) (outer : List Env) (A₀ : Around) (base h₀ : Heap) (L : Addr) (m : Str → Option Value) (s : Shared) (Q E : Value → Shared → Prop)
    (B : Below A₀ base outer h₀) (F : Fr h₀ L s.heap m) (X : (Mine.hd.heap_39 w.params).In h₀) (N : News h₀ L s.heap [(40, tabObj #[])]) (T : Top p loose mean mg mb h₀) (hk : cs.kind = .function) (hd : dp + 3 < recursionLimit) (hu : un + 1500 < cLine)
    (C : CodeHd h₀ 44 40) (G : AllBare s.gens)
    (hret : ∀ (tk : Tok) (ps : Array Value) (s' : Shared), Fr h₀ L s'.heap m → News h₀ L s'.heap [(40, tabObj ps)] → (∀ b o, @Ne Nat b 40 → s.heap.get? b = some o → s'.heap.get? b = some o) → AllBare s'.gens → s'.os = s.os → Q (.str (indF q x) tk) s') :
    wpAny (model PySem.Challenge.rw_at6012_01.row.prog w) (ktrTop dp un gd cn cs L a ccd cl outer) (call (.ref 45) [.str x t1, .str q t2]) Q E s := by
  w_top off
  revert X; k_fill; intro X
  refine wpAny_call ?_
  k_dflt (refine' enter_cells [(40, tabObj #[])] ?k1 ?k2 ?k3 ?k4 ?k5 ?kA ?kF ?kK ?k6 ?k7 ?k8 ?k9 ?kB ?kD ?_ ?c2 ?c3 ?c4; (case kA => exact rfl); (case kF => exact rfl); (case kK => assumption); (case k1 => k_asm); (case k2 => k_asm); (case k3 => k_asm); (case k4 => k_asm); (case k5 => k_asm); (case k6 => k_is); (case k7 => k_is); (case k8 => ktr_room); (case k9 => first | exact BindsTo.of_eq rfl | exact binds_K (by k_in) rfl (by k_is) rfl rfl rfl); (case kB => exact rfl); (case kD => decide +kernel); (case c2 => exact rfl); (case c3 => exact rfl); (case c4 => exact rfl); k_whole; intro g' L' h' tk' cells' FG' F' N' Y' B' X' T' l1 hG; (try k_lt l1); k_cells Y'; (try simp only [List.cons_append, List.nil_append, List.append_nil] at N'); (try dsimp only); (try k_lift B'); (try k_fold))
  k_steps
  refine Stop.out ?_
  have C9 : CodeHd g' 44 40 := C.keeps FG'.keep
  have hn40 : g'.get? 40 = none := (N' _ (List.Mem.tail _ (List.Mem.head _))).2.2
  have hs40 : @LT.lt Nat _ 40 g'.objs.size := Nat.lt_trans (by decide) (Heap.lt_size (X' 45 _ (by k_is)))
  have hcell40 : @Ne Nat (L' + 1) 40 := Nat.ne_of_gt (Nat.lt_succ_of_lt (Nat.lt_of_lt_of_le hs40 F'.above))
  have g40 := regrown_at (ps := #[]) hs40
  have kp := regrown_keep (ps := #[]) hn40
  have T9 := T'.keeps kp
  obtain ⟨bm, ob, M9⟩ := bmod_of_top T9
  have C8 := C9.keeps kp
  have B9 := Based.start (C8.code g40 trivial) (C8.tab g40) (by decide)
  have F9 := fr_regrown F' (N' _ (List.Mem.tail _ (List.Mem.head _))).1
  k_dflt (refine LGe.GeneratorExp_K F9 B9 M9 rfl rfl rfl rfl rfl (by decide) rfl rfl rfl (by ktr_room) ?h (fun _ => rfl))
  clear F9
  k_steps
  k_dflt (refine callWith_bkw0 rfl rfl ?_)
  k_steps
  refine Stop.out ?_
  k_dflt (refine lines_keep F' N' ?_ (by rw [sizeLine_eq]; omega) (Nat.le_trans (keptCuts_le x) (by rw [sizeLine_eq]; omega)))
  intro vs h1 k1 hvs F1 N1 hk1
  have F1r := fr_regrown F1 (N1 _ (List.Mem.tail _ (List.Mem.tail _ (List.Mem.head _)))).1
  have hL1 : @LT.lt Nat _ L' h1.objs.size := F1.ns.lt
  k_dflt (refine src_list (K := h1.objs.size - 1) (pz := fun _ => true) (F := fun i v => ∃ t, v = .str (indRow q ((keptRows x).getD i Str.empty)) t) B9 (News.isList N1 (List.Mem.head _)) F1r G (T'.nolimit.keeps F1.keep) (Nat.le_sub_one_of_lt hL1) (Nat.sub_one_lt_of_lt hL1) ?hq1 ?hq2 ?hQ)
  case hq1 =>
    intros
    exact wpAny_pure ⟨rfl, _, _, rfl, fun _ _ e => e⟩
  case hq2 =>
    intro c' C' A' E' i v t m₂ hA hdp hun hi hpz F2 hm2 hLC hk2
    obtain ⟨tv, ev⟩ := strs_getD hvs i (by rw [List.getElem?_toArray] at hi; exact (List.getElem?_eq_some_iff.mp hi).1)
    rw [List.getElem?_toArray, ev] at hi
    cases hi
    have hy := keptRows_each (x := x)
    have hy := getD_len hy i
    generalize hyy : (keptRows x).getD i Str.empty = y at hm2 hy ⊢
    have hv9 : t.heap.IsCell (L' + 1) (some (.str q t2)) := ⟨_, hk2 _ _ hcell40 (N1 _ (List.Mem.tail _ (List.Mem.head _))).1, by with_unfolding_all assumption⟩
    clear hk2 hpz ev N1 F1r F1 hvs B9 M9 T9 B'
    k_dflt (refine IfExp_ (isTrue_plain (MethodCall_ ?_)))
    k_dflt (refine ldVarG F2 hm2 ?_)
    refine GM.strip ?_
    refine callWith_method0 ?_
    refine SCL.strip (fun t' k hle => ?_) (by rw [sizeLine_eq]; omega)
    refine SBL.truthy (by omega) ?_
    by_cases h0 : (Txt.strip y).length = 0
    · rw [if_neg (by rw [h0]; decide)]
      k_dflt (refine ldVarG F2 hm2 ?_)
      have e : indRow q y = y := if_pos h0
      rw [e]
      exact ⟨⟨_, rfl⟩, _, _, rfl, fun _ _ e => e⟩
    · rw [if_pos (by simp; exact h0)]
      k_dflt (refine wpAny_BinOp (ldFreeG rfl hv9 (ldVarG F2 hm2 ?_)))
      have e : indRow q y = q ++ y := if_neg h0
      refine PyProof.Rows.add_str (fun t' k => ?_) (by rw [sizeLine_eq]; omega)
      rw [e]
      exact ⟨⟨_, rfl⟩, _, _, rfl, fun _ _ e => e⟩
  case hQ =>
    intro c' a' s₅ B5 F5 G5 hos5 hk5 X5
    k_dflt (refine spliced_nil ?_)
    have hlen : (passing (fun _ => true) vs.toArray.size 0).length = (keptRows x).length := by rw [passing_all, List.length_range, List.size_toArray]; exact StrsAre.len_eq hvs
    rw [hlen, passing_all] at X5
    k_dflt (refine join_rowsK F5 G5 X5 (Nat.le_sub_one_of_lt hL1) (fun j => indRow q ((keptRows x).getD j Str.empty)) ?htx ?hok ?hQ (by have := keptRows_len x; rw [sizeLine_eq]; omega))
    case htx =>
      rintro j v ⟨i, hi, t, rfl⟩
      obtain ⟨_, hi⟩ := List.getElem?_eq_some_iff.mp hi
      rw [List.getElem_range] at hi
      subst hi
      exact ⟨t, rfl⟩
    case hok =>
      rw [range_rows]
      exact indRows_ok hq hx
    case hQ =>
      intro s6 t6 F6 G6 hos6 hk6
      rw [range_rows]
      have F7 : Fr g' L' s6.heap _ := ⟨F6.ns, fun b o e => F6.keep b o ((Heap.get?_update_ne _ b 40 _ (fun q => by rw [q, hn40] at e; cases e)).trans (kp b o e)), by have := F6.above; rwa [regrown_size, regrown_size] at this⟩
      have N7 : News g' L' s6.heap [(40, tabObj _)] := fun p hp => by
        rw [List.mem_singleton.mp hp]
        exact ⟨F6.keep 40 _ (regrown_at (by rw [regrown_size]; exact hs40)), Nat.ne_of_lt (Nat.lt_of_lt_of_le hs40 F'.above), hn40⟩
      show LeaveK _ _ _ _ _ _ _
      refine leaveK_ F7 N7 ?_
      intro kF kN kk
      exact hret _ _ _ kF kN (fun b o hb e => kk b o (by simpa using hb) e) G6 (hos6.trans hos5)
end Mine
end
section
open PySem PySem.W PyProof.Rows PySem.Calls
namespace Mine
/-- the law's own statements and names, read out of the row's text -/
def lawDef : List Stmt × Scope := match PySem.Challenge.pw_at6012_01.main.body.getLast? with
  | some (.FunctionDef _ _ b _ _ _ sc _ _ _) => (b, sc)
  | _ => ([], { kind := .function, names := [], isGenerator := false, isCoroutine := false })
def lawBody : List Stmt := lawDef.1
def lawScope : Scope := lawDef.2
end Mine
end
section
open PySem PySem.W PyProof.Rows PySem.Calls PySem.Spec PyProof.V PySem.SeqAt
namespace Mine
def SignsAll (ns : List Str) : Prop := ∀ z ∈ ns, PyData.strOk z = true
theorem strs_lay : ∀ ns : List Str, SignsAll ns → PyData.canLayAll0 (ns.map PyData.str) = true
  | [], _ => rfl
  | a :: r, h => by simp [PyData.canLayAll0, PyData.canLay0, strs_lay r fun z hz => h z (.tail _ hz), h a (.head _)]
theorem strs_depth : ∀ ns : List Str, PyData.depthAll (ns.map PyData.str) = 0
  | [] => rfl
  | _ :: r => by simp [PyData.depthAll, PyData.depth, strs_depth r]
theorem strs_shaped (ns : List Str) (h : SignsAll ns) : SeqAt.shaped (.list (ns.map PyData.str)) = true := by
  simp [SeqAt.shaped, PyData.canLay0, PyData.depth, strs_lay ns h, strs_depth]
theorem strs_sameAll : ∀ ns ms : List Str, PySem.Spec.sameAll (ns.map PyData.str) (ms.map PyData.str) = decide (ns = ms)
  | [], [] => by simp [PySem.Spec.sameAll]
  | [], _ :: _ => by simp [PySem.Spec.sameAll]
  | _ :: _, [] => by simp [PySem.Spec.sameAll]
  | a :: r, b :: t => by
    simp only [List.map_cons, PySem.Spec.sameAll, PySem.Spec.same, strs_sameAll r t]
    by_cases h : a = b <;> by_cases h' : r = t <;> simp [h, h']
theorem strs_same (ns ms : List Str) : PySem.Spec.same (.list (ns.map PyData.str)) (.list (ms.map PyData.str)) = decide (ns = ms) := by
  simp only [PySem.Spec.same]; exact strs_sameAll ns ms
theorem strs_carried {vs : List Value} {ns : List Str} (h : StrsAre vs ns) : CarriedAll vs (ns.map PyData.str) := by
  induction h with
  | nil => exact .nil
  | cons x t _ ih => exact .cons (.str x t) ih
theorem signs_dropEnd {ss : List Str} (h : SignsAll ss) : SignsAll (dropEnd ss) := by
  intro z hz
  unfold dropEnd at hz
  have h1 := List.mem_reverse.mp hz
  exact h z (List.mem_reverse.mp ((List.dropWhile_sublist _).subset h1))
theorem signs_snoc {ss : List Str} {z : Str} (h : SignsAll ss) (hz : PyData.strOk z = true) : SignsAll (ss ++ [z]) := by
  intro y hy
  rcases List.mem_append.mp hy with hy | hy
  · exact h y hy
  · rw [List.mem_singleton.mp hy]; exact hz
theorem signs_empty : PyData.strOk (Str.ofString "") = true := by decide +kernel
theorem signs_getD {ss : List Str} (h : SignsAll ss) (k : Nat) : PyData.strOk (ss.getD k Str.empty) = true := by
  rw [List.getD_eq_getElem?_getD]
  cases e : ss[k]? with
  | none => exact signs_empty
  | some z => exact h z (List.mem_of_getElem? e)
theorem signs_spaced {ss : List Str} (h : SignsAll ss) : ∀ k, SignsAll (spacedTo ss k)
  | 0 => fun _ hz => nomatch hz
  | k + 1 => by
    unfold spacedTo
    split
    · intro y hy
      rcases List.mem_append.mp hy with hy | hy
      · exact signs_spaced h k y hy
      · rcases List.mem_cons.mp hy with rfl | hy
        · exact signs_empty
        · rw [List.mem_singleton.mp hy]; exact signs_getD h k
    · exact signs_snoc (signs_spaced h k) (signs_getD h k)
section
variable {prog : Program} {w : World} {A : Around} {E : Value → Shared → Prop} {s : Shared} {a b : Addr} {xs ys : List Value} {ns ms : List Str} {Q : Value → Shared → Prop}
theorem eq_strs (ha : s.heap.IsList a xs.toArray) (hb : s.heap.IsList b ys.toArray) (hi : StrsAre xs ns) (hj : StrsAre ys ms) (hn : SignsAll ns) (hm : SignsAll ms) (hu : A.units + 64 < cLine) (h : Q (.bool (decide (ns = ms))) s) :
    wpAny (model prog w) A (compareOp .Eq (.ref a) (.ref b)) Q E s :=
  eq_dataH_same (reads_newData ha (strs_carried hi)) (reads_newData hb (strs_carried hj)) (strs_shaped _ hn) (strs_shaped _ hm) hu (SeqAt.noMix_of_shape (.list .str) rfl _ _ (list_map_has fun _ => rfl) (list_map_has fun _ => rfl)) (by rw [strs_same]; exact h)
theorem ne_strs (ha : s.heap.IsList a xs.toArray) (hb : s.heap.IsList b ys.toArray) (hi : StrsAre xs ns) (hj : StrsAre ys ms) (hn : SignsAll ns) (hm : SignsAll ms) (hu : A.units + 64 < cLine) (h : Q (.bool (!decide (ns = ms))) s) :
    wpAny (model prog w) A (compareOp .NotEq (.ref a) (.ref b)) Q E s :=
  ne_dataH_same (reads_newData ha (strs_carried hi)) (reads_newData hb (strs_carried hj)) (strs_shaped _ hn) (strs_shaped _ hm) hu (SeqAt.noMix_of_shape (.list .str) rfl _ _ (list_map_has fun _ => rfl) (list_map_has fun _ => rfl)) (by rw [strs_same]; exact h)
end
end Mine
namespace Mine
section
variable {prog : Program} {w : World} {A : Around} {E : Value → Shared → Prop} {s : Shared} {a b : Addr} {xs : List Value} {ns : List Str} {z : Str} {Q : Value → Shared → Prop}
theorem ne_nil_no (ha : s.heap.IsList a ([] : List Value).toArray) (hb : s.heap.IsList b ([] : List Value).toArray) (hu : A.units + 64 < cLine) (h : Q (.bool false) s) :
    wpAny (model prog w) A (compareOp .NotEq (.ref a) (.ref b)) Q E s :=
  ne_strs ha hb .nil .nil (fun _ h => nomatch h) (fun _ h => nomatch h) hu (by simpa using h)
theorem ne_nil_yes (ha : s.heap.IsList a xs.toArray) (hb : s.heap.IsList b ([] : List Value).toArray) (hi : StrsAre xs (ns ++ [z])) (hs : SignsAll (ns ++ [z])) (hu : A.units + 64 < cLine) (h : Q (.bool true) s) :
    wpAny (model prog w) A (compareOp .NotEq (.ref a) (.ref b)) Q E s :=
  ne_strs ha hb hi .nil hs (fun _ h => nomatch h) hu (by simpa using h)
end
theorem signs_menu {ss : List Str} (h : ∀ z ∈ ss, z ∈ menu5) : SignsAll ss := fun z hz => menu5_ok z (h z hz)
end Mine
end
section
open PySem PySem.W PyProof.Rows PySem.Calls PySem.Spec
namespace Mine
theorem led_upd1 {h₀ h h' : Heap} {L d : Addr} {od od' : Obj} {news n1 : List (Addr × Obj)} (N : News h₀ L h news) (U : Upd d od od' news n1) (N' : News h₀ L h' [(d, od')])
    (k : ∀ b o, b ∉ [d] → h.get? b = some o → h'.get? b = some o) : News h₀ L h' n1 := fun p hp => by
  rcases (upd_mem U).2 p hp with rfl | ⟨hp, hd⟩
  · exact N' _ (.head _)
  · exact ⟨k _ _ (fun hm => hd (List.mem_singleton.mp hm)) (N p hp).1, (N p hp).2⟩
section
variable {prog : Program} {w : World} {A : Around} {E : Value → Shared → Prop} {s : Shared} {h₀ : Heap} {L D : Addr} {m : Str → Option Value} {news news' : List (Addr × Obj)} {ws : List Value} {v : Value} {n : Nat} {Q : Value → Shared → Prop}
theorem pop_upd (F : Fr h₀ L s.heap m) (N : News h₀ L s.heap news) (U : Upd D (W.listOf (ws ++ [v]).toArray n) (W.listOf ws.toArray (n + 1)) news news') (hz : ws.length ≤ 3000000)
    (h : ∀ h', Fr h₀ L h' m → News h₀ L h' news' → Q v { s with heap := h' }) : wpAny (model prog w) A (call (.builtin "list.pop") [.ref D]) Q E s :=
  kl_pop (p := ws) (y := v) F N (last_end v ws) U (by rw [sizeLine_eq]; simp; omega) h
end
end Mine
namespace Mine
/-- norm_con with the ledger ahead of the texts, for a walk line -/
theorem norm_at (w : World) (p : Program) (loose : List Str) (mean : ExcName → Option Value) (mg mb : Str → Option Value) (R : Addr) (vs : List Value) (ss : List Str) (n : Nat)
    (dp un : Nat) (gd : Option (List Code)) (cn : Str) (cs : Scope) (a : Addr) (ccd : Value) (cl : List (Str × Addr)) (outer : List Env) (A₀ : Around) (base h₀ : Heap) (L : Addr) (m : Str → Option Value) (s : Shared) (Q E : Value → Shared → Prop) (news : List (Addr × Obj))
    (B : Below A₀ base outer h₀) (F : Fr h₀ L s.heap m) (X : (Mine.hd.heap_39 w.params).In h₀) (N : News h₀ L s.heap news) (hm : (R, W.listOf vs.toArray n) ∈ news) (hss : StrsAre vs ss) (hn : ss.length ≤ 1048576) (hlen : ∀ z ∈ ss, z.length ≤ 100) (T : Top p loose mean mg mb h₀) (hk : cs.kind = .function) (hd : dp + 1 < recursionLimit) (hu : un + 500 * 1 < cLine)
    (hret : ∀ ws k h' tk', StrsAre ws (normF ss) → Fr h₀ L h' m → (∀ n1, Upd R (W.listOf vs.toArray n) (W.listOf ws.toArray k) news n1 → News h₀ L h' n1) → Q (.ref R) { s with heap := h', toks := tk' }) :
    wpAny (model PySem.Challenge.rw_at6012_01.row.prog w) (ktrTop dp un gd cn cs L a ccd cl outer) (call (.ref 66) [.ref R]) Q E s := by
  refine norm_con w p loose mean mg mb R vs ss n hss hn hlen dp un gd cn cs a ccd cl outer A₀ base h₀ L m s Q E B F X (fun q hq => by rw [List.mem_singleton.mp hq]; exact N _ hm) T hk hd hu ?_
  rintro r news' h' tk' F' N' keep ⟨rfl, ws, k, rfl, hw⟩
  exact hret ws k h' tk' hw F' fun n1 U => led_upd1 N U N' keep
end Mine
namespace Mine
theorem ens_at (w : World) (p : Program) (loose : List Str) (mean : ExcName → Option Value) (mg mb : Str → Option Value) (R : Addr) (vs : List Value) (ss : List Str) (n : Nat)
    (dp un : Nat) (gd : Option (List Code)) (cn : Str) (cs : Scope) (a : Addr) (ccd : Value) (cl : List (Str × Addr)) (outer : List Env) (A₀ : Around) (base h₀ : Heap) (L : Addr) (m : Str → Option Value) (s : Shared) (Q E : Value → Shared → Prop) (news : List (Addr × Obj))
    (C : CodeHd h₀ 72 68) (B : Below A₀ base outer h₀) (F : Fr h₀ L s.heap m) (X : (Mine.hd.heap_39 w.params).In h₀) (N : News h₀ L s.heap news) (hm : (R, W.listOf vs.toArray n) ∈ news) (hm2 : (68, tabObj #[]) ∈ news) (hss : StrsAre vs ss) (hR : @LT.lt Nat _ 100 R) (hn : ss.length ≤ 1048576) (hlen : ∀ z ∈ ss, z.length ≤ 100) (T : Top p loose mean mg mb h₀) (hk : cs.kind = .function) (hd : dp + 2 < recursionLimit) (hu : un + 500 * 2 < cLine)
    (hret : ∀ D ws k ps h' tk', StrsAre ws (spacedF ss) → Fr h₀ L h' m → (∀ rest, (∀ q ∈ rest, q ∈ news ∧ @Ne Nat q.1 R ∧ @Ne Nat q.1 68) → News h₀ L h' ((D, W.listOf ws.toArray k) :: (68, tabObj ps) :: rest)) → Q (.ref D) { s with heap := h', toks := tk' }) :
    wpAny (model PySem.Challenge.rw_at6012_01.row.prog w) (ktrTop dp un gd cn cs L a ccd cl outer) (call (.ref 73) [.ref R]) Q E s := by
  refine ens_con w p loose mean mg mb R vs ss n hss hn hlen hR dp un gd cn cs a ccd cl outer A₀ base h₀ L m s Q E C B F X (fun q hq => ?_) T hk hd hu ?_
  · rcases List.mem_cons.mp hq with rfl | hq
    · exact N _ hm
    · rw [List.mem_singleton.mp hq]; exact N _ hm2
  · rintro r news' h' tk' F' N' keep ⟨D, ws, k, rfl, hD, ⟨ps, h68⟩, hw⟩
    refine hret D ws k ps h' tk' hw F' fun rest hr q hq => ?_
    rcases List.mem_cons.mp hq with rfl | hq
    · exact N' _ hD
    · rcases List.mem_cons.mp hq with rfl | hq
      · exact N' _ h68
      · obtain ⟨h1, h2, h3⟩ := hr q hq
        refine ⟨keep _ _ (fun hmm => ?_) (N q h1).1, (N q h1).2⟩
        rcases List.mem_cons.mp hmm with e | hmm
        · exact h2 e
        · exact h3 (List.mem_singleton.mp hmm)
end Mine
end
section
open PySem PySem.W PyProof.Rows PySem.Calls PySem.Spec
namespace Mine
/-- two places differ: hidden from the arithmetic -/
def Off (a b : Addr) : Prop := @Ne Nat a b
theorem Off.ne {a b : Addr} (h : Off a b) : @Ne Nat a b := h
theorem Off.ne' {a b : Addr} (h : Off b a) : @Ne Nat a b := Ne.symm h
theorem Off.of {a b : Addr} (h : @Ne Nat a b) : Off a b := h
theorem Off.lt {a b : Addr} (h : @LT.lt Nat _ a b) : Off a b := Nat.ne_of_lt h
theorem off_five {I C D a b c d e : Addr} {oa ob oc od oe : Obj} (h : LCg.Off3 I C D [(a, oa), (b, ob), (c, oc), (d, od), (e, oe)]) :
    (Off a I ∧ Off a C ∧ Off a D) ∧ (Off b I ∧ Off b C ∧ Off b D) ∧ (Off c I ∧ Off c C ∧ Off c D) ∧ (Off d I ∧ Off d C ∧ Off d D) ∧ (Off e I ∧ Off e C ∧ Off e D) :=
  ⟨h.1, h.2.1, h.2.2.1, h.2.2.2.1, h.2.2.2.2.1⟩
theorem off_three {I C D : Addr} (h : (@Ne Nat I C) ∧ (@Ne Nat I D) ∧ (@Ne Nat C D)) : Off I C ∧ Off I D ∧ Off C D := h
end Mine
namespace Mine
section
variable {prog : Program} {w : World} {A : Around} {E : Value → Shared → Prop} {s : Shared} {h₀ : Heap} {L a b : Addr} {m : Str → Option Value} {news : List (Addr × Obj)} {vs ws : List Value} {Q : Value → Shared → Prop}
theorem add_strs (F : Fr h₀ L s.heap m) (N : News h₀ L s.heap news) (ha : s.heap.IsList a vs.toArray) (hb : s.heap.IsList b ws.toArray) (hz : vs.length + ws.length ≤ 1000)
    (h : ∀ D h', Fr h₀ L h' m → News h₀ L h' ((D, W.listOf (vs ++ ws).toArray 0) :: news) → (∀ p ∈ news, p.1 < D) → Q (.ref D) { s with heap := h' }) : wpAny (model prog w) A (binaryOp .Add (.ref a) (.ref b)) Q E s :=
  kmk_add_lit F N ha hb (by rw [List.toList_toArray, List.toList_toArray]) h (by rw [sizeLine_eq]; simp only [List.toList_toArray]; omega)
end
theorem dropEnd_sub {ss : List Str} : ∀ z ∈ dropEnd ss, z ∈ ss := by
  intro z hz
  unfold dropEnd at hz
  exact List.mem_reverse.mp ((List.dropWhile_sublist _).subset (List.mem_reverse.mp hz))
theorem signs_norm {ss : List Str} (h : SignsAll ss) : SignsAll (normF ss) := signs_snoc (signs_dropEnd h) signs_empty
theorem norm_kept {ks : List Value} {ss : List Str} {t : Tok} (h : StrsAre ks (dropEnd ss)) : StrsAre (ks ++ [.str (Str.ofString "") t]) (normF ss) := h.append' (.cons _ _ .nil)
theorem ne_same {prog : Program} {w : World} {A : Around} {E : Value → Shared → Prop} {s : Shared} {a b : Addr} {xs ys : List Value} {ns : List Str} {Q : Value → Shared → Prop} (ha : s.heap.IsList a xs.toArray) (hb : s.heap.IsList b ys.toArray) (hi : StrsAre xs ns) (hj : StrsAre ys ns) (hn : SignsAll ns) (hu : A.units + 64 < cLine) (h : Q (.bool false) s) :
    wpAny (model prog w) A (compareOp .NotEq (.ref a) (.ref b)) Q E s := ne_strs ha hb hi hj hn hn hu (by simpa using h)
theorem eq_same {prog : Program} {w : World} {A : Around} {E : Value → Shared → Prop} {s : Shared} {a b : Addr} {xs ys : List Value} {ns : List Str} {Q : Value → Shared → Prop} (ha : s.heap.IsList a xs.toArray) (hb : s.heap.IsList b ys.toArray) (hi : StrsAre xs ns) (hj : StrsAre ys ns) (hn : SignsAll ns) (hu : A.units + 64 < cLine) (h : Q (.bool true) s) :
    wpAny (model prog w) A (compareOp .Eq (.ref a) (.ref b)) Q E s := eq_strs ha hb hi hj hn hn hu (by simpa using h)
theorem fr_law {g h : Heap} {L : Addr} {m : Str → Option Value} (F : Fr g L h m) : Fr g L h m := F
end Mine
end
section
open PySem PySem.W PyProof.Rows PySem.Calls PySem.Spec
namespace Mine
theorem pick_init (vs : List Value) (v : Value) : (slicePick (vs ++ [v]).toArray none (some (-1)) none).toList = vs := by
  have e : sliceBounds none (some (-1)) none (vs ++ [v]).toArray.size = (((0 : Nat) : Int), ((vs.length : Nat) : Int), 1) := by
    have hs : (vs ++ [v]).toArray.size = vs.length + 1 := by simp
    simp only [sliceBounds, Option.getD_none, show (1 : Int) > 0 by decide, if_true, if_pos (show (-1 : Int) < 0 by decide), hs]
    congr 1
    congr 1
    omega
  rw [kmk_pick_nat _ e]
  simp
theorem pick_str {vs : List Value} {ss : List Str} {i : Nat} {v : Value} (h : StrsAre vs ss) (e : vs.toArray[i]? = some v) : i < ss.length ∧ ∃ t, v = .str (ss.getD i Str.empty) t := by
  rw [List.getElem?_toArray] at e
  have hi := (List.getElem?_eq_some_iff.mp e).1
  obtain ⟨t, ht⟩ := strs_getD h i hi
  rw [ht] at e
  exact ⟨by rw [← StrsAre.len_eq h]; exact hi, t, (Option.some.inj e).symm⟩
theorem take_map (f : Str → Str) {ss : List Str} {i : Nat} (h : i < ss.length) : (ss.take (i + 1)).map f = (ss.take i).map f ++ [f (ss.getD i Str.empty)] := by
  rw [List.take_add_one, List.getElem?_eq_getElem h, List.map_append, List.getD_eq_getElem?_getD, List.getElem?_eq_getElem h]
  rfl
theorem strs_take {ys : List Value} {ss : List Str} {f : Str → Str} {i : Nat} {z : Str} {t : Tok} (h : StrsAre ys ((ss.take i).map f)) (hi : i < ss.length) (e : z = f (ss.getD i Str.empty)) : StrsAre (ys ++ [.str z t]) ((ss.take (i + 1)).map f) := by
  rw [take_map f hi, e]
  exact h.append' (.cons _ _ .nil)
theorem led_keep40 {h₀ h h' : Heap} {L c : Addr} {o' : Obj} {news : List (Addr × Obj)} (N : News h₀ L h news) (N' : News h₀ L h' [(c, o')]) (k : ∀ b o, @Ne Nat b c → h.get? b = some o → h'.get? b = some o) (rest : List (Addr × Obj)) (hr : ∀ q ∈ rest, q ∈ news ∧ @Ne Nat q.1 c) : News h₀ L h' ((c, o') :: rest) := fun p hp => by
  rcases List.mem_cons.mp hp with rfl | hp
  · exact N' _ (.head _)
  · exact ⟨k _ _ (hr p hp).2 (N p (hr p hp).1).1, (N p (hr p hp).1).2⟩
theorem ne_empty {z : Str} (h : (z != Str.ofString "") = true) : ¬ z.length = 0 := by
  intro e
  have e0 : Str.ofString "" = ⟨#[]⟩ := by decide +kernel
  refine bne_iff_ne.mp h ?_
  rw [e0]
  obtain ⟨a⟩ := z
  have : a.size = 0 := e
  rw [Array.size_eq_zero_iff.mp this]
theorem eq_empty {z : Str} (h : (z != Str.ofString "") = false) : z.length = 0 := by
  have e : z = Str.ofString "" := by simpa using h
  rw [e]; decide +kernel
theorem ind_yes {q y : Str} (h : (Txt.strip y != Str.ofString "") = true) : q ++ y = indRow q y := (if_neg (ne_empty h)).symm
theorem ind_no {q y : Str} (h : (Txt.strip y != Str.ofString "") = false) : y = indRow q y := (if_pos (eq_empty h)).symm
theorem kept_len {x : Str} (h : TextOk x) : ∀ z ∈ keptRows x, z.length ≤ 100 := fun z hz => Nat.le_trans (keptRows_each z hz) h.1
end Mine
namespace Mine
theorem ind_tot {x : Str} (h : TextOk x) : (((keptRows x).map (indRow (Str.ofString "  "))).map (·.length)).sum + ((keptRows x).map (indRow (Str.ofString "  "))).length * (Str.ofString "").length ≤ 16777216 := by
  refine join_totB (B := 103) ?_ ?_
  · intro z hz
    obtain ⟨y, hy, rfl⟩ := List.mem_map.mp hz
    exact indRow_len (by decide +kernel) (kept_len h y hy)
  · rw [List.length_map]
    have := keptRows_len x
    have := h.1
    omega
theorem ind_same {prog : Program} {w : World} {A : Around} {E : Value → Shared → Prop} {s : Shared} {x q : Str} {t u : Tok} {ss : List Str} {Q : Value → Shared → Prop} (e : ss = (keptRows x).map (indRow q)) (h : Q (.bool false) s) : wpAny (model prog w) A (compareOp .NotEq (.str (indF q x) t) (.str (Txt.join (Str.ofString "") ss) u)) Q E s := by
  refine PyProof.Rows.ne_str ?_
  have : (indF q x != Txt.join (Str.ofString "") ss) = false := by rw [e, indF]; simp
  rw [this]; exact h
end Mine
namespace Mine
theorem split_parts (x : Str) : ∃ r z, Txt.split x (Str.ofString "\n") = r ++ [z] := by
  rcases list_end (Txt.split x (Str.ofString "\n")) with h | ⟨r, z, h⟩
  · have := split_pos x (Str.ofString "\n")
    rw [h] at this
    exact absurd this (by decide)
  · exact ⟨r, z, h⟩
theorem parts_len {x : Str} {r : List Str} {z : Str} (h : Txt.split x (Str.ofString "\n") = r ++ [z]) (hx : x.length ≤ 100) : (∀ y ∈ r ++ [z], y.length ≤ 100) ∧ r.length + 1 ≤ 102 := by
  refine ⟨fun y hy => ?_, ?_⟩
  · rw [← h] at hy
    exact Nat.le_trans (part_short hy) hx
  · have := split_le x (Str.ofString "\n")
    rw [h] at this
    simp at this
    omega
theorem rows_yes {x : Str} {r : List Str} {z : Str} {ys : List Value} {t : Tok} (hx : TextOk x) (h : Txt.split x (Str.ofString "\n") = r ++ [z]) (hy : StrsAre ys (r.map fun y => y ++ Str.ofString "\n")) (hz : (z != Str.ofString "") = true) : StrsAre (ys ++ [.str z t]) (keptRows x) := by
  rw [kept_split hx h, splitRows, if_pos hz]
  exact hy.append' (.cons _ _ .nil)
theorem rows_no {x : Str} {r : List Str} {z : Str} {ys : List Value} (hx : TextOk x) (h : Txt.split x (Str.ofString "\n") = r ++ [z]) (hy : StrsAre ys (r.map fun y => y ++ Str.ofString "\n")) (hz : (z != Str.ofString "") = false) : StrsAre (ys ++ []) (keptRows x) := by
  rw [kept_split hx h, splitRows, if_neg (by rw [hz]; exact Bool.false_ne_true), List.append_nil, List.append_nil]
  exact hy
end Mine
end
section
open PySem PySem.W PyProof.Rows PySem.Calls PySem.Spec
namespace Mine
section
variable {prog : Program} {w : World} {A : Around} {E : Value → Shared → Prop} {s : Shared} {Q : Value → Shared → Prop}
theorem isnot_eq {c d : Bool} (e : c = d) (h : Q (.bool false) s) : wpAny (model prog w) A (compareOp .IsNot (.bool c) (.bool d)) Q E s := by
  refine isnot_bool ?_
  have : (c != d) = false := by rw [e]; cases d <;> rfl
  rw [this]; exact h
theorem rstrip_toks {x : Str} {t : Tok} {n : Nat} (hn : n ≤ s.toks) (hx : x.length ≤ 1048576)
    (hq : ∀ t' k, n ≤ k → Q (.str (Txt.rstrip x) t') { s with toks := k }) : wpAny (model prog w) A (call (.builtin "str.rstrip") [.str x t]) Q E s :=
  wpAny_with_toks hn (SC.rstrip (fun t' k hk => hq t' k hk) (by rw [sizeLine_eq]; omega))
end
theorem hc_plain (x y : Str) : hcF false x y = (Txt.rstrip x != Txt.rstrip y) := rfl
end Mine
namespace Mine
theorem off_at {I C D a : Addr} {o : Obj} {news : List (Addr × Obj)} (h : LCg.Off3 I C D news) (hm : (a, o) ∈ news) : Off a I ∧ Off a C ∧ Off a D := h.mem _ hm
theorem two_strs {ys : List Value} {ss : List Str} (h : StrsAre ys ss) (e : ss.length = 2) : ∃ x y t u, ys = [.str x t, .str y u] ∧ ss = [x, y] := by
  match ss, h, e with
  | [a, b], .cons _ t (.cons _ u .nil), _ => exact ⟨a, b, t, u, rfl, rfl⟩
theorem menuA_tot {ss : List Str} (h : ∀ z ∈ ss, z ∈ menuA) (hl : ss.length ≤ 10) : (ss.map (·.length)).sum + ss.length * (Str.ofString "").length ≤ 16777216 :=
  join_totB (B := 6) (fun z hz => (menuA_ok z (h z hz)).1) (by omega)
end Mine
end
section
open PySem PySem.W PyProof.Rows PySem.Calls PySem.Spec
namespace Mine
section
variable {prog : Program} {w : World} {A : Around} {E : Value → Shared → Prop} {s : Shared} {Q : Value → Shared → Prop}
theorem item_menu {value slice : Expr} {a : Addr} {vs : List Value} {ms : List Str} {i : Int} {u : Tok} (hl : s.heap.IsList a vs.toArray) (hw : StrsAre vs ms) (hB : ∀ z ∈ ms, z.length ≤ 10) (h0 : 0 ≤ i) (h1 : i < (ms.length : Int)) (hfit : i < 2 ^ 63) (h : ∀ z t, z ∈ ms → z.length ≤ 10 → Q (.str z t) s)
    (hs : subscripted slice false (.ref a) (.int i u) = operate [.ref a, .int i u] (getItem (.ref a) (.int i u)) := by with_unfolding_all rfl) :
    wpAny (model prog w) A (subscriptTail value slice (.ref a) (.int i u)) Q E s :=
  KTb.item_list hl hw h0 h1 hfit (fun t' _ => h _ t' (getD_mem h0 h1) (hB _ (getD_mem h0 h1))) hs
theorem ne_str_eq {x y : Str} {t u : Tok} (e : x = y) (h : Q (.bool false) s) : wpAny (model prog w) A (compareOp .NotEq (.str x t) (.str y u)) Q E s := by
  refine PyProof.Rows.ne_str ?_
  have : (x != y) = false := by rw [e]; simp
  rw [this]; exact h
end
theorem lstrip_len (x : Str) : (Txt.lstrip x).length ≤ x.length := by
  unfold Txt.lstrip Txt.stripBy
  split
  · exact Nat.le_refl _
  · exact strSub_length_le ..
theorem bare_len (lets : List Str) (x : Str) : (bareBy lets x).length ≤ x.length := by
  unfold bareBy
  split
  · exact Txt.slice_le ..
  · split
    · exact Txt.slice_le ..
    · exact Nat.le_refl _
end Mine
namespace Mine
section
variable {prog : Program} {w : World} {A : Around} {E : Value → Shared → Prop} {s : Shared} {Q : Value → Shared → Prop}
theorem item_first {value slice : Expr} {y : Str} {t u : Tok} (h : (Txt.slice y none (some 1) != Str.ofString "") = true) (hb : y.length ≤ 1000) (hq : Q (.str (Txt.item y 0) s.toks) { s with toks := s.toks + 1 })
    (hs : subscripted slice false (.str y t) (.int 0 u) = operate [.str y t, .int 0 u] (getItem (.str y t) (.int 0 u)) := by with_unfolding_all rfl)
    (ht : ∀ r, letTemporaryGo value (.str y t) r = pure () := by intro _; with_unfolding_all rfl) :
    wpAny (model prog w) A (subscriptTail value slice (.str y t) (.int 0 u)) Q E s :=
  KXi.item rfl (by omega) (by have := slice1_len h; omega) (by omega) (fun _ => hq) hs ht
end
theorem isc_no2 {x : Str} (h : (Txt.slice (bareBy lets1 (Txt.lstrip x)) none (some 1) != Str.ofString "") = false) : iscF x = (Txt.slice (bareBy lets1 (Txt.lstrip x)) none (some 1) != Str.ofString "") := (isc_no h).trans h.symm
theorem isc_yes2 {x : Str} (h : (Txt.slice (bareBy lets1 (Txt.lstrip x)) none (some 1) != Str.ofString "") = true) : iscF x = Txt.contains (Str.ofString "#'\"") (Txt.item (bareBy lets1 (Txt.lstrip x)) 0) := isc_yes (slice1_len h)
end Mine
namespace Mine
theorem led_own {h₀ h h' : Heap} {L d l : Addr} {od' ol' : Obj} {news own : List (Addr × Obj)} (N : News h₀ L h (news ++ own)) (N' : News h₀ L h' [(d, od'), (l, ol')]) (k : ∀ b o, b ∉ [d, l] → h.get? b = some o → h'.get? b = some o) (n1 : List (Addr × Obj))
    (hr : ∀ q ∈ n1, q = (d, od') ∨ q = (l, ol') ∨ (q ∈ news ∧ @Ne Nat q.1 d ∧ @Ne Nat q.1 l)) (ho : ∀ q ∈ own, @Ne Nat q.1 d ∧ @Ne Nat q.1 l) : News h₀ L h' (n1 ++ own) := fun p hp => by
  have up : ∀ q, q ∈ news ++ own → @Ne Nat q.1 d ∧ @Ne Nat q.1 l → h'.get? q.1 = some q.2 ∧ q.1 ≠ L ∧ h₀.get? q.1 = none := fun q hq hn =>
    ⟨k _ _ (fun hm => by
      rcases List.mem_cons.mp hm with e | hm
      · exact hn.1 e
      · exact hn.2 (List.mem_singleton.mp hm)) (N q hq).1, (N q hq).2⟩
  rcases List.mem_append.mp hp with hp | hp
  · rcases hr p hp with rfl | rfl | ⟨h1, h2⟩
    · exact N' _ (.head _)
    · exact N' _ (.tail _ (.head _))
    · exact up p (List.mem_append_left _ h1) h2
  · exact up p (List.mem_append_right _ hp) (ho p hp)
end Mine
namespace Mine
theorem row_len {x : Str} (h : RowOk x) : x.length ≤ 100 := Nat.le_trans h.1 (by decide)
theorem qok_nil : QOk (Str.ofString "") := .head _
end Mine
namespace Mine
theorem with_toksQ {M : Model} {A : Around} {α : Type} {t : Sem α} {Q : α → Shared → Prop} {E : Value → Shared → Prop} {s : Shared} {n : Nat} (hn : n ≤ s.toks) (h : wpAny M A t (fun a s' => n ≤ s'.toks → Q a s') E s) : wpAny M A t Q E s :=
  wpAny_mono (wpAny_toks_of hn h) (fun _ _ x => x.2 x.1) (fun _ _ x => x.2)
end Mine
namespace Mine
theorem not_in1 {a z : Str} (h : [a].contains z = false) : z ≠ a := by
  simp only [List.contains_cons, List.contains_nil, Bool.or_false, beq_eq_false_iff_ne, ne_eq] at h
  exact h
end Mine
end
section
open PySem PySem.W PyProof.Rows PySem.Calls PySem.Spec
namespace Mine
theorem bare_nil {g : Array GenState} (h : g = #[]) : AllBare g := by subst h; intro x hx; simp at hx
theorem off_fresh {h : Heap} {a b : Addr} {o : Obj} (hb : h.get? b = some o) (ha : h.get? a = none) : Off a b := fun e => by
  have e' : a = b := e
  rw [e', hb] at ha; cases ha
theorem led_draw {h₀ h : Heap} {L d l : Addr} {od ol : Obj} {c : Addr × Obj} {rest : List (Addr × Obj)} (N : News h₀ L h (c :: rest)) (N' : News h₀ L h [(d, od), (l, ol)]) : News h₀ L h (c :: (d, od) :: (l, ol) :: rest) := fun p hp => by
  rcases List.mem_cons.mp hp with rfl | hp
  · exact N _ (.head _)
  · rcases List.mem_cons.mp hp with rfl | hp
    · exact N' _ (.head _)
    · rcases List.mem_cons.mp hp with rfl | hp
      · exact N' _ (.tail _ (.head _))
      · exact N _ (.tail _ hp)
theorem law_end {h h' : Heap} {L : Addr} {m' : Str → Option Value} {ps1 ps2 : Array Value} (F : Fr (ghostOf h [(44, 40), (72, 68)]) L h' m') (N : News (ghostOf h [(44, 40), (72, 68)]) L h' [(40, tabObj ps1), (68, tabObj ps2)]) :
    (∀ b o, (ghostOf h [(44, 40), (72, 68)]).get? b = some o → h'.get? b = some o) ∧ (∀ q ∈ [((44 : Addr), (40 : Addr)), (72, 68)], GrownAt q.2 h') :=
  ⟨F.keep, List.forall_mem_cons.mpr ⟨⟨ps1, (N _ (.head _)).1⟩, List.forall_mem_cons.mpr ⟨⟨ps2, (N _ (.tail _ (.head _))).1⟩, List.forall_mem_nil _⟩⟩⟩
end Mine
end
section
open PySem PySem.W PyProof.Rows PySem.Calls
namespace Mine
local macro_rules | `(tactic| k_ne) => `(tactic| (refine neN ?_; (try dsimp only); first | exact Off.ne (by assumption) | exact Off.ne' (by assumption) | omega))
local macro_rules | `(tactic| walk_at "callWith ref") => `(tactic| (k_here; (with_reducible show wpAny _ _ (callWith _ (Value.ref _) _ _ []) _ _ _); k_dflt (refine' callWith_K ?k1 ?k2 ?_; (case k1 => k_asm); (case k2 => k_is); k_whole)))
local macro_rules | `(tactic| walk_at "eval Name") => `(tactic| (k_here; (with_reducible show wpAny _ _ (eval (Expr.Name _ _) (envOfC _ _ _ _ _)) _ _ _); k_dflt (first
  | (refine' nameX_L ?F ?v ?_ ?a ?b; (case F => k_asm); (case a => rfl); (case b => rfl); (case v => first | rfl | assumption); k_whole)
  | (refine' nameX_C ?N ?c ?m ?d ?_ ?a ?b; (case a => rfl); (case b => rfl); (case N => k_asm); (case c => rfl); (case m => k_mem); (case d => k_asm); k_whole)
  | (refine' nameX_K ?F ?X ?T ?e ?_ ?a ?b; (case F => k_asm); (case X => k_asm); (case T => k_asm); (case a => rfl); (case b => rfl); (case e => k_is); k_whole)
  | (refine' nameX_B ?F ?X ?T ?e ?v ?n ?_ ?a ?b; (case F => k_asm); (case X => k_asm); (case T => k_asm); (case a => rfl); (case b => rfl); (case e => k_is); (case v => boot_fast); (case n => decide); k_whole))))
local macro_rules | `(tactic| walk_at "call ref") => `(tactic| (k_here; (with_reducible show wpAny _ _ (call (Value.ref 66) _ _) _ _ _); k_dflt (refine norm_at _ _ _ _ _ _ _ _ _ _ _ _ _ _ _ _ _ _ _ _ _ _ _ _ _ _ _ _ (by k_asm) (by k_asm) (by k_asm) (by k_asm) (by k_mem) (by assumption) (by assumption) (by assumption) (by k_asm) (by first | exact rfl | assumption) (by (first | ktr_room | k_room)) (by (first | ktr_units | k_units)) ?_); intro ws9 k9 h9 tk9 hs9 F9 U9; (have N9 := U9 _ (by k_upd)); clear U9; (try dsimp only); (try k_fold)))
local macro_rules | `(tactic| walk_at "binaryOp Add ref ref") => `(tactic| (k_here; k_dflt (refine add_strs (by k_asm) (by k_asm) (News.isList (by k_asm) (by k_mem)) (News.isList (by k_asm) (by k_mem)) (by (simp only [List.length_cons, List.length_nil]; omega)) ?_); intro D' h' F' N' l1; (try k_lt l1); (try k_sweep)))
local macro_rules | `(tactic| walk_at "compareOp NotEq ref ref") => `(tactic| (k_here; k_dflt (refine ne_same (News.isList (by k_asm) (by k_mem)) (News.isList (by k_asm) (by k_mem)) (by assumption) (norm_kept (by assumption)) (by assumption) (by first | units_room | exact Nat.le_of_ble_eq_true rfl) ?_)))
local macro_rules | `(tactic| walk_at "compareOp Eq ref ref") => `(tactic| (k_here; refine stop ?_))
local macro_rules | `(tactic| walk_at "call ref") => `(tactic| (k_here; (with_reducible show wpAny _ _ (call (Value.ref 73) _ _) _ _ _); refine stop ?_))
local macro_rules | `(tactic| walk_at "call ref") => `(tactic| (k_here; (with_reducible show wpAny _ _ (call (Value.ref 116) _ _) _ _ _); refine stop ?_))
set_option linter.unusedVariables false in
set_option maxRecDepth 100000 in
set_option maxHeartbeats 3000000 in
theorem stage18 (w : World) (p : Program) (loose : List Str) (mean : ExcName → Option Value) (mg mb : Str → Option Value) (g : Heap) (L fa : Addr) (cd : Value) (m : Str → Option Value) (s : Shared) (Q : Flow → Shared → Prop) (E : Value → Shared → Prop) (ps : Array Value) {body : List Stmt} {sc : Scope}
    
    (B : Below callerA g [] g) (F : Fr g L s.heap m) (X : (Mine.hd.heap_39 w.params).In g) (T : Top p loose mean mg mb g) (C1 : CodeHd g 44 40) (C2 : CodeHd g 72 68) (q8 : @LT.lt Nat _ 100 L) (G : AllBare s.gens)
    (Y K : Addr) (ys ks : List Value) (ss : List Str) (cn : Nat) (hss : StrsAre ys ss) (hks : StrsAre ks (dropEnd ss)) (hz : ∀ z ∈ ss, z ∈ menu5) (hsl : ss.length ≤ 6) (hkl : (dropEnd ss).length ≤ ss.length) (m1 : m (Str.ofString "lines") = some (.ref Y)) (m2 : m (Str.ofString "kept") = some (.ref K)) (qK : @LT.lt Nat _ 100 K) (q19 : Off Y 68)
    (N : News g L s.heap [(K, W.listOf ks.toArray cn), (Y, LCg.lst ys), (40, tabObj ps), (68, tabObj #[])])
    (hE : PassesOwn (model PySem.Challenge.rw_at6012_01.row.prog w) (callerA.deeper (envOfC (Str.ofString "law") sc L fa cd)) (envOfC (Str.ofString "law") sc L fa cd) E)
    (hQ : ∀ s' ps1 ps2 m', Fr g L s'.heap m' → News g L s'.heap [(40, tabObj ps1), (68, tabObj ps2)] → s'.os = s.os → AllBare s'.gens → Q (.ret (.bool true)) s')
    (hb : lawBody.drop 18 = body) (hs : lawScope = sc) :
    wpAny (model PySem.Challenge.rw_at6012_01.row.prog w) (callerA.deeper (envOfC (Str.ofString "law") sc L fa cd)) (execs body (envOfC (Str.ofString "law") sc L fa cd)) Q E s := by
  w_top off
  revert X; k_fill; intro X
  conv at hb => lhs; whnf
  subst hb
  conv at hs => lhs; whnf
  subst hs
  have hlen9 : ∀ z ∈ ss, z.length ≤ 100 := fun z hz' => menu5_len z (hz z hz')
  have hn9 : ss.length ≤ 1048576 := by omega
  have hsg := signs_norm (signs_menu hz)
  have hkl9 := StrsAre.len_eq hks
  have hyl9 := StrsAre.len_eq hss
  k_steps
  refine Stop.out ?_
  rename News _ _ _ _ => N8
  rename Fr _ _ _ _ => F8
  k_dflt (refine ens_at _ _ _ _ _ _ _ _ _ _ _ _ _ _ _ _ _ _ _ _ _ _ _ _ _ _ _ _ C2 B F8 X N8 (List.Mem.head _) (by k_mem) hss (by omega) hn9 hlen9 T rfl (by (first | ktr_room | k_room)) (by (first | ktr_units | k_units)) ?_)
  intro D9 ws9 k9 ps9 h9 tk9 hs9 F9 U9
  have N9 := U9 [(Y, LCg.lst ys), (40, tabObj ps)] (List.forall_mem_cons.mpr ⟨⟨by k_mem, by k_ne, by k_ne⟩, List.forall_mem_cons.mpr ⟨⟨by k_mem, by k_ne, by k_ne⟩, List.forall_mem_nil _⟩⟩)
  clear U9 F8 N8
  dsimp only
  k_steps
  refine Stop.out ?_
  k_dflt (refine spaced_con _ _ _ _ _ _ _ _ _ hss hn9 hlen9 _ _ _ _ _ _ _ _ _ _ _ _ _ _ _ _ _ B F9 X T rfl (by (first | ktr_room | k_room)) (by (first | ktr_units | k_units)) (News.isList N9 (by k_mem)) ?_)
  intro D7 ws7 n7 h7 tk7 F7 keep7 fr7 N7 hs7
  have N6 := News.grown N9 keep7
  have e7 : ∀ p ∈ [(D9, W.listOf ws9.toArray k9), (68, tabObj ps9), (Y, LCg.lst ys), (40, tabObj ps)], News g L h7 [p] := fun p hp q hq => by rw [List.mem_singleton.mp hq]; exact N6 p hp
  k_dflt (refine eq_same (News.isList N6 (List.Mem.head _)) (News.isList N7 (List.Mem.head _)) hs9 hs7 ?_ (by first | units_room | exact Nat.le_of_ble_eq_true rfl) ?_)
  · exact signs_spaced (signs_menu hz) _
  k_dflt (refine hQ _ ps ps9 _ F7 ?_ rfl G)
  exact kst_newsOf N6 (List.forall_mem_cons.mpr ⟨by k_mem, List.forall_mem_cons.mpr ⟨by k_mem, List.forall_mem_nil _⟩⟩)

end Mine
end
section
open PySem PySem.W PyProof.Rows PySem.Calls
namespace Mine
local macro_rules | `(tactic| k_ne) => `(tactic| (refine neN ?_; (try dsimp only); first | exact Off.ne (by assumption) | exact Off.ne' (by assumption) | omega))
local macro_rules | `(tactic| walk_at "callWith ref") => `(tactic| (k_here; (with_reducible show wpAny _ _ (callWith _ (Value.ref _) _ _ []) _ _ _); k_dflt (refine' callWith_K ?k1 ?k2 ?_; (case k1 => k_asm); (case k2 => k_is); k_whole)))
local macro_rules | `(tactic| walk_at "eval Name") => `(tactic| (k_here; (with_reducible show wpAny _ _ (eval (Expr.Name _ _) (envOfC _ _ _ _ _)) _ _ _); k_dflt (first
  | (refine' nameX_L ?F ?v ?_ ?a ?b; (case F => k_asm); (case a => rfl); (case b => rfl); (case v => first | rfl | assumption); k_whole)
  | (refine' nameX_C ?N ?c ?m ?d ?_ ?a ?b; (case a => rfl); (case b => rfl); (case N => k_asm); (case c => rfl); (case m => k_mem); (case d => k_asm); k_whole)
  | (refine' nameX_K ?F ?X ?T ?e ?_ ?a ?b; (case F => k_asm); (case X => k_asm); (case T => k_asm); (case a => rfl); (case b => rfl); (case e => k_is); k_whole)
  | (refine' nameX_B ?F ?X ?T ?e ?v ?n ?_ ?a ?b; (case F => k_asm); (case X => k_asm); (case T => k_asm); (case a => rfl); (case b => rfl); (case e => k_is); (case v => boot_fast); (case n => decide); k_whole))))
local macro_rules | `(tactic| walk_at "call ref") => `(tactic| (k_here; (with_reducible show wpAny _ _ (call (Value.ref 85) _ _) _ _ _); k_dflt (refine (take_con _ _ _ _ _ _ _ _ _ _ _ _ (by assumption) (by decide) (by decide) (by k_ne)) _ _ _ _ _ _ _ _ _ _ _ _ _ _ _ _ _ (by k_asm) (by k_asm) (by k_asm) (kst_newsOf (by k_asm) (List.forall_mem_cons.mpr ⟨by k_mem, List.forall_mem_cons.mpr ⟨by k_mem, List.forall_mem_nil _⟩⟩)) (by k_asm) (by first | exact rfl | assumption) (by (first | ktr_room | k_room)) (by (first | ktr_units | k_units)) ?_); intro r9 news9 h9 tk9 F9 N9 keep9 hres; obtain ⟨od9, ol9, i9, ti9, hD9, hn9, hr9, hlo9, hhi9⟩ := hres; subst hn9; subst hr9; k_dflt (refine led_upd (by k_asm) (by k_upd) (by k_upd) N9 keep9 ?_); clear N9; intro N8; (try dsimp only at N8); (try dsimp only); (try k_fold)))
local macro_rules | `(tactic| walk_at "subscriptTail") => `(tactic| (k_here; (with_reducible show wpAny _ _ (subscriptTail (Expr.List _ _) (Expr.Call _ _ _ _) (Value.ref _) (Value.int _ _)) _ _ _); k_dflt (refine KTb.item_list (News.isList (by k_asm) (List.Mem.head _)) (by repeat constructor) (by assumption) (by (simp only [List.length_cons, List.length_nil]); omega) (by omega) ?_); intro t9 hlt9))
local macro_rules | `(tactic| walk_at "subscriptTail Name UnaryOp ref int") => `(tactic| (k_here; (with_reducible show wpAny _ _ (subscriptTail (Expr.Name _ _) (Expr.UnaryOp _ _ _) (Value.ref _) (Value.int _ _)) _ _ _); k_dflt (refine last_item (News.isList (by k_asm) (by k_mem)) ?_)))
local macro_rules | `(tactic| walk_at "call builtin:list.pop") => `(tactic| (k_here; k_dflt (refine pop_upd (by k_asm) (by k_asm) (by k_upd) (by omega) ?_); intro h9 F9 N9; (try k_sweep)))
local macro_rules | `(tactic| walk_at "compareOp NotEq ref ref") => `(tactic| (k_here; k_dflt (first | refine ne_nil_no (News.isList (by k_asm) (by k_mem)) (News.isList (by k_asm) (by k_mem)) (by first | units_room | exact Nat.le_of_ble_eq_true rfl) ?_ | refine ne_nil_yes (News.isList (by k_asm) (by k_mem)) (News.isList (by k_asm) (by k_mem)) (by assumption) (by assumption) (by first | units_room | exact Nat.le_of_ble_eq_true rfl) ?_)))
local macro_rules | `(tactic| walk_at "execs cons") => `(tactic| (k_here; (with_reducible show wpAny _ _ (execs (Stmt.If _ _ _ _ :: _) _) _ _ _); refine stop ?_))
local macro_rules | `(tactic| walk_at "eval ListComp") => `(tactic| (k_here; refine stop ?_))
local macro_rules | `(tactic| walk_at "CompSrc") => `(tactic| (k_here; refine stop ?_))
local macro_rules | `(tactic| walk_at "CompEnd") => `(tactic| (k_here; refine stop ?_))
local macro_rules | `(tactic| walk_at "exec While") => `(tactic| (k_here; refine stop ?_))
local macro_rules | `(tactic| walk_at "exec While BoolOp cons nil") => `(tactic| (k_here; refine stop ?_))
local macro_rules | `(tactic| walk_at "KswEnd") => `(tactic| (k_here; refine stop ?_))
set_option linter.unusedVariables false in
set_option maxRecDepth 100000 in
set_option maxHeartbeats 3000000 in
theorem stage15 (w : World) (p : Program) (loose : List Str) (mean : ExcName → Option Value) (mg mb : Str → Option Value) (g : Heap) (L fa : Addr) (cd : Value) (m : Str → Option Value) (s : Shared) (Q : Flow → Shared → Prop) (E : Value → Shared → Prop) (ps : Array Value) {body : List Stmt} {sc : Scope}
    (d l : Addr) (od ol co : Obj) (hD : DrawIs l od ol) (hco : co.data = Data.cell (some (.ref d))) (q1 : Off d l) (q2 : Off d (L + 1)) (q3 : Off l (L + 1)) (q4 : Off d 40) (q5 : Off l 40) (q6 : Off d 68) (q7 : Off l 68)
    (B : Below callerA g [] g) (F : Fr g L s.heap m) (X : (Mine.hd.heap_39 w.params).In g) (T : Top p loose mean mg mb g) (C1 : CodeHd g 44 40) (C2 : CodeHd g 72 68) (q8 : @LT.lt Nat _ 100 L) (G : AllBare s.gens)
    
    (N : News g L s.heap [(L + 1, co), (d, od), (l, ol), (40, tabObj ps), (68, tabObj #[])])
    (hE : PassesOwn (model PySem.Challenge.rw_at6012_01.row.prog w) (callerA.deeper (envOfC (Str.ofString "law") sc L fa cd)) (envOfC (Str.ofString "law") sc L fa cd) E)
    (hQ : ∀ s' ps1 ps2 m', Fr g L s'.heap m' → News g L s'.heap [(40, tabObj ps1), (68, tabObj ps2)] → s'.os = s.os → AllBare s'.gens → Q (.ret (.bool true)) s')
    (hb : lawBody.drop 15 = body) (hs : lawScope = sc) :
    wpAny (model PySem.Challenge.rw_at6012_01.row.prog w) (callerA.deeper (envOfC (Str.ofString "law") sc L fa cd)) (execs body (envOfC (Str.ofString "law") sc L fa cd)) Q E s := by
  w_top off
  revert X; k_fill; intro X
  conv at hb => lhs; whnf
  subst hb
  conv at hs => lhs; whnf
  subst hs
  k_steps
  refine Stop.out ?_
  k_dflt (refine src_range (news := [(L + 1, co), (d, _), (l, _), (40, tabObj ps), (68, tabObj #[])]) (by assumption) (by omega) (by rfl) (by k_asm) (kst_newsOf (by k_asm) (List.forall_mem_cons.mpr ⟨by k_mem, List.forall_mem_cons.mpr ⟨by k_mem, List.forall_mem_cons.mpr ⟨by k_mem, List.forall_mem_cons.mpr ⟨by k_mem, List.forall_mem_cons.mpr ⟨by k_mem, List.forall_mem_nil _⟩⟩⟩⟩⟩)) (by assumption) ?_)
  intro nn gg hnn
  refine comp_inv (fun i ys nw => ∃ od' ol' ss, DrawIs l od' ol' ∧ nw = [(L + 1, co), (d, od'), (l, ol'), (40, tabObj ps), (68, tabObj #[])] ∧ StrsAre ys ss ∧ ss.length = i ∧ (∀ z ∈ ss, z ∈ menu5)) _ ?step ?fin _ 0 [] _ (Nat.zero_add _) ⟨_, _, [], by assumption, rfl, .nil, rfl, fun _ h => nomatch h⟩
  case step =>
    rintro i ys news v I oI C oC D m₂ h tk E' hin ⟨od', ol', ss, hD', rfl, hss, hsl, hsz⟩ hP hC hx F9 N9 off9 ne9
    obtain ⟨tP, rfl⟩ := hP
    obtain ⟨⟨o1, o2, o3⟩, ⟨o4, o5, o6⟩, ⟨o7, o8, o9⟩, ⟨o10, o11, o12⟩, ⟨o13, o14, o15⟩⟩ := off_five off9
    obtain ⟨o16, o17, o18⟩ := off_three ne9
    clear ne9
    k_steps
    all_goals
      refine Stop.out ?_
      rename News _ _ _ _ => N8'
      refine LCg.CompEnd.intro (by k_asm) N8' [(L + 1, co), (d, _), (l, _), (40, tabObj ps), (68, tabObj #[])] (by lcg_sub) ?_ trivial ⟨_, _, ss ++ [_], by assumption, rfl, StrsAre.append' hss (.cons _ _ .nil), by simp; omega, fun z hz => ?_⟩
      · exact off9
      rcases List.mem_append.mp hz with hz | hz
      · exact hsz z hz
      · rw [List.mem_singleton.mp hz]; exact menu5_at (by assumption) (by assumption)
  case fin =>
    rintro ys news ⟨od', ol', ss, hD', rfl, hss, hsl, hsz⟩
    k_steps
    refine Stop.out ?_
    rename (_ ≠ _ ∧ _) => hne9
    obtain ⟨n1, n2, n3, n4, n5⟩ := hne9
    have q9 := Off.of n1
    have q10 := Off.of n2
    have q11 := Off.of n3
    have q12 := Off.of n4
    have q13 := Off.of n5
    clear n1 n2 n3 n4 n5
    rename News _ _ _ _ => N9
    rename Fr _ _ _ _ => F9
    have hlen9 : ∀ z ∈ ss, z.length ≤ 100 := fun z hz => menu5_len z (hsz z hz)
    have hn9 : ss.length ≤ 6 := by omega
    k_dflt (refine ksw_while (σ := List Value × List Str × Nat) (fun c => [(_, W.listOf c.1.toArray c.2.2), (_, LCg.lst ys), (40, tabObj ps), (68, tabObj #[])]) (fun _ => []) (fun _ => True) [] (fun c => StrsAre c.1 c.2.1 ∧ dropEnd c.2.1 = dropEnd ss ∧ c.2.1.length ≤ ss.length ∧ ∀ z ∈ c.2.1, z ∈ menu5) (fun c => c.2.1.length) (ys, ss, _) F9 (kst_newsOf N9 (List.forall_mem_cons.mpr ⟨by k_mem, List.forall_mem_cons.mpr ⟨by k_mem, List.forall_mem_cons.mpr ⟨by k_mem, List.forall_mem_cons.mpr ⟨by k_mem, List.forall_mem_nil _⟩⟩⟩⟩)) trivial (fun _ h => nomatch h) ⟨hss, rfl, Nat.le_refl _, hsz⟩ ?turn)
    clear F9 N9
    rintro ⟨cv, cs9, cn9⟩ u h tk - ⟨hP, hE9, hL9, hZ⟩ F9 N9
    (try dsimp only [kstB] at F9); (try dsimp only at N9); (try dsimp only at hP); (try dsimp only at hE9); (try dsimp only at hL9); (try dsimp only at hZ)
    rcases list_end cs9 with rfl | ⟨ys9, y9, rfl⟩
    · cases hP
      k_steps
      refine Stop.out ?_
      rename News _ _ _ _ => N7
      rename Fr _ _ _ _ => F7
      k_dflt (refine stage18 w p loose mean mg mb g L fa cd _ _ _ _ ps B F7 X T C1 C2 q8 G _ _ _ _ ss _ hss (by rw [← hE9]; exact .nil) hsz (by omega) (by rw [← hE9]; exact Nat.zero_le _) rfl rfl (by omega) (Off.ne' (by assumption)) (kst_newsOf N7 (List.forall_mem_cons.mpr ⟨by k_mem, List.forall_mem_cons.mpr ⟨by k_mem, List.forall_mem_cons.mpr ⟨by k_mem, List.forall_mem_cons.mpr ⟨by k_mem, List.forall_mem_nil _⟩⟩⟩⟩)) hE hQ (by kernel_rfl) (by kernel_rfl))
    · obtain ⟨ws9, t9, rfl, hw⟩ := strs_inv hP
      have hy : y9.length ≤ 100 := menu5_len _ (hZ y9 (by simp))
      have hsg := signs_menu hZ
      have hlw := StrsAre.len_eq hw
      rw [List.length_append, List.length_singleton] at hL9
      k_steps
      · refine Stop.out ?_
        k_dflt (refine ksw_end (⟨ws9, ys9, _⟩ : List Value × List Str × Nat) (by k_asm) (by k_asm) (by exact List.forall_mem_cons.mpr ⟨by k_mem, List.forall_mem_cons.mpr ⟨by k_mem, List.forall_mem_cons.mpr ⟨by k_mem, List.forall_mem_cons.mpr ⟨by k_mem, List.forall_mem_nil _⟩⟩⟩⟩) trivial (fun _ h => nomatch h) (fun _ _ _ => rfl) ⟨hw, ?_, ?_, ?_⟩ ?_)
        · rw [← hE9, dropEnd_yes (by simp only [blankRow]; assumption)]
        · exact Nat.le_of_succ_le hL9
        · exact fun z hz => hZ z (by simp [hz])
        · simp
      · have hb9 : dropEnd (ys9 ++ [y9]) = ys9 ++ [y9] := dropEnd_no (by simp only [blankRow]; assumption)
        have hk9 : StrsAre (ws9 ++ [Value.str y9 t9]) (dropEnd ss) := by rw [← hE9, hb9]; exact hP
        have hl9 : (dropEnd ss).length ≤ ss.length := by rw [← hE9, hb9, List.length_append, List.length_singleton]; exact hL9
        refine Stop.out ?_
        rename News _ _ _ _ => N7
        rename Fr _ _ _ _ => F7
        k_dflt (refine stage18 w p loose mean mg mb g L fa cd _ _ _ _ ps B F7 X T C1 C2 q8 G _ _ _ _ ss _ hss hk9 hsz (by omega) hl9 rfl rfl (by omega) (Off.ne' (by assumption)) (kst_newsOf N7 (List.forall_mem_cons.mpr ⟨by k_mem, List.forall_mem_cons.mpr ⟨by k_mem, List.forall_mem_cons.mpr ⟨by k_mem, List.forall_mem_cons.mpr ⟨by k_mem, List.forall_mem_nil _⟩⟩⟩⟩)) hE hQ (by kernel_rfl) (by kernel_rfl))

end Mine
end
section
open PySem PySem.W PyProof.Rows PySem.Calls
namespace Mine
local macro_rules | `(tactic| k_ne) => `(tactic| (refine neN ?_; (try dsimp only); first | exact Off.ne (by assumption) | exact Off.ne' (by assumption) | omega))
local macro_rules | `(tactic| walk_at "callWith ref") => `(tactic| (k_here; (with_reducible show wpAny _ _ (callWith _ (Value.ref _) _ _ []) _ _ _); k_dflt (refine' callWith_K ?k1 ?k2 ?_; (case k1 => k_asm); (case k2 => k_is); k_whole)))
local macro_rules | `(tactic| walk_at "eval Name") => `(tactic| (k_here; (with_reducible show wpAny _ _ (eval (Expr.Name _ _) (envOfC _ _ _ _ _)) _ _ _); k_dflt (first
  | (refine' nameX_L ?F ?v ?_ ?a ?b; (case F => k_asm); (case a => rfl); (case b => rfl); (case v => first | rfl | assumption); k_whole)
  | (refine' nameX_C ?N ?c ?m ?d ?_ ?a ?b; (case a => rfl); (case b => rfl); (case N => k_asm); (case c => rfl); (case m => k_mem); (case d => k_asm); k_whole)
  | (refine' nameX_K ?F ?X ?T ?e ?_ ?a ?b; (case F => k_asm); (case X => k_asm); (case T => k_asm); (case a => rfl); (case b => rfl); (case e => k_is); k_whole)
  | (refine' nameX_B ?F ?X ?T ?e ?v ?n ?_ ?a ?b; (case F => k_asm); (case X => k_asm); (case T => k_asm); (case a => rfl); (case b => rfl); (case e => k_is); (case v => boot_fast); (case n => decide); k_whole))))
local macro_rules | `(tactic| walk_at "eval ListComp") => `(tactic| (k_here; refine stop ?_))
local macro_rules | `(tactic| walk_at "CompSrc") => `(tactic| (k_here; refine stop ?_))
local macro_rules | `(tactic| walk_at "CompEnd") => `(tactic| (k_here; refine stop ?_))
local macro_rules | `(tactic| walk_at "execs cons") => `(tactic| (k_here; (with_reducible show wpAny _ _ (execs (Stmt.Assign _ _ _ :: _) _) _ _ _); refine stop ?_))
local macro_rules | `(tactic| walk_at "call ref") => `(tactic| (k_here; (with_reducible show wpAny _ _ (call (Value.ref 45) _ _) _ _ _); refine stop ?_))
local macro_rules | `(tactic| walk_at "call builtin:str.join") => `(tactic| (k_here; refine stop ?_))
local macro_rules | `(tactic| walk_at "compareOp NotEq str str") => `(tactic| (k_here; (with_reducible show wpAny _ _ (compareOp _ (Value.str (indF _ _) _) _) _ _ _); refine stop ?_))
set_option linter.unusedVariables false in
set_option maxRecDepth 100000 in
set_option maxHeartbeats 3000000 in
theorem stage14 (w : World) (p : Program) (loose : List Str) (mean : ExcName → Option Value) (mg mb : Str → Option Value) (g : Heap) (L fa : Addr) (cd : Value) (m : Str → Option Value) (s : Shared) (Q : Flow → Shared → Prop) (E : Value → Shared → Prop) (ps : Array Value) {body : List Stmt} {sc : Scope}
    (d l : Addr) (od ol co : Obj) (hD : DrawIs l od ol) (hco : co.data = Data.cell (some (.ref d))) (q1 : Off d l) (q2 : Off d (L + 1)) (q3 : Off l (L + 1)) (q4 : Off d 40) (q5 : Off l 40) (q6 : Off d 68) (q7 : Off l 68)
    (B : Below callerA g [] g) (F : Fr g L s.heap m) (X : (Mine.hd.heap_39 w.params).In g) (T : Top p loose mean mg mb g) (C1 : CodeHd g 44 40) (C2 : CodeHd g 72 68) (q8 : @LT.lt Nat _ 100 L) (G : AllBare s.gens)
    (x : Str) (tx : Tok) (R : Addr) (vs : List Value) (kn : Nat) (hx : TextOk x) (m1 : m (Str.ofString "one") = some (.str x tx)) (m2 : m (Str.ofString "rows") = some (.ref R)) (hvs : StrsAre vs (keptRows x)) (q9 : Off R 40)
    (N : News g L s.heap [(R, W.listOf vs.toArray kn), (L + 1, co), (d, od), (l, ol), (40, tabObj #[]), (68, tabObj #[])])
    (hE : PassesOwn (model PySem.Challenge.rw_at6012_01.row.prog w) (callerA.deeper (envOfC (Str.ofString "law") sc L fa cd)) (envOfC (Str.ofString "law") sc L fa cd) E)
    (hQ : ∀ s' ps1 ps2 m', Fr g L s'.heap m' → News g L s'.heap [(40, tabObj ps1), (68, tabObj ps2)] → s'.os = s.os → AllBare s'.gens → Q (.ret (.bool true)) s')
    (hb : lawBody.drop 14 = body) (hs : lawScope = sc) :
    wpAny (model PySem.Challenge.rw_at6012_01.row.prog w) (callerA.deeper (envOfC (Str.ofString "law") sc L fa cd)) (execs body (envOfC (Str.ofString "law") sc L fa cd)) Q E s := by
  w_top off
  revert X; k_fill; intro X
  conv at hb => lhs; whnf
  subst hb
  conv at hs => lhs; whnf
  subst hs
  have hl9 := hx.1
  k_steps
  refine Stop.out ?_
  rename News _ _ _ _ => N8
  rename Fr _ _ _ _ => F8
  k_dflt (refine ind_con _ _ _ _ _ _ _ _ _ _ hl9 (by decide +kernel) _ _ _ _ _ _ _ _ _ _ _ _ _ _ _ _ _ B F8 X (kst_newsOf N8 (List.forall_mem_cons.mpr ⟨by k_mem, List.forall_mem_nil _⟩)) T rfl (by (first | ktr_room | k_room)) (by (first | ktr_units | k_units)) C1 G ?_)
  rintro tk9 ps9 ⟨hp9, gn9, dr9, tn9, os9⟩ F9 N7 keep9 G9 hos9
  have N9 := led_keep40 N8 N7 keep9 [(R, W.listOf vs.toArray kn), (L + 1, co), (d, od), (l, ol), (68, tabObj #[])] (by repeat (first | exact List.forall_mem_nil _ | refine List.forall_mem_cons.mpr ⟨⟨by k_mem, by k_ne⟩, ?_⟩))
  have hos8 : os9 = s.os := hos9
  have G8 : AllBare gn9 := G9
  clear N8 N7 keep9 F8 hos9 G9
  dsimp only at N9 F9
  k_steps
  refine Stop.out ?_
  k_dflt (refine LCg.ListComp_U (F₀ := by k_asm) (by rfl) (by decide) (by rfl) (by decide) (by rfl) ?_)
  k_steps
  refine Stop.out ?_
  have hvl9 := StrsAre.len_eq hvs
  have hkl9 := keptRows_len x
  k_dflt (refine LCg.CompSrc.ledger (k := kn) (its := vs.toArray) (by rfl) (by k_asm) (by k_asm) (by k_mem) (by rw [sizeLine_eq, List.size_toArray]; omega) ?_)
  intro gg
  refine comp_inv (fun i ys nw => nw = [(40, tabObj ps9), (R, W.listOf vs.toArray kn), (L + 1, co), (d, od), (l, ol), (68, tabObj #[])] ∧ StrsAre ys (((keptRows x).take i).map (indRow (Str.ofString "  ")))) _ ?step ?fin _ 0 [] _ (Nat.zero_add _) ⟨rfl, .nil⟩
  case step =>
    rintro i ys news v I oI C oC D m₂ h tk E' hin ⟨rfl, hys⟩ hP hC hx9 F9 N9 off9 ne9
    obtain ⟨hi, tv, rfl⟩ := pick_str hvs hP
    have hyl := getD_len (kept_len hx) i
    k_steps
    · refine Stop.out ?_
      rename News _ _ _ _ => N8'
      exact LCg.CompEnd.intro (by k_asm) N8' [(40, tabObj ps9), (R, W.listOf vs.toArray kn), (L + 1, co), (d, od), (l, ol), (68, tabObj #[])] (by lcg_sub) off9 (Or.inr ⟨_, by k_mem, rfl, _, rfl⟩) ⟨rfl, strs_take hys hi (ind_yes (by assumption))⟩
    · refine Stop.out ?_
      rename News _ _ _ _ => N8'
      exact LCg.CompEnd.intro (by k_asm) N8' [(40, tabObj ps9), (R, W.listOf vs.toArray kn), (L + 1, co), (d, od), (l, ol), (68, tabObj #[])] (by lcg_sub) off9 (Or.inr ⟨_, by k_mem, rfl, _, rfl⟩) ⟨rfl, strs_take hys hi (ind_no (by assumption))⟩
  case fin =>
    rintro ys news ⟨rfl, hys⟩
    rw [List.take_of_length_le (by rw [List.size_toArray]; omega)] at hys
    k_steps
    refine Stop.out ?_
    k_dflt (refine join_list (News.isList (by k_asm) (by k_mem)) hys (ind_tot hx) ?_)
    intro tj kj
    k_steps
    refine Stop.out ?_
    k_dflt (refine ind_same rfl ?_)
    k_steps
    refine Stop.out ?_
    rename News _ _ _ _ => N7
    rename Fr _ _ _ _ => F7
    k_dflt (exact stage15 w p loose mean mg mb g L fa cd _ _ Q E ps9 d l od ol co hD hco q1 q2 q3 q4 q5 q6 q7 B F7 X T C1 C2 q8 G8 (kst_newsOf N7 (List.forall_mem_cons.mpr ⟨by k_mem, List.forall_mem_cons.mpr ⟨by k_mem, List.forall_mem_cons.mpr ⟨by k_mem, List.forall_mem_cons.mpr ⟨by k_mem, List.forall_mem_cons.mpr ⟨by k_mem, List.forall_mem_nil _⟩⟩⟩⟩⟩)) hE (fun s' p1 p2 m' F N e G => hQ s' p1 p2 m' F N (e.trans hos8) G) (by kernel_rfl) (by kernel_rfl))

end Mine
end
section
open PySem PySem.W PyProof.Rows PySem.Calls
namespace Mine
local macro_rules | `(tactic| k_ne) => `(tactic| (refine neN ?_; (try dsimp only); first | exact Off.ne (by assumption) | exact Off.ne' (by assumption) | omega))
local macro_rules | `(tactic| walk_at "callWith ref") => `(tactic| (k_here; (with_reducible show wpAny _ _ (callWith _ (Value.ref _) _ _ []) _ _ _); k_dflt (refine' callWith_K ?k1 ?k2 ?_; (case k1 => k_asm); (case k2 => k_is); k_whole)))
local macro_rules | `(tactic| walk_at "eval Name") => `(tactic| (k_here; (with_reducible show wpAny _ _ (eval (Expr.Name _ _) (envOfC _ _ _ _ _)) _ _ _); k_dflt (first
  | (refine' nameX_L ?F ?v ?_ ?a ?b; (case F => k_asm); (case a => rfl); (case b => rfl); (case v => first | rfl | assumption); k_whole)
  | (refine' nameX_C ?N ?c ?m ?d ?_ ?a ?b; (case a => rfl); (case b => rfl); (case N => k_asm); (case c => rfl); (case m => k_mem); (case d => k_asm); k_whole)
  | (refine' nameX_K ?F ?X ?T ?e ?_ ?a ?b; (case F => k_asm); (case X => k_asm); (case T => k_asm); (case a => rfl); (case b => rfl); (case e => k_is); k_whole)
  | (refine' nameX_B ?F ?X ?T ?e ?v ?n ?_ ?a ?b; (case F => k_asm); (case X => k_asm); (case T => k_asm); (case a => rfl); (case b => rfl); (case e => k_is); (case v => boot_fast); (case n => decide); k_whole))))
local macro_rules | `(tactic| walk_at "eval ListComp") => `(tactic| (k_here; refine stop ?_))
local macro_rules | `(tactic| walk_at "CompSrc") => `(tactic| (k_here; refine stop ?_))
local macro_rules | `(tactic| walk_at "CompEnd") => `(tactic| (k_here; refine stop ?_))
local macro_rules | `(tactic| walk_at "subscriptTail Name Slice ref ref") => `(tactic| (k_here; k_dflt (refine' kmk_slice_lit ?F ?N ?l ?p ?q (pick_init _ _) ?_ ?s ?t ?z; (case F => k_asm); (case N => k_asm); (case l => exact News.isList (by k_asm) (by k_mem)); (case p => kmk_part); (case q => kmk_part); (case s => with_unfolding_all rfl); (case t => kmk_pure); (case z => (rw [sizeLine_eq]; simp only [List.size_toArray, List.length_append, List.length_cons, List.length_nil]; omega))); intro D' h' F' N' l1; (try k_lt l1); (try k_sweep)))
local macro_rules | `(tactic| walk_at "subscriptTail Name UnaryOp ref int") => `(tactic| (k_here; (with_reducible show wpAny _ _ (subscriptTail (Expr.Name _ _) (Expr.UnaryOp _ _ _) (Value.ref _) (Value.int _ _)) _ _ _); k_dflt (refine last_item (News.isList (by k_asm) (by k_mem)) ?_)))
local macro_rules | `(tactic| walk_at "binaryOp Add ref ref") => `(tactic| (k_here; k_dflt (refine add_strs (by k_asm) (by k_asm) (News.isList (by k_asm) (by k_mem)) (News.isList (by k_asm) (by k_mem)) (by (simp only [List.length_cons, List.length_nil]; omega)) ?_); intro D' h' F' N' l1; (try k_lt l1); (try k_sweep)))
local macro_rules | `(tactic| walk_at "execs cons") => `(tactic| (k_here; (with_reducible show wpAny _ _ (execs (Stmt.If _ _ _ _ :: _) _) _ _ _); refine stop ?_))
local macro_rules | `(tactic| walk_at "call builtin:str.split") => `(tactic| (k_here; refine stop ?_))
set_option linter.unusedVariables false in
set_option maxRecDepth 100000 in
set_option maxHeartbeats 3000000 in
theorem stage12 (w : World) (p : Program) (loose : List Str) (mean : ExcName → Option Value) (mg mb : Str → Option Value) (g : Heap) (L fa : Addr) (cd : Value) (m : Str → Option Value) (s : Shared) (Q : Flow → Shared → Prop) (E : Value → Shared → Prop) (ps : Array Value) {body : List Stmt} {sc : Scope}
    (d l : Addr) (od ol co : Obj) (hD : DrawIs l od ol) (hco : co.data = Data.cell (some (.ref d))) (q1 : Off d l) (q2 : Off d (L + 1)) (q3 : Off l (L + 1)) (q4 : Off d 40) (q5 : Off l 40) (q6 : Off d 68) (q7 : Off l 68)
    (B : Below callerA g [] g) (F : Fr g L s.heap m) (X : (Mine.hd.heap_39 w.params).In g) (T : Top p loose mean mg mb g) (C1 : CodeHd g 44 40) (C2 : CodeHd g 72 68) (q8 : @LT.lt Nat _ 100 L) (G : AllBare s.gens)
    (x : Str) (tx : Tok) (hx : TextOk x) (m1 : m (Str.ofString "one") = some (.str x tx))
    (N : News g L s.heap [(L + 1, co), (d, od), (l, ol), (40, tabObj #[]), (68, tabObj #[])])
    (hE : PassesOwn (model PySem.Challenge.rw_at6012_01.row.prog w) (callerA.deeper (envOfC (Str.ofString "law") sc L fa cd)) (envOfC (Str.ofString "law") sc L fa cd) E)
    (hQ : ∀ s' ps1 ps2 m', Fr g L s'.heap m' → News g L s'.heap [(40, tabObj ps1), (68, tabObj ps2)] → s'.os = s.os → AllBare s'.gens → Q (.ret (.bool true)) s')
    (hb : lawBody.drop 12 = body) (hs : lawScope = sc) :
    wpAny (model PySem.Challenge.rw_at6012_01.row.prog w) (callerA.deeper (envOfC (Str.ofString "law") sc L fa cd)) (execs body (envOfC (Str.ofString "law") sc L fa cd)) Q E s := by
  w_top off
  revert X; k_fill; intro X
  conv at hb => lhs; whnf
  subst hb
  conv at hs => lhs; whnf
  subst hs
  have hl9 := hx.1
  k_steps
  refine Stop.out ?_
  k_dflt (refine KSpl.split1 (by k_asm) (by k_asm) (by decide +kernel) ?_ (by rw [sizeLine_eq]; omega))
  intro D9 l9 h9 k9 e9 a9 F9 N9 l1
  k_lt l1
  obtain ⟨r9, z9, hsp⟩ := split_parts x
  rw [e9, hsp] at a9
  obtain ⟨ws9, tz9, hv9, hw9⟩ := strs_inv a9
  rw [hv9] at N9
  clear hv9 a9 e9
  obtain ⟨hlen9, hrl9⟩ := parts_len hsp hl9
  have hwl9 := StrsAre.len_eq hw9
  have hzl9 : z9.length ≤ 100 := hlen9 _ (by simp)
  k_sweep
  k_steps
  refine Stop.out ?_
  k_dflt (refine LCg.ListComp_U (F₀ := by k_asm) (by rfl) (by decide) (by rfl) (by decide) (by rfl) ?_)
  k_steps
  refine Stop.out ?_
  rename_i D8 h8 F8 N8 l8
  k_dflt (refine LCg.CompSrc.ledger (k := 0) (its := ws9.toArray) (by rfl) (by k_asm) (by k_asm) (by k_mem) (by rw [sizeLine_eq, List.size_toArray]; omega) ?_)
  intro gg
  refine comp_inv (fun i ys nw => nw = [(D8, W.listOf ws9.toArray 0), (D9, W.listOf (ws9 ++ [Value.str z9 tz9]).toArray 0), (L + 1, co), (d, od), (l, ol), (40, tabObj #[]), (68, tabObj #[])] ∧ StrsAre ys ((r9.take i).map fun y => y ++ Str.ofString "\n")) _ ?step ?fin _ 0 [] _ (Nat.zero_add _) ⟨rfl, .nil⟩
  case step =>
    rintro i ys news v I oI C oC D m₂ h tk E' hin ⟨rfl, hys⟩ hP hC hx9 F9 N9 off9 ne9
    obtain ⟨hi, tv, rfl⟩ := pick_str hw9 hP
    have hyl := getD_len (fun y hy => hlen9 y (by simp [hy])) (ss := r9) i
    k_steps
    refine Stop.out ?_
    rename News _ _ _ _ => N8'
    exact LCg.CompEnd.intro (by k_asm) N8' [(D8, W.listOf ws9.toArray 0), (D9, W.listOf (ws9 ++ [Value.str z9 tz9]).toArray 0), (L + 1, co), (d, od), (l, ol), (40, tabObj #[]), (68, tabObj #[])] (by lcg_sub) off9 (Or.inr ⟨_, by k_mem, rfl, _, rfl⟩) ⟨rfl, strs_take hys hi rfl⟩
  case fin =>
    rintro ys news ⟨rfl, hys⟩
    rw [List.take_of_length_le (by rw [List.size_toArray]; omega)] at hys
    have hyl9 := StrsAre.len_eq hys
    rw [List.length_map] at hyl9
    k_steps
    · refine Stop.out ?_
      rename News _ _ _ _ => N7
      rename Fr _ _ _ _ => F7
      k_dflt (exact stage14 w p loose mean mg mb g L fa cd _ _ Q E #[] d l od ol co hD hco q1 q2 q3 q4 q5 q6 q7 B F7 X T C1 C2 q8 G x tx _ _ _ hx (by exact m1) rfl (rows_yes hx hsp hys (by assumption)) (Off.of (by k_ne)) (kst_newsOf N7 (List.forall_mem_cons.mpr ⟨by k_mem, List.forall_mem_cons.mpr ⟨by k_mem, List.forall_mem_cons.mpr ⟨by k_mem, List.forall_mem_cons.mpr ⟨by k_mem, List.forall_mem_cons.mpr ⟨by k_mem, List.forall_mem_cons.mpr ⟨by k_mem, List.forall_mem_nil _⟩⟩⟩⟩⟩⟩)) hE hQ (by kernel_rfl) (by kernel_rfl))
    · refine Stop.out ?_
      rename News _ _ _ _ => N7
      rename Fr _ _ _ _ => F7
      k_dflt (exact stage14 w p loose mean mg mb g L fa cd _ _ Q E #[] d l od ol co hD hco q1 q2 q3 q4 q5 q6 q7 B F7 X T C1 C2 q8 G x tx _ _ _ hx (by exact m1) rfl (rows_no hx hsp hys (by assumption)) (Off.of (by k_ne)) (kst_newsOf N7 (List.forall_mem_cons.mpr ⟨by k_mem, List.forall_mem_cons.mpr ⟨by k_mem, List.forall_mem_cons.mpr ⟨by k_mem, List.forall_mem_cons.mpr ⟨by k_mem, List.forall_mem_cons.mpr ⟨by k_mem, List.forall_mem_cons.mpr ⟨by k_mem, List.forall_mem_nil _⟩⟩⟩⟩⟩⟩)) hE hQ (by kernel_rfl) (by kernel_rfl))

end Mine
end
section
open PySem PySem.W PyProof.Rows PySem.Calls
namespace Mine
local macro_rules | `(tactic| k_ne) => `(tactic| (refine neN ?_; (try dsimp only); first | exact Off.ne (by assumption) | exact Off.ne' (by assumption) | omega))
local macro_rules | `(tactic| walk_at "callWith ref") => `(tactic| (k_here; (with_reducible show wpAny _ _ (callWith _ (Value.ref _) _ _ []) _ _ _); k_dflt (refine' callWith_K ?k1 ?k2 ?_; (case k1 => k_asm); (case k2 => k_is); k_whole)))
local macro_rules | `(tactic| walk_at "eval Name") => `(tactic| (k_here; (with_reducible show wpAny _ _ (eval (Expr.Name _ _) (envOfC _ _ _ _ _)) _ _ _); k_dflt (first
  | (refine' nameX_L ?F ?v ?_ ?a ?b; (case F => k_asm); (case a => rfl); (case b => rfl); (case v => first | rfl | assumption); k_whole)
  | (refine' nameX_C ?N ?c ?m ?d ?_ ?a ?b; (case a => rfl); (case b => rfl); (case N => k_asm); (case c => rfl); (case m => k_mem); (case d => k_asm); k_whole)
  | (refine' nameX_K ?F ?X ?T ?e ?_ ?a ?b; (case F => k_asm); (case X => k_asm); (case T => k_asm); (case a => rfl); (case b => rfl); (case e => k_is); k_whole)
  | (refine' nameX_B ?F ?X ?T ?e ?v ?n ?_ ?a ?b; (case F => k_asm); (case X => k_asm); (case T => k_asm); (case a => rfl); (case b => rfl); (case e => k_is); (case v => boot_fast); (case n => decide); k_whole))))
local macro_rules | `(tactic| walk_at "call ref") => `(tactic| (k_here; (with_reducible show wpAny _ _ (call (Value.ref 59) _ _) _ _ _); (refine wpAny_with_toks (n := 1) (by (try dsimp only); omega) ?_); k_dflt (refine (hc_con _ _ _ _ _ _ _ _ _ _ _ _ (by assumption) (by assumption)) _ _ _ _ _ _ _ _ _ _ _ _ _ _ _ _ _ (by (refine ⟨?_, ?_⟩ <;> (try dsimp only) <;> omega)) (by k_asm) (by k_asm) (by k_asm) (by k_asm) (by first | exact rfl | assumption) (by (first | ktr_room | k_room)) (by (first | ktr_units | k_units)) ?_); intro r9 h9 tk9 F9 hk9 hres hb9; (have N9 := News.grown (by k_asm) hk9); (subst hres); (dsimp only at hb9); (try k_sweep); (try dsimp only); (try k_fold)))
local macro_rules | `(tactic| walk_at "call ref") => `(tactic| (k_here; (with_reducible show wpAny _ _ (call (Value.ref 109) _ _) _ _ _); k_dflt (refine (less_con _ _ _ _ _ _ _ _ (by omega)) _ _ _ _ _ _ _ _ _ _ _ _ _ _ _ _ _  (by k_asm) (by k_asm) (by k_asm) (by k_asm) (by first | exact rfl | assumption) (by (first | ktr_room | k_room)) (by (first | ktr_units | k_units)) ?_); intro r9 h9 tk9 F9 hk9 hres; (have N9 := News.grown (by k_asm) hk9); (obtain ⟨tkr, hres⟩ := hres; subst hres); (try k_sweep); (try dsimp only); (try k_fold)))
local macro_rules | `(tactic| walk_at "call builtin:str.rstrip") => `(tactic| (k_here; (with_reducible show wpAny _ _ (call (Value.builtin "str.rstrip") [Value.str _ _]) _ _ _); (refine rstrip_toks (n := 1) (by (try dsimp only); omega) (by omega) ?_); intro t' k hk))
local macro_rules | `(tactic| walk_at "compareOp IsNot bool bool") => `(tactic| (k_here; refine isnot_eq (by first | exact hc_plain _ _ | exact hc_less (by assumption) (by assumption)) ?_))
local macro_rules | `(tactic| walk_at "execs cons") => `(tactic| (k_here; (with_reducible show wpAny _ _ (execs (Stmt.Assign _ _ _ :: _) _) _ _ _); refine stop ?_))
set_option linter.unusedVariables false in
set_option maxRecDepth 100000 in
set_option maxHeartbeats 3000000 in
theorem stage11 (w : World) (p : Program) (loose : List Str) (mean : ExcName → Option Value) (mg mb : Str → Option Value) (g : Heap) (L fa : Addr) (cd : Value) (m : Str → Option Value) (s : Shared) (Q : Flow → Shared → Prop) (E : Value → Shared → Prop) (ps : Array Value) {body : List Stmt} {sc : Scope}
    (d l : Addr) (od ol co : Obj) (hD : DrawIs l od ol) (hco : co.data = Data.cell (some (.ref d))) (q1 : Off d l) (q2 : Off d (L + 1)) (q3 : Off l (L + 1)) (q4 : Off d 40) (q5 : Off l 40) (q6 : Off d 68) (q7 : Off l 68)
    (B : Below callerA g [] g) (F : Fr g L s.heap m) (X : (Mine.hd.heap_39 w.params).In g) (T : Top p loose mean mg mb g) (C1 : CodeHd g 44 40) (C2 : CodeHd g 72 68) (q8 : @LT.lt Nat _ 100 L) (G : AllBare s.gens)
    (x : Str) (tx : Tok) (y : Str) (ty : Tok) (hx : TextOk x) (hy : TextOk y) (m1 : m (Str.ofString "one") = some (.str x tx)) (m2 : m (Str.ofString "two") = some (.str y ty)) (hT : 1 ≤ s.toks)
    (N : News g L s.heap [(L + 1, co), (d, od), (l, ol), (40, tabObj #[]), (68, tabObj #[])])
    (hE : PassesOwn (model PySem.Challenge.rw_at6012_01.row.prog w) (callerA.deeper (envOfC (Str.ofString "law") sc L fa cd)) (envOfC (Str.ofString "law") sc L fa cd) E)
    (hQ : ∀ s' ps1 ps2 m', Fr g L s'.heap m' → News g L s'.heap [(40, tabObj ps1), (68, tabObj ps2)] → s'.os = s.os → AllBare s'.gens → Q (.ret (.bool true)) s')
    (hb : lawBody.drop 11 = body) (hs : lawScope = sc) :
    wpAny (model PySem.Challenge.rw_at6012_01.row.prog w) (callerA.deeper (envOfC (Str.ofString "law") sc L fa cd)) (execs body (envOfC (Str.ofString "law") sc L fa cd)) Q E s := by
  w_top off
  revert X; k_fill; intro X
  conv at hb => lhs; whnf
  subst hb
  conv at hs => lhs; whnf
  subst hs
  have hl9 := hx.1
  have hl8 := hy.1
  k_steps
  refine Stop.out ?_
  rename News _ _ _ _ => N7
  rename Fr _ _ _ _ => F7
  k_dflt (exact stage12 w p loose mean mg mb g L fa cd _ _ Q E #[] d l od ol co hD hco q1 q2 q3 q4 q5 q6 q7 B F7 X T C1 C2 q8 G x tx hx m1 N7 hE hQ (by kernel_rfl) (by kernel_rfl))

end Mine
end
section
open PySem PySem.W PyProof.Rows PySem.Calls
namespace Mine
local macro_rules | `(tactic| k_ne) => `(tactic| (refine neN ?_; (try dsimp only); first | exact Off.ne (by assumption) | exact Off.ne' (by assumption) | omega))
local macro_rules | `(tactic| walk_at "callWith ref") => `(tactic| (k_here; (with_reducible show wpAny _ _ (callWith _ (Value.ref _) _ _ []) _ _ _); k_dflt (refine' callWith_K ?k1 ?k2 ?_; (case k1 => k_asm); (case k2 => k_is); k_whole)))
local macro_rules | `(tactic| walk_at "eval Name") => `(tactic| (k_here; (with_reducible show wpAny _ _ (eval (Expr.Name _ _) (envOfC _ _ _ _ _)) _ _ _); k_dflt (first
  | (refine' nameX_L ?F ?v ?_ ?a ?b; (case F => k_asm); (case a => rfl); (case b => rfl); (case v => first | rfl | assumption); k_whole)
  | (refine' nameX_C ?N ?c ?m ?d ?_ ?a ?b; (case a => rfl); (case b => rfl); (case N => k_asm); (case c => rfl); (case m => k_mem); (case d => k_asm); k_whole)
  | (refine' nameX_K ?F ?X ?T ?e ?_ ?a ?b; (case F => k_asm); (case X => k_asm); (case T => k_asm); (case a => rfl); (case b => rfl); (case e => k_is); k_whole)
  | (refine' nameX_B ?F ?X ?T ?e ?v ?n ?_ ?a ?b; (case F => k_asm); (case X => k_asm); (case T => k_asm); (case a => rfl); (case b => rfl); (case e => k_is); (case v => boot_fast); (case n => decide); k_whole))))
local macro_rules | `(tactic| walk_at "call ref") => `(tactic| (k_here; (with_reducible show wpAny _ _ (call (Value.ref 85) _ _) _ _ _); k_dflt (refine (take_con _ _ _ _ _ _ _ _ _ _ _ _ (by assumption) (by decide) (by decide) (by k_ne)) _ _ _ _ _ _ _ _ _ _ _ _ _ _ _ _ _ (by k_asm) (by k_asm) (by k_asm) (kst_newsOf (by k_asm) (List.forall_mem_cons.mpr ⟨by k_mem, List.forall_mem_cons.mpr ⟨by k_mem, List.forall_mem_nil _⟩⟩)) (by k_asm) (by first | exact rfl | assumption) (by (first | ktr_room | k_room)) (by (first | ktr_units | k_units)) ?_); intro r9 news9 h9 tk9 F9 N9 keep9 hres; obtain ⟨od9, ol9, i9, ti9, hD9, hn9, hr9, hlo9, hhi9⟩ := hres; subst hn9; subst hr9; k_dflt (refine led_upd (by k_asm) (by k_upd) (by k_upd) N9 keep9 ?_); clear N9; intro N8; (try dsimp only at N8); (try dsimp only); (try k_fold)))
local macro_rules | `(tactic| walk_at "subscriptTail") => `(tactic| (k_here; (with_reducible show wpAny _ _ (subscriptTail (Expr.List _ _) (Expr.Call _ _ _ _) (Value.ref _) (Value.int _ _)) _ _ _); k_dflt (refine KTb.item_list (News.isList (by k_asm) (List.Mem.head _)) (by repeat constructor) (by assumption) (by (simp only [List.length_cons, List.length_nil]); omega) (by omega) ?_); intro t9 hlt9))
local macro_rules | `(tactic| walk_at "eval ListComp") => `(tactic| (k_here; refine stop ?_))
local macro_rules | `(tactic| walk_at "CompSrc") => `(tactic| (k_here; refine stop ?_))
local macro_rules | `(tactic| walk_at "CompEnd") => `(tactic| (k_here; refine stop ?_))
local macro_rules | `(tactic| walk_at "exec Assign cons ListComp") => `(tactic| (k_here; refine stop ?_))
local macro_rules | `(tactic| walk_at "call builtin:str.join") => `(tactic| (k_here; refine stop ?_))
local macro_rules | `(tactic| walk_at "execs cons") => `(tactic| (k_here; (with_reducible show wpAny _ _ (execs (Stmt.If _ _ _ _ :: _) _) _ _ _); refine stop ?_))
set_option linter.unusedVariables false in
set_option maxRecDepth 100000 in
set_option maxHeartbeats 3000000 in
theorem stage10 (w : World) (p : Program) (loose : List Str) (mean : ExcName → Option Value) (mg mb : Str → Option Value) (g : Heap) (L fa : Addr) (cd : Value) (m : Str → Option Value) (s : Shared) (Q : Flow → Shared → Prop) (E : Value → Shared → Prop) (ps : Array Value) {body : List Stmt} {sc : Scope}
    (d l : Addr) (od ol co : Obj) (hD : DrawIs l od ol) (hco : co.data = Data.cell (some (.ref d))) (q1 : Off d l) (q2 : Off d (L + 1)) (q3 : Off l (L + 1)) (q4 : Off d 40) (q5 : Off l 40) (q6 : Off d 68) (q7 : Off l 68)
    (B : Below callerA g [] g) (F : Fr g L s.heap m) (X : (Mine.hd.heap_39 w.params).In g) (T : Top p loose mean mg mb g) (C1 : CodeHd g 44 40) (C2 : CodeHd g 72 68) (q8 : @LT.lt Nat _ 100 L) (G : AllBare s.gens)
    (hT : 1 ≤ s.toks)
    (N : News g L s.heap [(L + 1, co), (d, od), (l, ol), (40, tabObj #[]), (68, tabObj #[])])
    (hE : PassesOwn (model PySem.Challenge.rw_at6012_01.row.prog w) (callerA.deeper (envOfC (Str.ofString "law") sc L fa cd)) (envOfC (Str.ofString "law") sc L fa cd) E)
    (hQ : ∀ s' ps1 ps2 m', Fr g L s'.heap m' → News g L s'.heap [(40, tabObj ps1), (68, tabObj ps2)] → s'.os = s.os → AllBare s'.gens → Q (.ret (.bool true)) s')
    (hb : lawBody.drop 10 = body) (hs : lawScope = sc) :
    wpAny (model PySem.Challenge.rw_at6012_01.row.prog w) (callerA.deeper (envOfC (Str.ofString "law") sc L fa cd)) (execs body (envOfC (Str.ofString "law") sc L fa cd)) Q E s := by
  w_top off
  revert X; k_fill; intro X
  conv at hb => lhs; whnf
  subst hb
  conv at hs => lhs; whnf
  subst hs
  refine wpAny_execs_cons ?_
  refine wpAny_with_toks hT ?_
  k_steps
  refine Stop.out ?_
  k_dflt (refine Assign_Tuple ?_)
  k_dflt (refine LCg.ListComp_U (F₀ := by k_asm) (by with_unfolding_all rfl) (by decide) (by rfl) (by decide) (by rfl) ?_)
  k_steps
  refine Stop.out ?_
  k_dflt (refine src_range (news := [(L + 1, co), (d, od), (l, ol), (40, tabObj #[]), (68, tabObj #[])]) (i := 2) (by decide) (by decide) (by rfl) (by k_asm) (kst_newsOf (by k_asm) (List.forall_mem_cons.mpr ⟨by k_mem, List.forall_mem_cons.mpr ⟨by k_mem, List.forall_mem_cons.mpr ⟨by k_mem, List.forall_mem_cons.mpr ⟨by k_mem, List.forall_mem_cons.mpr ⟨by k_mem, List.forall_mem_nil _⟩⟩⟩⟩⟩)) (by assumption) ?_)
  intro nn gg hnn
  refine comp_inv (fun i ys nw => ∃ od' ol' ss, DrawIs l od' ol' ∧ nw = [(L + 1, co), (d, od'), (l, ol'), (40, tabObj #[]), (68, tabObj #[])] ∧ StrsAre ys ss ∧ ss.length = i ∧ (∀ z ∈ ss, TextOk z)) _ ?step ?fin _ 0 [] _ (Nat.zero_add _) ⟨_, _, [], by assumption, rfl, .nil, rfl, fun _ h => nomatch h⟩
  case step =>
    rintro i ys news v I oI C oC D m₂ h tk E' hin ⟨od', ol', ss, hD', rfl, hss, hsl, hsz⟩ hP hC hx F9 N9 off9 ne9
    obtain ⟨tP, rfl⟩ := hP
    obtain ⟨o1, o2, o3⟩ := off_at off9 (show (d, od') ∈ _ by k_mem)
    obtain ⟨o4, o5, o6⟩ := off_at off9 (show (l, ol') ∈ _ by k_mem)
    clear ne9
    k_steps
    refine Stop.out ?_
    k_dflt (refine LCg.ListComp_U (F₀ := by k_asm) (by with_unfolding_all rfl) (by decide) (by rfl) (by decide) (by rfl) ?_)
    k_steps
    refine Stop.out ?_
    k_dflt (refine src_range (news := [(I, oI), (C, oC), (D, LCg.lst ys), (L + 1, co), (d, _), (l, _), (40, tabObj #[]), (68, tabObj #[])]) (by assumption) (by omega) (by rfl) (by k_asm) (kst_newsOf (by k_asm) (List.forall_mem_cons.mpr ⟨by k_mem, List.forall_mem_cons.mpr ⟨by k_mem, List.forall_mem_cons.mpr ⟨by k_mem, List.forall_mem_cons.mpr ⟨by k_mem, List.forall_mem_cons.mpr ⟨by k_mem, List.forall_mem_cons.mpr ⟨by k_mem, List.forall_mem_cons.mpr ⟨by k_mem, List.forall_mem_cons.mpr ⟨by k_mem, List.forall_mem_nil _⟩⟩⟩⟩⟩⟩⟩⟩)) (by assumption) ?_)
    intro n2 g2 hn2
    refine comp_inv (fun i2 ys2 nw2 => ∃ od2 ol2 ss2, DrawIs l od2 ol2 ∧ nw2 = [(I, oI), (C, oC), (D, LCg.lst ys), (L + 1, co), (d, od2), (l, ol2), (40, tabObj #[]), (68, tabObj #[])] ∧ StrsAre ys2 ss2 ∧ ss2.length = i2 ∧ (∀ z ∈ ss2, z ∈ menuA)) _ ?step2 ?fin2 _ 0 [] _ (Nat.zero_add _) ⟨_, _, [], by assumption, rfl, .nil, rfl, fun _ h => nomatch h⟩
    case step2 =>
      rintro i2 ys2 news2 v2 I2 oI2 C2' oC2 D2 m2 h2 tk2 E2 hin2 ⟨od2, ol2, ss2, hD2, rfl, hss2, hsl2, hsz2⟩ hP2 hC2 hx2 F8 N8 off8 ne8
      obtain ⟨tP2, rfl⟩ := hP2
      obtain ⟨p1, p2, p3⟩ := off_at off8 (show (d, od2) ∈ _ by k_mem)
      obtain ⟨p4, p5, p6⟩ := off_at off8 (show (l, ol2) ∈ _ by k_mem)
      clear ne8
      k_steps
      refine Stop.out ?_
      rename News _ _ _ _ => N8'
      refine LCg.CompEnd.intro (by k_asm) N8' [(I, oI), (C, oC), (D, LCg.lst ys), (L + 1, co), (d, _), (l, _), (40, tabObj #[]), (68, tabObj #[])] (by lcg_sub) ?_ trivial ⟨_, _, ss2 ++ [_], by assumption, rfl, StrsAre.append' hss2 (.cons _ _ .nil), by simp; omega, fun z hz => ?_⟩
      · exact off8
      rcases List.mem_append.mp hz with hz | hz
      · exact hsz2 z hz
      · rw [List.mem_singleton.mp hz]; exact menuA_at (by assumption) (by assumption)
    case fin2 =>
      rintro ys2 news2 ⟨od2, ol2, ss2, hD2, rfl, hss2, hsl2, hsz2⟩
      k_steps
      refine Stop.out ?_
      k_dflt (refine join_list (News.isList (by k_asm) (by k_mem)) hss2 (menuA_tot hsz2 (by omega)) ?_)
      intro tj kj
      k_steps
      refine Stop.out ?_
      rename News _ _ _ _ => N8'
      refine LCg.CompEnd.intro (by k_asm) N8' [(L + 1, co), (d, _), (l, _), (40, tabObj #[]), (68, tabObj #[])] (by lcg_sub) ?_ trivial ⟨_, _, ss ++ [_], hD2, rfl, StrsAre.append' hss (.cons _ _ .nil), by simp; omega, fun z hz => ?_⟩
      · exact off9
      rcases List.mem_append.mp hz with hz | hz
      · exact hsz z hz
      · rw [List.mem_singleton.mp hz]; exact text_ok hsz2 (by omega)
  case fin =>
    rintro ys news ⟨od', ol', ss, hD', rfl, hss, hsl, hsz⟩
    obtain rfl : nn = 2 := by omega
    obtain ⟨x, y, tx, ty, rfl, rfl⟩ := two_strs hss hsl
    k_steps
    refine Stop.out ?_
    rename News _ _ _ _ => N7
    rename Fr _ _ _ _ => F7
    k_dflt (exact stage11 w p loose mean mg mb g L fa cd _ _ Q E #[] d l od' ol' co hD' hco q1 q2 q3 q4 q5 q6 q7 B F7 X T C1 C2 q8 G x tx y ty (hsz x (by simp)) (hsz y (by simp)) rfl rfl (by assumption) (kst_newsOf N7 (List.forall_mem_cons.mpr ⟨by k_mem, List.forall_mem_cons.mpr ⟨by k_mem, List.forall_mem_cons.mpr ⟨by k_mem, List.forall_mem_cons.mpr ⟨by k_mem, List.forall_mem_cons.mpr ⟨by k_mem, List.forall_mem_nil _⟩⟩⟩⟩⟩)) hE hQ (by kernel_rfl) (by kernel_rfl))

end Mine
end
section
open PySem PySem.W PyProof.Rows PySem.Calls
namespace Mine
local macro_rules | `(tactic| walk_at "call ref") => `(tactic| (k_here; refine stop ?_))
local macro_rules | `(tactic| walk_at "subscriptTail") => `(tactic| (k_here; refine stop ?_))
local macro_rules | `(tactic| walk_at "subscriptTail Name Constant str int") => `(tactic| (k_here; refine stop ?_))
local macro_rules | `(tactic| k_ne) => `(tactic| (refine neN ?_; (try dsimp only); first | exact Off.ne (by assumption) | exact Off.ne' (by assumption) | omega))
local macro_rules | `(tactic| walk_at "callWith ref") => `(tactic| (k_here; (with_reducible show wpAny _ _ (callWith _ (Value.ref _) _ _ []) _ _ _); k_dflt (refine' callWith_K ?k1 ?k2 ?_; (case k1 => k_asm); (case k2 => k_is); k_whole)))
local macro_rules | `(tactic| walk_at "eval Name") => `(tactic| (k_here; (with_reducible show wpAny _ _ (eval (Expr.Name _ _) (envOfC _ _ _ _ _)) _ _ _); k_dflt (first
  | (refine' nameX_L ?F ?v ?_ ?a ?b; (case F => k_asm); (case a => rfl); (case b => rfl); (case v => first | rfl | assumption); k_whole)
  | (refine' nameX_C ?N ?c ?m ?d ?_ ?a ?b; (case a => rfl); (case b => rfl); (case N => k_asm); (case c => rfl); (case m => k_mem); (case d => k_asm); k_whole)
  | (refine' nameX_K ?F ?X ?T ?e ?_ ?a ?b; (case F => k_asm); (case X => k_asm); (case T => k_asm); (case a => rfl); (case b => rfl); (case e => k_is); k_whole)
  | (refine' nameX_B ?F ?X ?T ?e ?v ?n ?_ ?a ?b; (case F => k_asm); (case X => k_asm); (case T => k_asm); (case a => rfl); (case b => rfl); (case e => k_is); (case v => boot_fast); (case n => decide); k_whole))))
local macro_rules | `(tactic| walk_at "call ref") => `(tactic| (k_here; (with_reducible show wpAny _ _ (call (Value.ref 85) _ _) _ _ _); k_dflt (refine (take_con _ _ _ _ _ _ _ _ _ _ _ _ (by assumption) (by decide) (by decide) (by k_ne)) _ _ _ _ _ _ _ _ _ _ _ _ _ _ _ _ _ (by k_asm) (by k_asm) (by k_asm) (kst_newsOf (by k_asm) (List.forall_mem_cons.mpr ⟨by k_mem, List.forall_mem_cons.mpr ⟨by k_mem, List.forall_mem_nil _⟩⟩)) (by k_asm) (by first | exact rfl | assumption) (by (first | ktr_room | k_room)) (by (first | ktr_units | k_units)) ?_); intro r9 news9 h9 tk9 F9 N9 keep9 hres; obtain ⟨od9, ol9, i9, ti9, hD9, hn9, hr9, hlo9, hhi9⟩ := hres; subst hn9; subst hr9; k_dflt (refine led_upd (by k_asm) (by k_upd) (by k_upd) N9 keep9 ?_); clear N9; intro N8; (try dsimp only at N8); (try dsimp only); (try k_fold)))
local macro_rules | `(tactic| walk_at "subscriptTail") => `(tactic| (k_here; (with_reducible show wpAny _ _ (subscriptTail (Expr.List _ _) (Expr.Call _ _ _ _) (Value.ref _) (Value.int _ _)) _ _ _); k_dflt (refine item_menu (News.isList (by k_asm) (List.Mem.head _)) (by repeat constructor) (by decide +kernel) (by assumption) (by (simp only [List.length_cons, List.length_nil]); omega) (by omega) ?_); intro z9 t9 hz9 hl9))
local macro_rules | `(tactic| walk_at "call ref") => `(tactic| (k_here; (with_reducible show wpAny _ _ (call (Value.ref 104) _ _) _ _ _); k_dflt (refine (bare_con _ _ _ _ _ _ _ _ (by first | omega | exact Nat.le_trans (lstrip_len _) (by omega))) _ _ _ _ _ _ _ _ _ _ _ _ _ _ _ _ _  (by k_asm) (by k_asm) (by k_asm) (by k_asm) (by first | exact rfl | assumption) (by (first | ktr_room | k_room)) (by (first | ktr_units | k_units)) ?_); intro r9 h9 tk9 F9 hk9 hres; (have N9 := News.grown (by k_asm) hk9); (obtain ⟨tkr, hres⟩ := hres; subst hres); (try k_sweep); (try dsimp only); (try k_fold)))
local macro_rules | `(tactic| walk_at "call ref") => `(tactic| (k_here; (with_reducible show wpAny _ _ (call (Value.ref 31) _ _) _ _ _); k_dflt (refine (strip_con _ _ _ _ _ _ _ _ (by omega)) _ _ _ _ _ _ _ _ _ _ _ _ _ _ _ _ _  (by k_asm) (by k_asm) (by k_asm) (by k_asm) (by first | exact rfl | assumption) (by (first | ktr_room | k_room)) (by (first | ktr_units | k_units)) ?_); intro r9 h9 tk9 F9 hk9 hres; (have N9 := News.grown (by k_asm) hk9); (obtain ⟨tkr, hres⟩ := hres; subst hres); (try k_sweep); (try dsimp only); (try k_fold)))
local macro_rules | `(tactic| walk_at "call ref") => `(tactic| (k_here; (with_reducible show wpAny _ _ (call (Value.ref 38) _ _) _ _ _); k_dflt (refine (isc_con _ _ _ _ _ _ _ _ (by omega) (by exact Nat.le_trans (lstrip_len _) (by omega))) _ _ _ _ _ _ _ _ _ _ _ _ _ _ _ _ _  (by k_asm) (by k_asm) (by k_asm) (by k_asm) (by first | exact rfl | assumption) (by (first | ktr_room | k_room)) (by (first | ktr_units | k_units)) ?_); intro r9 h9 tk9 F9 hk9 hres; (have N9 := News.grown (by k_asm) hk9); (subst hres); (try k_sweep); (try dsimp only); (try k_fold)))
local macro_rules | `(tactic| walk_at "subscriptTail Name Slice str ref") => `(tactic| (k_here; (with_reducible show wpAny _ _ (subscriptTail _ (Expr.Slice none (some _) none _) (Value.str _ _) (Value.ref _)) _ _ _); k_dflt (refine slice_strN_ns (hsz := (by exact Nat.le_trans (bare_len _ _) (Nat.le_trans (lstrip_len _) (by rw [sizeLine_eq]; omega)))) (s := ⟨_, _, _, _, _⟩) (by k_asm) (by k_asm) ?_); intro h9 t9 k9 F9 N9; (try k_sweep)))
local macro_rules | `(tactic| walk_at "subscriptTail Name Constant str int") => `(tactic| (k_here; k_dflt (refine item_first (by assumption) (by exact Nat.le_trans (bare_len _ _) (Nat.le_trans (lstrip_len _) (by omega))) ?_)))
local macro_rules | `(tactic| walk_at "compareOp NotEq str str") => `(tactic| (k_here; (with_reducible show wpAny _ _ (compareOp _ (Value.str (bareBy _ _) _) (Value.str (bareBy _ _) _)) _ _ _); refine ne_str_eq (bare_same _) ?_))
local macro_rules | `(tactic| walk_at "compareOp IsNot bool bool") => `(tactic| (k_here; refine isnot_eq (by first | exact isc_no2 (by assumption) | exact isc_yes (slice1_len (by assumption))) ?_))
local macro_rules | `(tactic| walk_at "execs cons") => `(tactic| (k_here; refine wpAny_execs_cons ?_; refine wpAny_with_toks (n := 1) (by assumption) ?_))
local macro_rules | `(tactic| walk_at "execs cons") => `(tactic| (k_here; (with_reducible show wpAny _ _ (execs (Stmt.Assign [Expr.Tuple _ _ _] _ _ :: _) _) _ _ _); refine stop ?_))
set_option linter.unusedVariables false in
set_option maxRecDepth 100000 in
set_option maxHeartbeats 600000 in
theorem stage4 (w : World) (p : Program) (loose : List Str) (mean : ExcName → Option Value) (mg mb : Str → Option Value) (g : Heap) (L fa : Addr) (cd : Value) (m : Str → Option Value) (s : Shared) (Q : Flow → Shared → Prop) (E : Value → Shared → Prop) (ps : Array Value) {body : List Stmt} {sc : Scope}
    (d l : Addr) (od ol co : Obj) (hD : DrawIs l od ol) (hco : co.data = Data.cell (some (.ref d))) (q1 : Off d l) (q2 : Off d (L + 1)) (q3 : Off l (L + 1)) (q4 : Off d 40) (q5 : Off l 40) (q6 : Off d 68) (q7 : Off l 68)
    (B : Below callerA g [] g) (F : Fr g L s.heap m) (X : (Mine.hd.heap_39 w.params).In g) (T : Top p loose mean mg mb g) (C1 : CodeHd g 44 40) (C2 : CodeHd g 72 68) (q8 : @LT.lt Nat _ 100 L) (G : AllBare s.gens)
    (hT : 1 ≤ s.toks)
    (N : News g L s.heap [(L + 1, co), (d, od), (l, ol), (40, tabObj #[]), (68, tabObj #[])])
    (hE : PassesOwn (model PySem.Challenge.rw_at6012_01.row.prog w) (callerA.deeper (envOfC (Str.ofString "law") sc L fa cd)) (envOfC (Str.ofString "law") sc L fa cd) E)
    (hQ : ∀ s' ps1 ps2 m', Fr g L s'.heap m' → News g L s'.heap [(40, tabObj ps1), (68, tabObj ps2)] → s'.os = s.os → AllBare s'.gens → Q (.ret (.bool true)) s')
    (hb : lawBody.drop 4 = body) (hs : lawScope = sc) :
    wpAny (model PySem.Challenge.rw_at6012_01.row.prog w) (callerA.deeper (envOfC (Str.ofString "law") sc L fa cd)) (execs body (envOfC (Str.ofString "law") sc L fa cd)) Q E s := by
  w_top off
  revert X; k_fill; intro X
  conv at hb => lhs; whnf
  subst hb
  conv at hs => lhs; whnf
  subst hs
  k_steps
  · refine Stop.out ?_
    rename News _ _ _ _ => N7
    rename Fr _ _ _ _ => F7
    k_dflt (exact stage10 w p loose mean mg mb g L fa cd _ _ Q E #[] d l _ _ co (by assumption) hco q1 q2 q3 q4 q5 q6 q7 B F7 X T C1 C2 q8 G (by assumption) (kst_newsOf N7 (List.forall_mem_cons.mpr ⟨by k_mem, List.forall_mem_cons.mpr ⟨by k_mem, List.forall_mem_cons.mpr ⟨by k_mem, List.forall_mem_cons.mpr ⟨by k_mem, List.forall_mem_cons.mpr ⟨by k_mem, List.forall_mem_nil _⟩⟩⟩⟩⟩)) hE hQ (by kernel_rfl) (by kernel_rfl))
  · refine Stop.out ?_
    rename News _ _ _ _ => N7
    rename Fr _ _ _ _ => F7
    k_dflt (exact stage10 w p loose mean mg mb g L fa cd _ _ Q E #[] d l _ _ co (by assumption) hco q1 q2 q3 q4 q5 q6 q7 B F7 X T C1 C2 q8 G (by assumption) (kst_newsOf N7 (List.forall_mem_cons.mpr ⟨by k_mem, List.forall_mem_cons.mpr ⟨by k_mem, List.forall_mem_cons.mpr ⟨by k_mem, List.forall_mem_cons.mpr ⟨by k_mem, List.forall_mem_cons.mpr ⟨by k_mem, List.forall_mem_nil _⟩⟩⟩⟩⟩)) hE hQ (by kernel_rfl) (by kernel_rfl))

end Mine
end
section
open PySem PySem.W PyProof.Rows PySem.Calls
namespace Mine
local macro_rules | `(tactic| walk_at "call ref") => `(tactic| (k_here; refine stop ?_))
local macro_rules | `(tactic| k_ne) => `(tactic| (refine neN ?_; (try dsimp only); first | exact Off.ne (by assumption) | exact Off.ne' (by assumption) | omega))
local macro_rules | `(tactic| walk_at "callWith ref") => `(tactic| (k_here; (with_reducible show wpAny _ _ (callWith _ (Value.ref _) _ _ []) _ _ _); k_dflt (refine' callWith_K ?k1 ?k2 ?_; (case k1 => k_asm); (case k2 => k_is); k_whole)))
local macro_rules | `(tactic| walk_at "eval Name") => `(tactic| (k_here; (with_reducible show wpAny _ _ (eval (Expr.Name _ _) (envOfC _ _ _ _ _)) _ _ _); k_dflt (first
  | (refine' nameX_L ?F ?v ?_ ?a ?b; (case F => k_asm); (case a => rfl); (case b => rfl); (case v => first | rfl | assumption); k_whole)
  | (refine' nameX_C ?N ?c ?m ?d ?_ ?a ?b; (case a => rfl); (case b => rfl); (case N => k_asm); (case c => rfl); (case m => k_mem); (case d => k_asm); k_whole)
  | (refine' nameX_K ?F ?X ?T ?e ?_ ?a ?b; (case F => k_asm); (case X => k_asm); (case T => k_asm); (case a => rfl); (case b => rfl); (case e => k_is); k_whole)
  | (refine' nameX_B ?F ?X ?T ?e ?v ?n ?_ ?a ?b; (case F => k_asm); (case X => k_asm); (case T => k_asm); (case a => rfl); (case b => rfl); (case e => k_is); (case v => boot_fast); (case n => decide); k_whole))))
local macro_rules | `(tactic| walk_at "call ref") => `(tactic| (k_here; (with_reducible show wpAny _ _ (call (Value.ref 85) _ _) _ _ _); k_dflt (refine (take_con _ _ _ _ _ _ _ _ _ _ _ _ (by assumption) (by decide) (by decide) (by k_ne)) _ _ _ _ _ _ _ _ _ _ _ _ _ _ _ _ _ (by k_asm) (by k_asm) (by k_asm) (kst_newsOf (by k_asm) (List.forall_mem_cons.mpr ⟨by k_mem, List.forall_mem_cons.mpr ⟨by k_mem, List.forall_mem_nil _⟩⟩)) (by k_asm) (by first | exact rfl | assumption) (by (first | ktr_room | k_room)) (by (first | ktr_units | k_units)) ?_); intro r9 news9 h9 tk9 F9 N9 keep9 hres; obtain ⟨od9, ol9, i9, ti9, hD9, hn9, hr9, hlo9, hhi9⟩ := hres; subst hn9; subst hr9; k_dflt (refine led_upd (by k_asm) (by k_upd) (by k_upd) N9 keep9 ?_); clear N9; intro N8; (try dsimp only at N8); (try dsimp only); (try k_fold)))
local macro_rules | `(tactic| walk_at "call ref") => `(tactic| (k_here; (with_reducible show wpAny _ _ (call (Value.ref 90) _ _) _ _ _); k_dflt (refine (row_con _ _ _ _ _ _ _ _ _ _ (by assumption) (by k_ne)) _ _ _ _ _ _ _ _ _ _ _ _ _ _ _ _ _ (by k_asm) (by k_asm) (by k_asm) (kst_newsOf (by k_asm) (List.forall_mem_cons.mpr ⟨by k_mem, List.forall_mem_cons.mpr ⟨by k_mem, List.forall_mem_nil _⟩⟩)) (by k_asm) (by first | exact rfl | assumption) (by (first | ktr_room | k_room)) (by (first | ktr_units | k_units)) ?_); intro r9 news9 h9 tk9 F9 N9 keep9 hres; obtain ⟨od9, ol9, x9, tx9, hD9, hn9, hr9, hR9⟩ := hres; subst hn9; subst hr9; k_dflt (refine led_upd (by k_asm) (by k_upd) (by k_upd) N9 keep9 ?_); clear N9; intro N8; (have hxl9 := row_len hR9); (try dsimp only at N8); (try dsimp only); (try k_fold)))
local macro_rules | `(tactic| walk_at "call ref") => `(tactic| (k_here; (with_reducible show wpAny _ _ (call (Value.ref 52) _ _) _ _ _); k_dflt (refine (scan_con _ _ _ _ _ _ _ _ _ _ _ _ (by omega) (by omega) (by exact strip_first (by assumption)) (by exact QOk.len (by assumption))) _ _ _ _ _ _ _ _ _ _ _ _ _ _ _ _ _  (by k_asm) (by k_asm) (by k_asm) (by k_asm) (by first | exact rfl | assumption) (by (first | ktr_room | k_room)) (by (first | ktr_units | k_units)) ?_); intro r9 h9 tk9 F9 hk9 hres; (have N9 := News.grown (by k_asm) hk9); (obtain ⟨tkr, hres⟩ := hres; rw [scan_eq (by assumption)] at hres; subst hres); (try k_sweep); (try dsimp only); (try k_fold)))
local macro_rules | `(tactic| walk_at "call ref") => `(tactic| (k_here; (with_reducible show wpAny _ _ (call (Value.ref 97) _ _) _ _ _); k_dflt (refine (open_con _ _ _ _ _ _ _ _ _ _ (by omega) (by exact QOk.len (by assumption))) _ _ _ _ _ _ _ _ _ _ _ _ _ _ _ _ _  (by k_asm) (by k_asm) (by k_asm) (by k_asm) (by first | exact rfl | assumption) (by (first | ktr_room | k_room)) (by (first | ktr_units | k_units)) ?_); intro r9 h9 tk9 F9 hk9 hres; (have N9 := News.grown (by k_asm) hk9); (obtain ⟨tkr, hres⟩ := hres; subst hres); (try k_sweep); (try dsimp only); (try k_fold)))
local macro_rules | `(tactic| walk_at "compareOp NotEq str str") => `(tactic| (k_here; refine ne_str_eq rfl ?_))
local macro_rules | `(tactic| walk_at "pyIter ref") => `(tactic| (k_here; refine stop ?_))
local macro_rules | `(tactic| walk_at "InvEndN") => `(tactic| (k_here; refine stop ?_))
local macro_rules | `(tactic| walk_at "execs cons") => `(tactic| (k_here; refine wpAny_execs_cons ?_; refine with_toksQ (n := 1) (by first | assumption | exact Nat.le_add_left 1 _) ?_))
local macro_rules | `(tactic| walk_at "exec For Name Call cons nil") => `(tactic| (k_here; (rename Fr _ _ _ _ => lF'); (with_unfolding_all refine' For_invVF lF' ?k1 ?k2 ?_; (case k1 => exact rfl); (case k2 => exact rfl); k_whole)))
local macro_rules | `(tactic| walk_at "execs cons") => `(tactic| (k_here; (with_reducible show wpAny _ _ (execs (Stmt.Assign _ (Expr.BinOp _ _ _ _) _ :: _) _) _ _ _); refine stop ?_))
set_option linter.unusedVariables false in
set_option maxRecDepth 100000 in
set_option maxHeartbeats 3000000 in
theorem stage1 (w : World) (p : Program) (loose : List Str) (mean : ExcName → Option Value) (mg mb : Str → Option Value) (g : Heap) (L fa : Addr) (cd : Value) (m : Str → Option Value) (s : Shared) (Q : Flow → Shared → Prop) (E : Value → Shared → Prop) (ps : Array Value) {body : List Stmt} {sc : Scope}
    (d l : Addr) (od ol co : Obj) (hD : DrawIs l od ol) (hco : co.data = Data.cell (some (.ref d))) (q1 : Off d l) (q2 : Off d (L + 1)) (q3 : Off l (L + 1)) (q4 : Off d 40) (q5 : Off l 40) (q6 : Off d 68) (q7 : Off l 68)
    (B : Below callerA g [] g) (F : Fr g L s.heap m) (X : (Mine.hd.heap_39 w.params).In g) (T : Top p loose mean mg mb g) (C1 : CodeHd g 44 40) (C2 : CodeHd g 72 68) (q8 : @LT.lt Nat _ 100 L) (G : AllBare s.gens)
    
    (N : News g L s.heap [(L + 1, co), (d, od), (l, ol), (40, tabObj #[]), (68, tabObj #[])])
    (hE : PassesOwn (model PySem.Challenge.rw_at6012_01.row.prog w) (callerA.deeper (envOfC (Str.ofString "law") sc L fa cd)) (envOfC (Str.ofString "law") sc L fa cd) E)
    (hQ : ∀ s' ps1 ps2 m', Fr g L s'.heap m' → News g L s'.heap [(40, tabObj ps1), (68, tabObj ps2)] → s'.os = s.os → AllBare s'.gens → Q (.ret (.bool true)) s')
    (hb : lawBody.drop 1 = body) (hs : lawScope = sc) :
    wpAny (model PySem.Challenge.rw_at6012_01.row.prog w) (callerA.deeper (envOfC (Str.ofString "law") sc L fa cd)) (execs body (envOfC (Str.ofString "law") sc L fa cd)) Q E s := by
  w_top off
  revert X; k_fill; intro X
  conv at hb => lhs; whnf
  subst hb
  conv at hs => lhs; whnf
  subst hs
  refine wpAny_execs_cons ?_
  k_steps
  refine Stop.out ?_
  rename_i i9 ti9 hD9 hlo9 hhi9 N9 h9 tk9 t9 u9 v9 hR9 F9 N8 k9
  k_dflt (refine kst_range (σ := Obj × Obj × Str × Tok × Tok) (fun c => [(L + 1, co), (d, c.1), (l, c.2.1), (40, tabObj #[]), (68, tabObj #[])]) (fun c => [(Str.ofString "told", .str c.2.2.1 c.2.2.2.1), (Str.ofString "due", .str c.2.2.1 c.2.2.2.2)]) (fun _ => True) [Str.ofString "row"] (fun _ c => DrawIs l c.1 c.2.1 ∧ QOk c.2.2.1) (_, _, Str.ofString "", _, _) (n := i9.toNat) (by rfl) hR9 (small_range _ hlo9 (by omega)) (by rw [rangeSize_nat]; omega) F9 N8 trivial (List.forall_mem_cons.mpr ⟨rfl, List.forall_mem_cons.mpr ⟨rfl, List.forall_mem_nil _⟩⟩) ⟨hD9, qok_nil⟩ ?turn ?done)
  case turn =>
    rintro ⟨o1, o2, q, t1, t2⟩ pre k t u h tk own hk' hlt hoff - ⟨hD1, hq1⟩ F8 N7
    (try dsimp only [kstB] at F8); (try dsimp only at N7); (try dsimp only at hD1); (try dsimp only at hq1)
    (try simp only [List.cons_append, List.nil_append] at N7)
    have hql := hq1.len
    clear F9 N8 N9 hR9
    k_steps
    refine Stop.out ?_
    k_dflt (refine kst_end (⟨_, _, qF _ q, _, _⟩ : Obj × Obj × Str × Tok × Tok) (by k_asm) (by k_asm) (by exact List.forall_mem_cons.mpr ⟨by k_mem, List.forall_mem_cons.mpr ⟨by k_mem, List.forall_mem_cons.mpr ⟨by k_mem, List.forall_mem_cons.mpr ⟨by k_mem, List.forall_mem_cons.mpr ⟨by k_mem, List.forall_mem_nil _⟩⟩⟩⟩⟩) (by exact fun p hp => .tail _ (.tail _ (.tail _ (.tail _ (.tail _ hp))))) (by exact rfl) trivial (by exact List.forall_mem_cons.mpr ⟨rfl, List.forall_mem_cons.mpr ⟨rfl, List.forall_mem_nil _⟩⟩) ?_ ⟨by assumption, qF_ok hq1⟩)
    intro z z1 z2 z3
    have zt : z ≠ Str.ofString "told" := z2 _ (.head _)
    have zd : z ≠ Str.ofString "due" := z2 _ (.tail _ (.head _))
    exact (if_neg zd).trans ((if_neg zt).trans ((if_neg (not_in1 z3)).trans ((if_neg z1).trans ((if_neg zt).trans ((if_neg zd).trans ((if_neg (by rw [z3]; exact Bool.false_ne_true)).trans rfl))))))
  case done =>
    rintro ⟨o1, o2, q, t1, t2⟩ u h tk - ⟨hD1, hq1⟩ F8 N7
    (try dsimp only [kstB] at F8); (try dsimp only at N7); (try dsimp only at hD1); (try dsimp only at hq1)
    k_steps
    refine Stop.out ?_
    rename News _ _ _ _ => N7
    rename Fr _ _ _ _ => F7
    have F6 : Fr g L _ _ := F7
    have N6 : News g L _ _ := N7
    with_reducible (exact stage4 w p loose mean mg mb g L fa cd _ _ Q E #[] d l o1 o2 co hD1 hco q1 q2 q3 q4 q5 q6 q7 B F6 X T C1 C2 q8 G (by assumption) N6 hE hQ (by kernel_rfl) (by kernel_rfl))

end Mine
end
section
open PySem PySem.W PyProof.Rows PySem.Calls
namespace Mine
local macro_rules | `(tactic| walk_at "call ref") => `(tactic| (k_here; (with_reducible show wpAny _ _ (call (Value.ref 78) _ _) _ _ _); (k_dflt (refine draw_con _ _ _ _ _ _ _ _ _ (by assumption) (by omega) _ _ _ _ _ _ _ _ _ _ _ _ _ _ _ _ _ (by k_asm) (by k_asm) (by k_asm) (by k_asm) (by first | exact rfl | assumption) (by (first | ktr_room | k_room)) (by (first | ktr_units | k_units)) (by assumption) ?_)); intro d9 l9 od9 ol9 h9 tk9 F9 N9 keep9 hd9 hl9 hdl9 hD9; refine stop ?_))
local macro_rules | `(tactic| walk_at "call ref") => `(tactic| (k_here; (with_reducible show wpAny _ _ (call (Value.ref 85) _ _) _ _ _); k_dflt (refine (take_con _ _ _ _ _ _ _ _ _ _ _ _ (by assumption) (by decide) (by decide) (by k_ne)) _ _ _ _ _ _ _ _ _ _ _ _ _ _ _ _ _ (by k_asm) (by k_asm) (by k_asm) (kst_newsOf (by k_asm) (List.forall_mem_cons.mpr ⟨by k_mem, List.forall_mem_cons.mpr ⟨by k_mem, List.forall_mem_nil _⟩⟩)) (by k_asm) (by first | exact rfl | assumption) (by (first | ktr_room | k_room)) (by (first | ktr_units | k_units)) ?_); intro r9 news9 h9 tk9 F9 N9 keep9 hres; obtain ⟨od9, ol9, i9, ti9, hD9, hn9, hr9, hlo9, hhi9⟩ := hres; subst hn9; subst hr9; k_dflt (refine led_upd (by k_asm) (by k_upd) (by k_upd) N9 keep9 ?_); clear N9; intro N8; (try dsimp only at N8); (try dsimp only); (try k_fold)))
local macro_rules | `(tactic| k_ne) => `(tactic| (refine neN ?_; (try dsimp only); first | exact Off.ne (by assumption) | exact Off.ne' (by assumption) | omega))
local macro_rules | `(tactic| walk_at "execs cons") => `(tactic| (k_here; (with_reducible show wpAny _ _ (execs (Stmt.Assign [Expr.Name _ _] (Expr.Constant _ _ _) _ :: _) _) _ _ _); refine stop ?_))
set_option maxRecDepth 100000 in
set_option maxHeartbeats 8000000 in
theorem holds_test : PySem.Challenge.rw_at6012_01.Holds := by
  w_on
  o_law
  o_head (kmHook Mine.hd.heap_39 [2,3,6,15,16,18,19,21,22,23,24,25,27,28,30,31,32,34,35,37,38,39,41,42,44,45,46,48,49,51,52,53,55,56,58,59,60,62,63,65,66,67,69,70,72,73,74,77,78,79,81,82,84,85,86,89,90,91,93,94,96,97,98,100,101,103,104,105,108,109,110,112,113,115,116,117,120,121] (fun _ => by kernel_rfl) [40, 68])
  (case hw => w_witness2)
  k_fill
  intro w s₀ s₁ mg mb G Y fa o pm cd doc dV kV ho hd hcd hD hmg hg args vals as hpre hlay hrd hwl hlo
  have KX := km_in_of Y
  km_tabs Y
  have X := (Ground.X G).1
  have V := (Ground.X G).2
  refine Ground.open G ?_
  intro T B D TE TW
  try (refine guard_noD D (by decide +kernel) ?_; clear D)
  have hT9 : TabsAt [(44, 40), (72, 68)] _ := (List.forall_mem_cons.mpr ⟨⟨codeHd_of_K (c := 44) (P := 40) KX (by kernel_rfl), hT8 40 (by k_mem)⟩, List.forall_mem_cons.mpr ⟨⟨codeHd_of_K (c := 72) (P := 68) KX (by kernel_rfl), hT8 68 (by k_mem)⟩, fun _ h => nomatch h⟩⟩)
  clear hmg
  wrow_args hpre hlay hrd hwl hlo
  all_goals (
    first | refine callC_kw (enter_call ?_) | refine enter_call ?_
    w_top on
    refine my_post hT9 (fun _ => rfl) (law_post _) ?_
    w_call any ho hd hcd hD T F
    clear hd
    kn_ghosts F T
    k_drop
    skip)
  k_steps
  refine Stop.out ?_
  rename_i d9 l9 od9 ol9 h9 tk9 F9 N9 keep9 hd9 hl9 hdl9 hD9
  rename News _ _ _ (_ :: _ :: _ :: []) => N0
  have N1 := News.grown N0 keep9
  have N2 := led_draw N1 N9
  have q1 : Off d9 l9 := hdl9
  have q2 : Off d9 _ := off_fresh (N0 _ (.head _)).1 hd9
  have q3 : Off l9 _ := off_fresh (N0 _ (.head _)).1 hl9
  have q4 : Off d9 40 := off_fresh (N0 _ (.tail _ (.head _))).1 hd9
  have q5 : Off l9 40 := off_fresh (N0 _ (.tail _ (.head _))).1 hl9
  have q6 : Off d9 68 := off_fresh (N0 _ (.tail _ (.tail _ (.head _)))).1 hd9
  have q7 : Off l9 68 := off_fresh (N0 _ (.tail _ (.tail _ (.head _)))).1 hl9
  clear N1 N9 N0 hdl9
  have G9 : AllBare s₁.gens := AllBare.of_eq hg
  k_steps
  refine Stop.out ?_
  rename News _ _ _ _ => N7
  rename Fr _ _ _ _ => F7
  rename Frag.In _ _ => X7
  have hL := Nat.lt_of_lt_of_le (Nat.lt_trans (show @LT.lt Nat _ 100 116 by decide) (Heap.lt_size (X7 116 _ (by k_is)))) F7.above
  with_reducible (refine' stage1 w _ _ _ _ _ _ _ fa cd _ _ _ _ #[] d9 l9 od9 ol9 _ hD9 ?h1 q1 q2 q3 q4 q5 q6 q7 ?h2 F7 X7 ?h3 ?h4 ?h5 hL ?h6 N7 ?h7 ?h8 (by kernel_rfl) (by kernel_rfl))
  case h1 => assumption
  case h2 => assumption
  case h3 => assumption
  case h4 => assumption
  case h5 => assumption
  case h6 => exact G9
  case h7 => passes_own
  case h8 =>
    intro s' p1 p2 m' F N hos hG
    exact ⟨rfl, (law_end F N).1, (law_end F N).2, hos, hG⟩
end Mine
end
set_option maxRecDepth 100000 in
set_option maxHeartbeats 8000000 in
theorem PySem.Challenge.cw_at6012_01_holds : PySem.Challenge.rw_at6012_01.Holds := by
  exact Mine.holds_test
