/- Plain functions of the standards: modules of widths. No program in sight. -/
import Derived.Test.YtpgddedhhjbgoaaDoorBase
namespace Go.Proofs.YtpgddedhhjbgoaaDoor

/-- Bars of widths, the first of a colour. -/
def barsFrom : Bool → List Nat → List Bool
  | _, [] => []
  | c, n :: ns => List.replicate n c ++ barsFrom (!c) ns
def bars (ws : List Nat) : List Bool := barsFrom true ws
/-- The colour behind so many bars. -/
def colour (c : Bool) (n : Nat) : Bool := if n % 2 = 0 then c else !c

theorem colour_succ (c : Bool) (n : Nat) : colour (!c) n = colour c (n + 1) := by
  unfold colour
  rcases Nat.mod_two_eq_zero_or_one n with h | h
  · rw [if_pos h, if_neg (by omega)]
  · rw [if_neg (by omega), if_pos (by omega)]; simp
theorem colour_next (c : Bool) (n : Nat) : colour c (n + 1) = !colour c n := by
  unfold colour
  rcases Nat.mod_two_eq_zero_or_one n with h | h
  · rw [if_pos h, if_neg (by omega)]
  · rw [if_neg (show ¬ n % 2 = 0 by omega), if_pos (by omega)]; simp
theorem barsFrom_append (c : Bool) (xs ys : List Nat) : barsFrom c (xs ++ ys) = barsFrom c xs ++ barsFrom (colour c xs.length) ys := by
  induction xs generalizing c with
  | nil => simp [barsFrom, colour]
  | cons x xs ih => simp only [List.cons_append, barsFrom, ih, List.append_assoc, List.length_cons, colour_succ]
theorem bars_snoc (ws : List Nat) (i : Nat) (h : i < ws.length) : bars (ws.take (i + 1)) = bars (ws.take i) ++ List.replicate (nth ws i) (decide (i % 2 = 0)) := by
  unfold bars
  rw [List.take_succ_eq_append_getElem h, barsFrom_append]
  have hl : (ws.take i).length = i := by rw [List.length_take]; omega
  rw [hl]
  simp only [barsFrom, List.append_nil, nth_eq h]
  congr 2
theorem barsFrom_length (c : Bool) (ws : List Nat) : (barsFrom c ws).length = ws.sum := by
  induction ws generalizing c with
  | nil => rfl
  | cons x xs ih => simp [barsFrom, ih]
theorem sum_le (ws : List Nat) (m : Nat) (h : ∀ x ∈ ws, x ≤ m) : ws.sum ≤ m * ws.length := by
  induction ws with
  | nil => simp
  | cons x xs ih =>
    have h1 := h x (by simp)
    have h2 := ih fun y hy => h y (by simp [hy])
    simp only [List.sum_cons, List.length_cons, Nat.mul_add, Nat.mul_one]; omega
theorem bars_length_le (ws : List Nat) (m : Nat) (h : ∀ x ∈ ws, x ≤ m) : (bars ws).length ≤ m * ws.length := by
  unfold bars; rw [barsFrom_length]; exact sum_le ws m h

/-- A row of modules that is being written from the left. -/
def fillB (n : Nat) (M : List Bool) : List Value := (M ++ List.replicate (n - M.length) false).map Value.bool
theorem fillB_set (n : Nat) (M : List Bool) (x : Bool) (h : M.length < n) : (fillB n M).set M.length (.bool x) = fillB n (M ++ [x]) := by
  unfold fillB
  rw [← List.map_set, List.set_append_right _ _ (Nat.le_refl _), Nat.sub_self, show n - M.length = (n - (M ++ [x]).length) + 1 from by simp; omega, List.replicate_succ, List.set_cons_zero]
  simp
theorem fillB_get (n : Nat) (M : List Bool) (h : M.length < n) : (fillB n M)[M.length]? = some (.bool false) := by
  unfold fillB
  rw [List.getElem?_map, List.getElem?_append_right (Nat.le_refl _), Nat.sub_self, List.getElem?_replicate, if_pos (by omega)]; rfl
theorem fillB_length (n : Nat) (M : List Bool) (h : M.length ≤ n) : (fillB n M).length = n := by simp [fillB]; omega
theorem fillB_nil (n : Nat) : fillB n [] = List.replicate n (.bool false) := by simp [fillB]
theorem fillB_full (n : Nat) (M : List Bool) (h : M.length = n) : fillB n M = M.map .bool := by simp [fillB, h]
theorem made_bools (n : Nat) : (madeCells #[Value.bool false] n).toList = fillB n [] := by rw [toList_madeCells_one, fillB_nil]
theorem made_ints (n : Nat) (l : List Nat) : (madeCells #[Value.int .i64 0] n).toList = fillI n l 0 := by rw [toList_madeCells_one, fillI_zero]
theorem barsFrom_snoc (c : Bool) (ws : List Nat) (i : Nat) (h : i < ws.length) : barsFrom c (ws.take (i + 1)) = barsFrom c (ws.take i) ++ List.replicate (nth ws i) (colour c i) := by
  rw [List.take_succ_eq_append_getElem h, barsFrom_append]
  have hl : (ws.take i).length = i := by rw [List.length_take]; omega
  rw [hl]
  simp only [barsFrom, List.append_nil, nth_eq h]
theorem sum_snoc (ws : List Nat) (i : Nat) (h : i < ws.length) : (ws.take (i + 1)).sum = (ws.take i).sum + nth ws i := by
  rw [List.take_succ_eq_append_getElem h, List.sum_append, nth_eq h]; simp
theorem sum_take_le (ws : List Nat) (i : Nat) : (ws.take i).sum ≤ ws.sum := by
  have := List.take_append_drop i ws
  have h2 : ws.sum = (ws.take i).sum + (ws.drop i).sum := by rw [← List.sum_append, this]
  omega

/-- A digit's byte. -/
def isDig (c : UInt8) : Prop := 48 ≤ c.toNat ∧ c.toNat ≤ 57
instance (c : UInt8) : Decidable (isDig c) := inferInstanceAs (Decidable (_ ∧ _))
def allDig (s : ByteArray) : Prop := ∀ i, i < s.size → isDig (nthU (bl s) i)

/-! Tables of the standards. -/
def barBitsT : List Nat := [3, 6, 9, 96, 18, 66, 33, 36, 48, 72, 12, 24, 69, 81, 84, 21, 26, 41, 11, 14]
def bits39T : List Nat := [52, 289, 97, 352, 49, 304, 112, 37, 292, 100, 265, 73, 328, 25, 280, 88, 13, 268, 76, 28, 259, 67, 322, 19, 274, 82, 7, 262, 70, 22, 385, 193, 448, 145, 400, 208, 133, 388, 196, 168, 162, 138, 42, 148]
def bits93T : List Nat := [276, 328, 324, 322, 296, 292, 290, 336, 274, 266, 424, 420, 418, 404, 402, 394, 360, 356, 354, 308, 282, 344, 332, 326, 300, 278, 436, 434, 428, 422, 406, 410, 364, 358, 310, 314, 302, 468, 466, 458, 366, 374, 430, 294, 474, 470, 306, 350]
def w128T : List Nat := [212222, 222122, 222221, 121223, 121322, 131222, 122213, 122312, 132212, 221213, 221312, 231212, 112232, 122132, 122231, 113222, 123122, 123221, 223211, 221132, 221231, 213212, 223112, 312131, 311222, 321122, 321221, 312212, 322112, 322211, 212123, 212321, 232121, 111323, 131123, 131321, 112313, 132113, 132311, 211313, 231113, 231311, 112133, 112331, 132131, 113123, 113321, 133121, 313121, 211331, 231131, 213113, 213311, 213131, 311123, 311321, 331121, 312113, 312311, 332111, 314111, 221411, 431111, 111224, 111422, 121124, 121421, 141122, 141221, 112214, 112412, 122114, 122411, 142112, 142211, 241211, 221114, 413111, 241112, 134111, 111242, 121142, 121241, 114212, 124112, 124211, 411212, 421112, 421211, 212141, 214121, 412121, 111143, 111341, 131141, 114113, 114311, 411113, 411311, 113141, 114131, 311141, 411131, 211412, 211214, 211232, 2331112]

/-! Interleaved 2 of 5 -/
def elemOf (bits many wide i : Nat) : Nat := if (bits >>> (many - 1 - i)) % 2 = 1 then wide else 1
def elements (bits many wide : Nat) : List Nat := (List.range many).map (elemOf bits many wide)
theorem elements_length (bits many wide : Nat) : (elements bits many wide).length = many := by simp [elements]
theorem elements_le (bits many wide m : Nat) (h1 : 1 ≤ m) (h2 : wide ≤ m) : ∀ x ∈ elements bits many wide, x ≤ m := by
  intro x hx
  obtain ⟨i, _, rfl⟩ := List.mem_map.1 hx
  unfold elemOf; split <;> omega
def itfWideT : List Nat := [6, 17, 9, 24, 5, 20, 12, 3, 18, 10]
/-- The elements of a digit. -/
def itfEl (c : UInt8) : List Nat := elements (nth itfWideT (c.toNat - 48)) 5 3
def itfPair (a b : UInt8) : List Nat := (List.range 5).flatMap fun k => [nth (itfEl a) k, nth (itfEl b) k]
/-- So many pairs of digits. -/
def itfPairs (ds : List UInt8) (n : Nat) : List Nat := (List.range n).flatMap fun k => itfPair (nthU ds (2 * k)) (nthU ds (2 * k + 1))
def itfWidths (ds : List UInt8) : List Nat := [1, 1, 1, 1] ++ itfPairs ds (ds.length / 2) ++ [3, 1, 1]
theorem itfPairs_succ (ds : List UInt8) (n : Nat) : itfPairs ds (n + 1) = itfPairs ds n ++ itfPair (nthU ds (2 * n)) (nthU ds (2 * n + 1)) := by
  simp [itfPairs, List.range_succ]
theorem itfPair_length (a b : UInt8) : (itfPair a b).length = 10 := by simp [itfPair]; rfl
theorem itfPairs_length (ds : List UInt8) (n : Nat) : (itfPairs ds n).length = 10 * n := by
  induction n with
  | zero => rfl
  | succ n ih => rw [itfPairs_succ, List.length_append, ih, itfPair_length]; omega
def itfTbl : List (List Nat) := [[1, 1, 3, 3, 1], [3, 1, 1, 1, 3], [1, 3, 1, 1, 3], [3, 3, 1, 1, 1], [1, 1, 3, 1, 3], [3, 1, 3, 1, 1], [1, 3, 3, 1, 1], [1, 1, 1, 3, 3], [3, 1, 1, 3, 1], [1, 3, 1, 3, 1]]
theorem itfTbl_eq : ∀ d, d < 10 → elements (nth itfWideT d) 5 3 = nthL itfTbl d := by decide
theorem itfEl_tbl (c : UInt8) (h : isDig c) : nthL itfTbl (c.toNat - 48) = itfEl c := (itfTbl_eq _ (by unfold isDig at h; omega)).symm
theorem itfSum : ∀ d, d < 10 → ∀ e, e < 10 → ((List.range 5).flatMap fun k => [nth (elements (nth itfWideT d) 5 3) k, nth (elements (nth itfWideT e) 5 3) k]).sum = 18 := by decide
theorem itfPair_sum (a b : UInt8) (ha : isDig a) (hb : isDig b) : (itfPair a b).sum = 18 := itfSum _ (by unfold isDig at ha; omega) _ (by unfold isDig at hb; omega)
theorem itfEl_length (c : UInt8) : (itfEl c).length = 5 := elements_length _ _ _
/-- The modules behind the start and so many pairs. -/
def itfMods (ds : List UInt8) (n : Nat) : List Bool := bars ([1, 1, 1, 1] ++ itfPairs ds n)
theorem itfMods_succ (ds : List UInt8) (n : Nat) : itfMods ds (n + 1) = itfMods ds n ++ barsFrom true (itfPair (nthU ds (2 * n)) (nthU ds (2 * n + 1))) := by
  unfold itfMods bars
  rw [itfPairs_succ, ← List.append_assoc, barsFrom_append, List.length_append, itfPairs_length]
  congr 2
  unfold colour
  rw [if_pos]
  simp only [List.length_cons, List.length_nil]; omega
theorem itfMods_length (ds : List UInt8) (n : Nat) (h : ∀ i, i < 2 * n → isDig (nthU ds i)) : (itfMods ds n).length = 4 + 18 * n := by
  induction n with
  | zero => rfl
  | succ n ih => rw [itfMods_succ, List.length_append, ih (fun i hi => h i (by omega)), barsFrom_length, itfPair_sum _ _ (h _ (by omega)) (h _ (by omega))]; omega
theorem itfMods_end (ds : List UInt8) : itfMods ds (ds.length / 2) ++ barsFrom true [3, 1, 1] = bars (itfWidths ds) := by
  unfold itfMods bars itfWidths
  rw [barsFrom_append (ys := [3, 1, 1])]
  congr 2
  unfold colour
  rw [if_pos]
  rw [List.length_append, itfPairs_length]
  simp only [List.length_cons, List.length_nil]; omega
theorem itfPairs_le (ds : List UInt8) (n : Nat) : ∀ x ∈ itfPairs ds n, x ≤ 3 := by
  intro x hx
  obtain ⟨k, _, hx⟩ := List.mem_flatMap.1 hx
  obtain ⟨j, _, hx⟩ := List.mem_flatMap.1 hx
  simp only [List.mem_cons, List.not_mem_nil, or_false] at hx
  rcases hx with rfl | rfl <;> exact nth_le (elements_le _ _ _ 3 (by omega) (by omega)) _
theorem itfWidths_le (ds : List UInt8) : ∀ x ∈ itfWidths ds, x ≤ 20 := by
  intro x hx
  simp only [itfWidths, List.mem_append, List.mem_cons, List.not_mem_nil, or_false] at hx
  rcases hx with (hx | hx) | hx
  · omega
  · have := itfPairs_le _ _ _ hx; omega
  · omega
theorem itfWidths_length (ds : List UInt8) : (itfWidths ds).length = 10 * (ds.length / 2) + 7 := by
  simp [itfWidths, itfPairs_length]
end Go.Proofs.YtpgddedhhjbgoaaDoor
