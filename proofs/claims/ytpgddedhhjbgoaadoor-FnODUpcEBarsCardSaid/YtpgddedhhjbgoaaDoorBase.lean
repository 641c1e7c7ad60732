/- Plain lemmas on strings, slices and worlds that the walks share: no program in sight. -/
import Derived.WalkKit
import Derived.WalkLawsBesides
import Derived.WalkSpells
import Derived.Deep.QuietTactic
import Derived.BigQuiet
import Derived.Lib.Hide
import Derived.Laws.CopyOwn
import Derived.Deep.RegionHeld3
import Derived.Deep.AppendLies
namespace Go.Proofs.YtpgddedhhjbgoaaDoor
open Go.RowKit

/-- The bytes of a string. -/
def bl (s : ByteArray) : List UInt8 := s.data.toList
def B8 (c : UInt8) : Value := .int .u8 (c.toNat : Int)
def I64 (n : Nat) : Value := .int .i64 (n : Int)

/-- Elements of lists, behind names that the walk does not open. -/
def nth (l : List Nat) (k : Nat) : Nat := l.getD k 0
def nthU (l : List UInt8) (k : Nat) : UInt8 := l.getD k 0
def nthB (l : List Bool) (k : Nat) : Bool := l.getD k false
theorem nth_eq {l : List Nat} {k : Nat} (h : k < l.length) : nth l k = l[k] := by simp [nth, List.getD, h]
theorem nthU_eq {l : List UInt8} {k : Nat} (h : k < l.length) : nthU l k = l[k] := by simp [nthU, List.getD, h]
theorem nthB_eq {l : List Bool} {k : Nat} (h : k < l.length) : nthB l k = l[k] := by simp [nthB, List.getD, h]

theorem nth_le {xs : List Nat} {m : Nat} (h : ∀ x ∈ xs, x ≤ m) (k : Nat) : nth xs k ≤ m := by
  by_cases hk : k < xs.length
  · rw [nth_eq hk]; exact h _ (List.getElem_mem hk)
  · simp [nth, List.getD, hk]

theorem bl_length (s : ByteArray) : (bl s).length = s.size := by unfold bl; simp
theorem bl_append (a b : ByteArray) : bl (a ++ b) = bl a ++ bl b := by simp [bl]
theorem bl_mk (l : List UInt8) : bl ⟨l.toArray⟩ = l := by simp [bl]
theorem bl_inj {a b : ByteArray} (h : bl a = bl b) : a = b := by
  cases a; cases b; simp only [bl] at h; exact congrArg _ (Array.toList_inj.1 h)
theorem bl_extract (s : ByteArray) (i j : Nat) : bl (s.extract i j) = ((bl s).take j).drop i := by
  simp [bl, ByteArray.data_extract]
  try rw [List.drop_take]
theorem bl_extract1 (s : ByteArray) (i j : Nat) (hi : i < s.size) (hj : j = i + 1) : bl (s.extract i j) = [nthU (bl s) i] := by
  subst hj
  have h : i < (bl s).length := by rw [bl_length]; exact hi
  rw [bl_extract, List.drop_take]
  have e : i + 1 - i = 1 := by omega
  rw [e]
  rw [List.drop_eq_getElem_cons h, List.take_succ_cons, List.take_zero, nthU_eq h]
theorem bl_get (s : ByteArray) (i : Nat) (h : i < s.size) : s[i] = nthU (bl s) i := by
  have h' : i < (bl s).length := by rw [bl_length]; exact h
  have h2 : i < s.data.size := h
  have h3 : (bl s)[i]? = some s[i] := by
    unfold bl
    rw [Array.getElem?_toList, Array.getElem?_eq_getElem h2]
    rfl
  rw [nthU, List.getD, h3]
  rfl

/-- A slice value that reads as the list: its length is the list's, and each element lies there. -/
def SlAt (w : World) (v : Value) (vs : List Value) : Prop :=
  vs.length ≤ maxLen ∧ ∃ a c, v = .slice a vs.length c ∧ vs.length ≤ c ∧ ∀ i, i < vs.length → ∃ b o, a = some ⟨b, o, none⟩ ∧ w.cell? ⟨b, o + i, none⟩ = some (vs.getD i undef)

theorem SlAt.nil (w : World) (a : Option Addr) (c : Nat) : SlAt w (.slice a 0 c) [] :=
  ⟨Nat.zero_le _, a, c, rfl, Nat.zero_le _, fun i h => absurd h (Nat.not_lt_zero _)⟩

theorem SlAt.form {w : World} {v : Value} {vs : List Value} (h : SlAt w v vs) : ∃ a c, v = .slice a vs.length c ∧ vs.length ≤ 9223372036854775807 := by
  obtain ⟨hm, a, c, hv, _⟩ := h
  exact ⟨a, c, hv, by unfold maxLen at hm; omega⟩
theorem SlAt.formC {w : World} {v : Value} {vs : List Value} (h : SlAt w v vs) : ∃ a c, v = .slice a vs.length c ∧ vs.length ≤ 9223372036854775807 ∧ vs.length ≤ c := by
  obtain ⟨hm, a, c, hv, hcap, _⟩ := h
  exact ⟨a, c, hv, by unfold maxLen at hm; omega, hcap⟩
theorem SlAt.get {w : World} {a : Option Addr} {n c : Nat} {vs : List Value} (h : SlAt w (.slice a n c) vs) (i : Nat) (hi : i < vs.length) :
    ∃ b o, a = some ⟨b, o, none⟩ ∧ w.cell? ⟨b, o + i, none⟩ = some (vs.getD i undef) := by
  obtain ⟨hm, a', c', hv, _, hh⟩ := h
  injection hv with e1 e2 e3
  subst e1
  exact hh i hi
theorem SlAt.getI {w : World} {a : Option Addr} {n c : Nat} {xs : List Nat} (h : SlAt w (.slice a n c) (xs.map I64)) (i : Nat) (hi : i < xs.length) :
    ∃ b o, a = some ⟨b, o, none⟩ ∧ w.cell? ⟨b, o + i, none⟩ = some (.int .i64 (nth xs i : Int)) := by
  obtain ⟨b, o, e, hc⟩ := h.get i (by simpa using hi)
  exact ⟨b, o, e, by rw [hc]; simp [nth, List.getD, hi, I64]⟩
theorem SlAt.getU {w : World} {a : Option Addr} {n c : Nat} {xs : List UInt8} (h : SlAt w (.slice a n c) (xs.map B8)) (i : Nat) (hi : i < xs.length) :
    ∃ b o, a = some ⟨b, o, none⟩ ∧ w.cell? ⟨b, o + i, none⟩ = some (.int .u8 ((nthU xs i).toNat : Int)) := by
  obtain ⟨b, o, e, hc⟩ := h.get i (by simpa using hi)
  exact ⟨b, o, e, by rw [hc]; simp [nthU, List.getD, hi, B8]⟩
theorem SlAt.getB {w : World} {a : Option Addr} {n c : Nat} {xs : List Bool} (h : SlAt w (.slice a n c) (xs.map .bool)) (i : Nat) (hi : i < xs.length) :
    ∃ b o, a = some ⟨b, o, none⟩ ∧ w.cell? ⟨b, o + i, none⟩ = some (.bool (nthB xs i)) := by
  obtain ⟨b, o, e, hc⟩ := h.get i (by simpa using hi)
  exact ⟨b, o, e, by rw [hc]; simp [nthB, List.getD, hi]⟩

/-- A part of a slice. -/
theorem SlAt.sub {w : World} {b o n c : Nat} {vs : List Value} (h : SlAt w (.slice (some ⟨b, o, none⟩) n c) vs) (lo hi : Nat) (h1 : lo ≤ hi) (h2 : hi ≤ vs.length) :
    SlAt w (.slice (some ⟨b, o + lo, none⟩) (hi - lo) (c - lo)) ((vs.drop lo).take (hi - lo)) := by
  have hl : ((vs.drop lo).take (hi - lo)).length = hi - lo := by rw [List.length_take, List.length_drop]; omega
  obtain ⟨hm, a', c', hv, hcap, hh⟩ := id h
  injection hv with e1 e2 e3
  refine ⟨by rw [hl]; omega, _, _, by rw [hl], by rw [hl]; omega, fun i hi' => ⟨b, o + lo, rfl, ?_⟩⟩
  rw [hl] at hi'
  obtain ⟨b', o', e, hc⟩ := h.get (lo + i) (by omega)
  injection e with e; injection e with e e'
  subst e; subst e'
  rw [Nat.add_assoc, hc]
  simp [List.getD, List.getElem?_take, hi', List.getElem?_drop]

theorem SlAt.below {w w' : World} {v : Value} {vs : List Value} (h : SlAt w v vs) {B : Nat} (hb : Below B w w') (hB : w.heap.size ≤ B) : SlAt w' v vs := by
  obtain ⟨hm, a, c, rfl, hcap, h⟩ := h
  refine ⟨hm, a, c, rfl, hcap, fun i hi => ?_⟩
  obtain ⟨b, o, rfl, hc⟩ := h i hi
  refine ⟨b, o, rfl, ?_⟩
  have hlt := World.block_lt_of_cell? w _ hc
  rw [hb.cell (p := ⟨b, o + i, none⟩) (by simp at hlt ⊢; omega)]
  exact hc

theorem SlAt.below' {w w' : World} {v : Value} {vs : List Value} (h : SlAt w v vs) (hb : Below w.heap.size w w') : SlAt w' v vs := h.below hb (Nat.le_refl _)

theorem SlAt.grown {w w' : World} {v : Value} {vs : List Value} (h : SlAt w v vs) {row : Option Nat} (hb : w.grownBy w' row) (hr : ∀ k, v.ownBlock = some k → some k ≠ row) : SlAt w' v vs := by
  obtain ⟨hm, a, c, rfl, hcap, h⟩ := h
  refine ⟨hm, a, c, rfl, hcap, fun i hi => ?_⟩
  obtain ⟨b, o, rfl, hc⟩ := h i hi
  exact ⟨b, o, rfl, hb.cell hc (hr b rfl)⟩

theorem SlAt.drewN {w : World} {v : Value} {vs : List Value} (h : SlAt w v vs) (n : Nat) : SlAt (w.drewN n) v vs := by
  obtain ⟨hm, a, c, rfl, hcap, h⟩ := h
  exact ⟨hm, a, c, rfl, hcap, fun i hi => h i hi⟩

theorem SlAt.of_own {w : World} {base : Nat} {e : TypeId} {v : Value} {n : Nat} {xs : List Value} (h : w.ownsRow base e 1 v n xs) : SlAt w v xs := by
  have hl := h.1
  rw [Nat.mul_one] at hl
  rcases h.2 with ⟨rfl, rfl⟩ | ⟨g, cap, cur, rfl, _, _, hn, hm, _, _⟩
  · have : xs = [] := List.eq_nil_of_length_eq_zero hl
    subst this
    exact SlAt.nil _ _ _
  · refine ⟨by omega, some ⟨g, 0, none⟩, cap, by rw [hl], by omega, fun i hi => ⟨g, 0, rfl, ?_⟩⟩
    have hc := h.cellAt i (by omega)
    rw [Nat.zero_add, hc]
    simp [List.getD, hi]

/-- What a slice of the call's own holds, and where. -/
theorem own_slice {w : World} {base : Nat} {e : TypeId} {v : Value} {n : Nat} {xs : List Value} (h : w.ownsRow base e 1 v n xs) (hn : 0 < n) :
    ∃ g cap, v = .slice (some ⟨g, 0, none⟩) n cap ∧ base ≤ g ∧ g < w.heap.size := by
  rcases h.2 with ⟨rfl, rfl⟩ | ⟨g, cap, cur, rfl, hb, hg, _⟩
  · omega
  · exact ⟨g, cap, rfl, hb, (Array.getElem?_eq_some_iff.1 hg).1⟩

theorem own_len {w : World} {base : Nat} {e : TypeId} {v : Value} {n : Nat} {xs : List Value} (h : w.ownsRow base e 1 v n xs) : xs.length = n := by
  have := h.1; rw [Nat.mul_one] at this; exact this

theorem own_mono {w : World} {base base' : Nat} {e : TypeId} {s : Nat} {v : Value} {n : Nat} {xs : List Value} (h : w.ownsRow base e s v n xs) (hb : base' ≤ base) : w.ownsRow base' e s v n xs := by
  refine ⟨h.1, ?_⟩
  rcases h.2 with h2 | ⟨g, cap, cur, hv, hg, r⟩
  · exact .inl h2
  · exact .inr ⟨g, cap, cur, hv, by omega, r⟩

theorem own_below {w w' : World} {base : Nat} {e : TypeId} {s : Nat} {v : Value} {n : Nat} {xs : List Value} (h : w.ownsRow base e s v n xs) (hb : Below w.heap.size w w') : w'.ownsRow base e s v n xs := by
  refine ⟨h.1, ?_⟩
  rcases h.2 with h2 | ⟨g, cap, cur, hv, hg, hh, r⟩
  · exact .inl h2
  · exact .inr ⟨g, cap, cur, hv, hg, by rw [hb.block g (Array.getElem?_eq_some_iff.1 hh).1]; exact hh, r⟩

theorem own_drewN {w : World} {base : Nat} {e : TypeId} {s : Nat} {v : Value} {n : Nat} {xs : List Value} (h : w.ownsRow base e s v n xs) (k : Nat) : (w.drewN k).ownsRow base e s v n xs := h

theorem below_drewN' {B : Nat} {a w : World} (h : Below B a w) (n : Nat) : Below B a (w.drewN n) := ⟨h.os, h.tape, h.output, h.size, h.block⟩

theorem grown_trans {a b c : World} {row : Option Nat} (h : a.grownBy b row) (k : b.grownBy c row) : a.grownBy c row :=
  ⟨k.os.trans h.os, k.tape.trans h.tape, k.output.trans h.output, Nat.le_trans h.size k.size, fun i hi hr => (k.block i (Nat.lt_of_lt_of_le hi h.size) hr).trans (h.block i hi hr)⟩
theorem grown_of_below {a b : World} (h : Below a.heap.size a b) (row : Option Nat) : a.grownBy b row :=
  ⟨h.os, h.tape, h.output, h.size, fun i hi _ => h.block i hi⟩
theorem below_of_grown {a b : World} {row : Option Nat} {B : Nat} (h : a.grownBy b row) (hB : B ≤ a.heap.size) (hr : ∀ k, row = some k → B ≤ k) : Below B a b :=
  (Below.refl B a).grown h hB hr
theorem grown_setCell (w : World) (g i : Nat) (u : Value) : w.grownBy (w.setCell ⟨g, i, none⟩ u) (some g) :=
  ⟨rfl, rfl, rfl, by simp [World.setCell], fun k _ hk => Below.heap_setCell _ _ _ _ (fun e => hk (by rw [e]))⟩
theorem grown_drewN {a b : World} {row : Option Nat} (h : a.grownBy b row) (n : Nat) : a.grownBy (b.drewN n) row := ⟨h.os, h.tape, h.output, h.size, h.block⟩

theorem bits_and_nat (a b : Nat) (ha : a < 9223372036854775808) (hb : b < 9223372036854775808) : bits .and .i64 (a : Int) (b : Int) = ((a &&& b : Nat) : Int) := by
  have h1 : (BitVec.ofInt 64 (a : Int)).toNat = a := by rw [BitVec.toNat_ofInt]; omega
  have h2 : (BitVec.ofInt 64 (b : Int)).toNat = b := by rw [BitVec.toNat_ofInt]; omega
  have hle : a &&& b ≤ a := Nat.and_le_left
  show IntKind.i64.wrap ((BitVec.ofInt 64 (a : Int) &&& BitVec.ofInt 64 (b : Int)).toNat : Nat) = _
  rw [BitVec.toNat_and, h1, h2, IntKind.wrap_i64]
  omega
theorem bits_and_one (n : Nat) (h : n < 9223372036854775808) : bits .and .i64 (n : Int) 1 = ((n % 2 : Nat) : Int) := by
  have := bits_and_nat n 1 h (by omega)
  rw [Nat.and_one_is_mod] at this
  exact this
theorem int_shr (n k : Nat) : (n : Int) / 2 ^ k = ((n >>> k : Nat) : Int) := by
  rw [Nat.shiftRight_eq_div_pow]; simp
theorem shr_le (n k : Nat) : n >>> k ≤ n := by rw [Nat.shiftRight_eq_div_pow]; exact Nat.div_le_self _ _
theorem bit_yes (n k : Nat) (hn : n < 9223372036854775808) (h : (n >>> k) % 2 = 1) : (bits .and .i64 ((n : Int) / 2 ^ k) 1 == 1) = true := by
  have := shr_le n k
  rw [int_shr, bits_and_one _ (by omega), h]; rfl
theorem bit_no (n k : Nat) (hn : n < 9223372036854775808) (h : ¬ (n >>> k) % 2 = 1) : (bits .and .i64 ((n : Int) / 2 ^ k) 1 == 1) = false := by
  have := shr_le n k
  rw [int_shr, bits_and_one _ (by omega), beq_eq_false_iff_ne]; omega

/-- A list that is being filled from the left: the next place. -/
theorem fill_set {α : Type} (l : List α) (z d : α) (k n : Nat) (hn : l.length = n) (hk : k < n) : (l.take k ++ List.replicate (n - k) z).set k (l.getD k d) = l.take (k + 1) ++ List.replicate (n - (k + 1)) z := by
  have hk' : k < l.length := by omega
  have hlen : (l.take k).length = k := by rw [List.length_take]; omega
  rw [List.set_append_right _ _ (by omega), hlen, Nat.sub_self, show n - k = (n - (k + 1)) + 1 from by omega, List.replicate_succ, List.set_cons_zero, List.take_succ_eq_append_getElem hk', List.append_assoc]
  simp [List.getD, hk']
theorem fill_get {α : Type} (l : List α) (z : α) (k n : Nat) (hn : l.length = n) (hk : k < n) : (l.take k ++ List.replicate (n - k) z)[k]? = some z := by
  have hlen : (l.take k).length = k := by rw [List.length_take]; omega
  rw [List.getElem?_append_right (by omega), hlen, Nat.sub_self, List.getElem?_replicate, if_pos (by omega)]

/-- A row of numbers that was just laid. -/
theorem cell_tbl (w : World) (e : TypeId) (tbl : List Nat) (n : Nat) (h : n < tbl.length) : (w.alloc (.cells (tbl.map I64).toArray e)).cell? ⟨w.heap.size, n, none⟩ = some (I64 (nth tbl n)) := by
  rw [cell_of_row (w.alloc _) w.heap.size n _ e (0, 0) (heap_alloc_new w _)]
  simp [nth, List.getD, h]
theorem tbl_get (tbl : List Nat) (n : Nat) (h : n < tbl.length) : (tbl.map I64)[n]'(by simpa using h) = I64 (nth tbl n) := by
  simp [nth, List.getD, h]
theorem below_alloc (w : World) (o : Obj) : Below w.heap.size w (w.alloc o) := (Below.refl _ _).alloc (Nat.le_refl _) _
/-- A literal row of the call's own. -/
theorem own_lit (w : World) (e : TypeId) (xs : List Value) (hm : xs.length ≤ maxLen) : (w.alloc (.cells xs.toArray e)).ownsRow w.heap.size e 1 (.slice (some ⟨w.heap.size, 0, none⟩) xs.length xs.length) xs.length xs :=
  ⟨by simp, .inr ⟨w.heap.size, xs.length, xs.toArray, rfl, Nat.le_refl _, heap_alloc_new w _, Nat.le_refl _, hm, by simp, by simp⟩⟩

/-- A new one-cell block. -/
theorem one_new (w : World) (u : Value) (e : TypeId) : ∀ j u', [u][j]? = some u' → (w.alloc (.cells #[u] e)).cell? ((⟨w.heap.size, 0, none⟩ : Addr).add j) = some u' := by
  intro j u' hj
  match j, hj with
  | 0, hj => simp at hj; subst hj; simp [Addr.add]
theorem lit_new (w : World) (l : List Value) (e : TypeId) : ∀ j u', l[j]? = some u' → (w.alloc (.cells l.toArray e)).cell? ((⟨w.heap.size, 0, none⟩ : Addr).add j) = some u' := by
  intro j u' hj
  rw [Addr.add_lit, cell_of_row (w.alloc _) w.heap.size _ _ e (0, 0) (heap_alloc_new w _)]
  simpa using hj
theorem two_new (w : World) (u1 u2 : Value) (e : TypeId) : ∀ j u', [u1, u2][j]? = some u' → (w.alloc (.cells #[u1, u2] e)).cell? ((⟨w.heap.size, 0, none⟩ : Addr).add j) = some u' := by
  intro j u' hj
  match j, hj with
  | 0, hj => simp at hj; subst hj; simp [Addr.add]
  | 1, hj => simp at hj; subst hj; simp [Addr.add]
/-- Behind an append of a literal to a row of the call's own. -/
theorem app_below {B : Nat} {w wr w2 : World} {o : Obj} {e : TypeId} {s n : Nat} {v : Value} {xs : List Value} (hb : Below B w wr) (hB : B ≤ wr.heap.size) (hown : wr.ownsRow B e s v n xs) (hg : (wr.alloc o).grownBy w2 v.ownBlock) : Below B w w2 :=
  (hb.alloc hB o).grown hg (by simp; omega) (fun k hk => (hown.lt k hk).1)
theorem app_below0 {B : Nat} {w wr w2 : World} {e : TypeId} {s n : Nat} {v : Value} {xs : List Value} (hb : Below B w wr) (hB : B ≤ wr.heap.size) (hown : wr.ownsRow B e s v n xs) (hg : wr.grownBy w2 v.ownBlock) : Below B w w2 :=
  hb.grown hg hB (fun k hk => (hown.lt k hk).1)

theorem flat2_length {α β : Type} (f g : α → β) (l : List α) : (l.flatMap fun k => [f k, g k]).length = 2 * l.length := by
  induction l with
  | nil => rfl
  | cons x xs ih => simp only [List.flatMap_cons, List.length_append, ih, List.length_cons, List.length_nil]; omega

theorem flat2_get0 {α β : Type} (f g : α → β) (l : List α) (j : Nat) (hj : j < l.length) : (l.flatMap fun k => [f k, g k])[2 * j]? = some (f l[j]) ∧ (l.flatMap fun k => [f k, g k])[2 * j + 1]? = some (g l[j]) := by
  induction l generalizing j with
  | nil => simp at hj
  | cons x xs ih =>
    cases j with
    | zero => simp
    | succ j =>
      have := ih j (by simpa using hj)
      constructor
      · rw [show 2 * (j + 1) = 2 * j + 2 by omega]; simpa using this.1
      · rw [show 2 * (j + 1) + 1 = 2 * j + 1 + 2 by omega]; simpa using this.2
theorem flat2_nth (f g : Nat → Nat) (n j : Nat) (hj : j < n) : nth ((List.range n).flatMap fun k => [f k, g k]) (2 * j) = f j ∧ nth ((List.range n).flatMap fun k => [f k, g k]) (2 * j + 1) = g j := by
  have := flat2_get0 f g (List.range n) j (by simpa using hj)
  simp only [List.getElem_range] at this
  simp [nth, List.getD, this.1, this.2]
/-- A row of numbers that is being filled from the left. -/
def fillI (n : Nat) (l : List Nat) (k : Nat) : List Value := (l.map I64).take k ++ List.replicate (n - k) (.int .i64 0)
theorem fillI_zero (n : Nat) (l : List Nat) : fillI n l 0 = List.replicate n (.int .i64 0) := by simp [fillI]
theorem fillI_set (n : Nat) (l : List Nat) (k : Nat) (hn : l.length = n) (hk : k < n) : (fillI n l k).set k (.int .i64 (nth l k : Int)) = fillI n l (k + 1) := by
  have h := fill_set (l.map I64) (.int .i64 0) undef k n (by simpa using hn) hk
  have e : (l.map I64).getD k undef = .int .i64 (nth l k : Int) := by
    have : k < l.length := by omega
    simp [List.getD, this, nth, I64]
  rw [e] at h
  exact h
theorem fillI_get (n : Nat) (l : List Nat) (k : Nat) (hn : l.length = n) (hk : k < n) : (fillI n l k)[k]? = some (.int .i64 0) := fill_get _ _ _ _ (by simpa using hn) hk
theorem fillI_full (n : Nat) (l : List Nat) (hn : l.length = n) : fillI n l n = l.map I64 := by
  unfold fillI
  rw [List.take_of_length_le (by simp; omega), Nat.sub_self]; simp
theorem Below.two {B : Nat} {a b c : World} (h : Below B a b) (k : Below b.heap.size b c) (hB : B ≤ b.heap.size) : Below B a c := h.trans (k.mono hB)

/-! Tables of rows. -/
def nthL (l : List (List Nat)) (k : Nat) : List Nat := l.getD k []
theorem nthL_eq {l : List (List Nat)} {k : Nat} (h : k < l.length) : nthL l k = l[k] := by simp [nthL, List.getD, h]
/-- A slice of slices that reads as the rows. -/
def TblAt (w : World) (v : Value) (tbl : List (List Nat)) : Prop :=
  ∃ vs, SlAt w v vs ∧ vs.length = tbl.length ∧ ∀ i, i < tbl.length → SlAt w (vs.getD i undef) ((nthL tbl i).map I64)
theorem TblAt.form {w : World} {v : Value} {t : List (List Nat)} (h : TblAt w v t) : ∃ a c, v = .slice a t.length c ∧ t.length ≤ 9223372036854775807 := by
  obtain ⟨vs, h1, h2, _⟩ := h
  obtain ⟨a, c, hv, hm⟩ := h1.form
  exact ⟨a, c, by rw [hv, h2], by omega⟩
theorem TblAt.get {w : World} {a : Option Addr} {n c : Nat} {t : List (List Nat)} (h : TblAt w (.slice a n c) t) (i : Nat) (hi : i < t.length) :
    ∃ b o a' c', a = some ⟨b, o, none⟩ ∧ w.cell? ⟨b, o + i, none⟩ = some (.slice a' (nthL t i).length c') ∧ SlAt w (.slice a' (nthL t i).length c') ((nthL t i).map I64) := by
  obtain ⟨vs, h1, h2, h3⟩ := h
  obtain ⟨b, o, ha, hc⟩ := h1.get i (by omega)
  have h4 := h3 i hi
  obtain ⟨a', c', hv, _⟩ := h4.form
  rw [List.length_map] at hv
  exact ⟨b, o, a', c', ha, by rw [hc, hv], by rw [← hv]; exact h4⟩
theorem TblAt.below {w w' : World} {v : Value} {t : List (List Nat)} (h : TblAt w v t) (hb : Below w.heap.size w w') : TblAt w' v t := by
  obtain ⟨vs, h1, h2, h3⟩ := h
  exact ⟨vs, h1.below' hb, h2, fun i hi => (h3 i hi).below' hb⟩
/-- Rows that were just laid, one block each. -/
def pushRows (w : World) (e : TypeId) : List (List Nat) → World
  | [] => w
  | r :: rs => pushRows (w.alloc (.cells (r.map I64).toArray e)) e rs
def rowVals (b : Nat) : List (List Nat) → List Value
  | [] => []
  | r :: rs => .slice (some ⟨b, 0, none⟩) r.length r.length :: rowVals (b + 1) rs
theorem rowVals_length (b : Nat) (t : List (List Nat)) : (rowVals b t).length = t.length := by
  induction t generalizing b with
  | nil => rfl
  | cons r rs ih => simp [rowVals, ih]
theorem rowVals_get (b : Nat) (t : List (List Nat)) (i : Nat) (hi : i < t.length) : (rowVals b t).getD i undef = .slice (some ⟨b + i, 0, none⟩) (nthL t i).length (nthL t i).length := by
  induction t generalizing b i with
  | nil => simp at hi
  | cons r rs ih =>
    cases i with
    | zero => simp [rowVals, nthL]
    | succ i =>
      have := ih (b + 1) i (by simpa using hi)
      simp only [rowVals, List.getD_cons_succ, this, nthL]
      rw [show b + 1 + i = b + (i + 1) by omega]
theorem pushRows_size (w : World) (e : TypeId) (t : List (List Nat)) : (pushRows w e t).heap.size = w.heap.size + t.length := by
  induction t generalizing w with
  | nil => rfl
  | cons r rs ih => simp only [pushRows, ih, World.size_alloc, List.length_cons]; omega
theorem pushRows_below (w : World) (e : TypeId) (t : List (List Nat)) : Below w.heap.size w (pushRows w e t) := by
  induction t generalizing w with
  | nil => exact Below.refl _ _
  | cons r rs ih => exact (below_alloc w _).trans ((ih _).mono (by simp))
theorem pushRows_get (w : World) (e : TypeId) (t : List (List Nat)) (i : Nat) (hi : i < t.length) : (pushRows w e t).heap[w.heap.size + i]? = some (.cells ((nthL t i).map I64).toArray e (0, 0)) := by
  induction t generalizing w i with
  | nil => simp at hi
  | cons r rs ih =>
    cases i with
    | zero =>
      rw [pushRows, (pushRows_below _ e rs).block (w.heap.size + 0) (by simp)]
      exact heap_alloc_new w _
    | succ i =>
      have := ih (w.alloc (.cells (r.map I64).toArray e)) i (by simpa using hi)
      rw [World.size_alloc, show w.heap.size + 1 + i = w.heap.size + (i + 1) by omega] at this
      rw [pushRows, this]; rfl
theorem tbl_lit (w : World) (e e2 : TypeId) (t : List (List Nat)) (hm : t.length ≤ 1000) (hr : ∀ r ∈ t, r.length ≤ 1000) :
    TblAt ((pushRows w e t).alloc (.cells (rowVals w.heap.size t).toArray e2)) (.slice (some ⟨w.heap.size + t.length, 0, none⟩) t.length t.length) t ∧
      Below w.heap.size w ((pushRows w e t).alloc (.cells (rowVals w.heap.size t).toArray e2)) := by
  have hb := pushRows_below w e t
  have hsz := pushRows_size w e t
  refine ⟨⟨rowVals w.heap.size t, ⟨by rw [rowVals_length]; unfold maxLen; omega, _, _, by rw [rowVals_length], by rw [rowVals_length]; exact Nat.le_refl _, fun i hi => ⟨w.heap.size + t.length, 0, rfl, ?_⟩⟩, rowVals_length _ _, fun i hi => ?_⟩, hb.alloc hb.size _⟩
  · rw [← hsz, cell_of_row _ (pushRows w e t).heap.size _ _ e2 (0, 0) (heap_alloc_new _ _), Nat.zero_add]
    simp [List.getD, hi]
  · rw [rowVals_get _ _ _ hi]
    have hl : (nthL t i).length ≤ 1000 := by rw [nthL_eq hi]; exact hr _ (List.getElem_mem hi)
    refine ⟨by rw [List.length_map]; unfold maxLen; omega, _, _, by rw [List.length_map], by rw [List.length_map]; exact Nat.le_refl _, fun j hj => ⟨_, _, rfl, ?_⟩⟩
    have hg := pushRows_get w e t i hi
    rw [← heap_alloc_old (pushRows w e t) (.cells (rowVals w.heap.size t).toArray e2) (by omega)] at hg
    rw [cell_of_row _ _ _ _ e (0, 0) hg, Nat.zero_add]
    have hj' : j < (nthL t i).length := by simpa using hj
    simp [List.getD, hj']

/-- 'string([]byte{c})' behind a draw. -/
theorem conv_one {P : Program} (w : World) (c : UInt8) (src dst e : TypeId) (hs : P.underlying src = some (.slice e)) (he : P.underlying e = some (.int .u8)) (hd : P.underlying dst = some .string) :
    (convert src dst (.slice (some ⟨w.heap.size, 0, none⟩) 1 1)).run P (w.alloc (.cells #[.int .u8 (c.toNat : Int)] e)).drew = .ok (.string ⟨#[c]⟩) (w.alloc (.cells #[.int .u8 (c.toNat : Int)] e)).drew :=
  run_convert_bytes_back (P := P) (w.drew.alloc (.cells #[.int .u8 (c.toNat : Int)] e)) src dst e ⟨w.heap.size, 0, none⟩ 1 [c] hs he hd (fun j hj => by
    have hj' : j < 1 := by simpa using hj
    obtain rfl : j = 0 := by omega
    exact lit_new w.drew [.int .u8 (c.toNat : Int)] e 0 _ rfl)
theorem conv_one' {P : Program} (w : World) (c : UInt8) (src dst e : TypeId) (hs : P.underlying src = some (.slice e)) (he : P.underlying e = some (.int .u8)) (hd : P.underlying dst = some .string) :
    (convert src dst (.slice (some ⟨w.heap.size, 0, none⟩) 1 1)).run P (w.alloc (.cells #[.int .u8 (c.toNat : Int)] e)) = .ok (.string ⟨#[c]⟩) (w.alloc (.cells #[.int .u8 (c.toNat : Int)] e)) :=
  run_convert_bytes_back (P := P) (w.alloc (.cells #[.int .u8 (c.toNat : Int)] e)) src dst e ⟨w.heap.size, 0, none⟩ 1 [c] hs he hd (fun j hj => by
    have hj' : j < 1 := by simpa using hj
    obtain rfl : j = 0 := by omega
    exact lit_new w [.int .u8 (c.toNat : Int)] e 0 _ rfl)

/-- The same, a call in between. -/
theorem conv_one_far {P : Program} {w w1 : World} {c : UInt8} {e : TypeId} (src dst : TypeId) (hs : P.underlying src = some (.slice e)) (he : P.underlying e = some (.int .u8)) (hd : P.underlying dst = some .string)
    (hb : Below (w.alloc (.cells #[.int .u8 (c.toNat : Int)] e)).drew.heap.size (w.alloc (.cells #[.int .u8 (c.toNat : Int)] e)).drew w1) :
    (convert src dst (.slice (some ⟨w.heap.size, 0, none⟩) 1 1)).run P w1 = .ok (.string ⟨#[c]⟩) w1 :=
  run_convert_bytes_back (P := P) w1 src dst e ⟨w.heap.size, 0, none⟩ 1 [c] hs he hd (fun j hj => by
    have hj' : j < 1 := by simpa using hj
    obtain rfl : j = 0 := by omega
    have e0 : (⟨w.heap.size, 0, none⟩ : Addr).add 0 = ⟨w.heap.size, 0, none⟩ := by rw [Addr.add_lit]
    have h0 := lit_new w.drew [.int .u8 (c.toNat : Int)] e 0 (.int .u8 (c.toNat : Int)) rfl
    rw [show (⟨w.drew.heap.size, 0, none⟩ : Addr) = ⟨w.heap.size, 0, none⟩ from rfl, e0] at h0
    rw [e0, hb.cell (by simp)]
    exact h0)

theorem ints_one (xs : List Nat) : ∀ u ∈ xs.map I64, u.oneCell' = true := by
  intro u hu
  obtain ⟨_, _, rfl⟩ := List.mem_map.1 hu
  rfl
theorem bools_one (xs : List Bool) : ∀ u ∈ xs.map Value.bool, u.oneCell' = true := by
  intro u hu
  obtain ⟨_, _, rfl⟩ := List.mem_map.1 hu
  rfl
theorem bytes_one (xs : List UInt8) : ∀ u ∈ xs.map B8, u.oneCell' = true := by
  intro u hu
  obtain ⟨_, _, rfl⟩ := List.mem_map.1 hu
  rfl
end Go.Proofs.YtpgddedhhjbgoaaDoor
