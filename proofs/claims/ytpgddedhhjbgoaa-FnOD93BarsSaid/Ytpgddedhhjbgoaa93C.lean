/- Walks: spec.OD93Checks. -/
import Derived.Test.Ytpgddedhhjbgoaa93P
import Derived.Test.YtpgddedhhjbgoaaElem
namespace Go.Proofs.Ytpgddedhhjbgoaa
open Go.RowKit

/-- What a slice reads as, cell by cell. -/
theorem SlAt.reads {w : World} {b o n c : Nat} {vs : List Value} (h : SlAt w (.slice (some ⟨b, o, none⟩) n c) vs) : ∀ j u, vs[j]? = some u → w.cell? ((⟨b, o, none⟩ : Addr).add j) = some u := by
  intro j u hj
  have hlt : j < vs.length := (List.getElem?_eq_some_iff.1 hj).1
  obtain ⟨b', o', e, hc⟩ := h.get j hlt
  injection e with e; injection e with e e'
  subst e; subst e'
  rw [Addr.add_lit, hc]
  simp [List.getD, hj]
/-- Where a slice lies that is not empty. -/
theorem SlAt.addr {w : World} {a : Option Addr} {n c : Nat} {vs : List Value} (h : SlAt w (.slice a n c) vs) (h0 : 0 < vs.length) : ∃ b o, a = some ⟨b, o, none⟩ := by
  obtain ⟨b, o, e, _⟩ := h.get 0 h0
  exact ⟨b, o, e⟩

/-- The row behind so many rounds. -/
def chk93 (vs : List Nat) (k : Nat) : List Nat := if k = 0 then vs else if k = 1 then checked1 vs else checked2 vs
theorem chk93_succ (vs : List Nat) (k : Nat) (h : k < 2) : chk93 vs (k + 1) = chk93 vs k ++ [check93 (chk93 vs k) (20 - 5 * k)] := by
  have : k = 0 ∨ k = 1 := by omega
  rcases this with rfl | rfl <;> rfl
theorem chk93_length (vs : List Nat) (k : Nat) (h : k ≤ 2) : (chk93 vs k).length = vs.length + k := by
  have : k = 0 ∨ k = 1 ∨ k = 2 := by omega
  rcases this with rfl | rfl | rfl <;> simp [chk93, checked1, checked2]
theorem chk93_le (vs : List Nat) (k : Nat) (h : ∀ x ∈ vs, x ≤ 46) : ∀ x ∈ chk93 vs k, x ≤ 46 := by
  have h1 := check93_lt vs 20
  have h2 := check93_lt (checked1 vs) 15
  unfold chk93
  split
  · exact h
  · split
    · intro x hx
      rw [checked1, List.mem_append, List.mem_singleton] at hx
      rcases hx with hx | hx
      · exact h x hx
      · omega
    · intro x hx
      rw [checked2, checked1, List.mem_append, List.mem_append, List.mem_singleton, List.mem_singleton] at hx
      rw [checked1] at h2
      rcases hx with (hx | hx) | hx
      · exact h x hx
      · omega
      · omega
theorem checked2_drop (vs : List Nat) : (checked2 vs).drop vs.length = [check93 vs 20, check93 (checked1 vs) 15] := by
  simp [checked2, checked1]

theorem own_cap {w : World} {base : Nat} {e : TypeId} {a : Option Addr} {n c : Nat} {xs : List Value} (h : w.ownsRow base e 1 (.slice a n c) n xs) : n ≤ c := by
  rcases h.2 with ⟨hv, hn⟩ | ⟨g, cap, cur, hv, _, _, hn, _⟩
  · injection hv with e1 e2 e3
    omega
  · injection hv with e1 e2 e3
    omega

set_option maxHeartbeats 4000000 in
set_option maxRecDepth 100000 in
theorem OD93Checks_any (vs : List Nat) (v : Value) (w : World) (h0 : 0 < vs.length) (hl : vs.length ≤ 1000) (h46 : ∀ x ∈ vs, x ≤ 46) (h1 : SlAt w v (vs.map I64)) :
    Calls Try.prog 28 #[v] w fun e w' => (∃ g c, e = .returned (.slice (some ⟨g, vs.length, none⟩) 2 c) ∧ SlAt w' (.slice (some ⟨g, vs.length, none⟩) 2 c) ([check93 vs 20, check93 (checked1 vs) 15].map I64)) ∧ Below w.heap.size w w' := by
  obtain ⟨i0, hi, hz0, hz1, hz2⟩ := info_parts info_int
  obtain ⟨a1, c1, rfl, hm1⟩ := h1.form
  simp only [List.length_map] at hm1 h1 ⊢
  obtain ⟨b1, o1, rfl⟩ := h1.addr (by simpa using h0)
  have H1 := Lib.hid h1
  have H46 := Lib.hid h46
  clear h1 h46
  go_enter Try.func28, Try.ntmps28
  go_wp2_with (at_builtin; refine wpList_append_lies _ rfl _ _ 31 rfl w.heap.size 3 i0 (.int .i64 0) 1 8 Try.underlying31 hi hz0 hz1 hz2 rfl (by decide) _ _ _ rfl (own_lit w 3 [] (by decide)) ⟨b1, o1, none⟩ vs.length c1 (vs.map I64) rfl (by rw [List.length_map, Nat.mul_one]) (H1.out.below' (below_alloc _ _)).reads (ints_one _) h0 (by unfold maxLen; show 0 + _ ≤ _; omega) (by show (0 + _) * 8 ≤ _; omega) (below_alloc _ _).size _ rfl ?_)
  intro g cap w1 hown1 hgrow hat hlt1
  have hb1 : Below w.heap.size w w1 := (below_alloc w _).grown hgrow (below_alloc _ _).size (fun k hk => by have : w.heap.size = k := by injection hk
                                                                                                            omega)
  generalize hvv : Value.slice (some ⟨g, 0, none⟩) vs.length cap = vv at *
  clear hgrow hat hvv hlt1
  go_wp2
  go_loopw [3, 4, 5, 6, 7] (fun o kk _ _ _ wr => ∃ k : Nat, k ≤ 2 ∧ kk = .int .i64 k ∧ wr.ownsRow w.heap.size 3 1 o (chk93 vs k).length ((chk93 vs k).map I64) ∧ Below w.heap.size w wr) (fun _ kk _ _ _ _ => 2 - (intOf kk).toNat)
  case atStart => exact ⟨0, Nat.zero_le _, rfl, hown1, hb1⟩
  case round =>
    clear hown1 hb1
    obtain ⟨k, hk, rfl, hown, hb⟩ := hrel
    have hlen := chk93_length vs k hk
    by_cases hlt : k < 2
    · have HS := Lib.hid (chk93_succ vs k hlt)
      have HLE := Lib.hid (chk93_le vs k H46.out)
      obtain ⟨m, hm, hm1, hm2⟩ : ∃ m : Nat, 20 - 5 * k = m ∧ 0 < m ∧ m ≤ 20 := ⟨_, rfl, by omega, by omega⟩
      have hmi : (20 : Int) - 5 * (k : Int) = (m : Int) := by omega
      rw [hm] at HS
      generalize chk93 vs k = L at *
      have HCK : Hid (check93 L m = wsum L m L.length % 47) := Lib.hid rfl
      have hL1 : L.length ≤ 1002 := by omega
      have hL0 : 0 < L.length := by omega
      obtain ⟨g, cap, rfl, hg1, hg2⟩ := own_slice hown (by omega)
      have HLEN := Lib.hid hlen
      clear hlen hm
      go_wp2
      obtain ⟨wo, rfl⟩ : ∃ wo : World, wo = wr := ⟨_, rfl⟩
      go_loopw [6, 7] (fun t i wr => ∃ j n : Nat, j ≤ L.length ∧ i = .int .i64 j ∧ t = .int .i64 (wsum L m j : Int) ∧ wr = wo.drewN n) (fun _ i _ => L.length - (intOf i).toNat)
      case atStart => exact ⟨0, 0, Nat.zero_le _, rfl, rfl, rfl⟩
      case round =>
        obtain ⟨j, n, hj, rfl, rfl, rfl⟩ := hrel
        have hwl := wsum_le L m j HLE.out hm1 hm2
        have hwl' : wsum L m j ≤ 920 * 1002 := by omega
        clear hwl
        by_cases hlt2 : j < L.length
        · have hc := hown.cellAt (L.length - 1 - j) (by omega)
          rw [List.getElem?_map, List.getElem?_eq_getElem (by omega), ← nth_eq] at hc
          simp only [Option.map_some, I64] at hc
          have hx := nth_le HLE.out (L.length - 1 - j)
          have hws := Lib.hid (wsum_succ L m j)
          obtain ⟨q, hq, hqi, hq20⟩ : ∃ q : Nat, j % m = q ∧ ((j : Int) % (m : Int)) = (q : Int) ∧ q ≤ 19 := ⟨_, rfl, by simp, by have := Nat.mod_lt j hm1; omega⟩
          rw [hq] at hws
          generalize nth L (L.length - 1 - j) = x at *
          obtain ⟨pr, hpr, hpi, hp20⟩ : ∃ pr : Nat, x * (1 + q) = pr ∧ ((x : Int) * (1 + (q : Int))) = (pr : Int) ∧ pr ≤ 46 * 20 := ⟨_, rfl, by simp, Nat.mul_le_mul hx (by omega)⟩
          rw [hpr] at hws
          generalize wsum L m j = T at *
          have hw0 : IntKind.i64.wrap ((L.length : Int) - 1) = (L.length : Int) - 1 := by rw [IntKind.wrap_i64]; omega
          have hw1 : IntKind.i64.wrap ((L.length : Int) - 1 - (j : Int)) = ((L.length - 1 - j : Nat) : Int) := by rw [IntKind.wrap_i64]; omega
          have hw2 : IntKind.i64.wrap (1 + (q : Int)) = 1 + (q : Int) := by rw [IntKind.wrap_i64]; omega
          have hw3 : IntKind.i64.wrap (pr : Int) = (pr : Int) := by rw [IntKind.wrap_i64]; omega
          have hw4 : IntKind.i64.wrap ((T : Int) + (pr : Int)) = (T : Int) + (pr : Int) := by rw [IntKind.wrap_i64]; omega
          have hmt : (j : Int).tmod (m : Int) = (q : Int) := by rw [Int.tmod_eq_emod_of_nonneg (by omega)]; exact hqi
          have hjx : L.length - 1 - j < L.length := by omega
          clear hq hpr hx
          go_wp2_with fail
          go_quiet (fail)
          go_wp2
          go_roundw
          case rel => exact ⟨j + 1, n + nq, by omega, by go_num, by rw [hws.out]; go_num, by simp⟩
          case measure => simp [intOf]; omega
        · have hjL : j = L.length := by omega
          rw [hjL] at hwl'
          have hT : Hid (wsum L m j = wsum L m L.length) := Lib.hid (by rw [hjL])
          rw [hT.out]
          clear hjL hT
          obtain ⟨c, hc, hci⟩ : ∃ c : Nat, check93 L m = c ∧ ((wsum L m L.length : Int) % 47) = (c : Int) := ⟨_, rfl, by rw [HCK.out]; simp⟩
          have HC := Lib.hid hc
          clear hc
          generalize wsum L m L.length = T at *
          have hown' := own_drewN hown n
          have hb' := below_drewN' hb n
          have hsz' := hb'.size
          generalize wo.drewN n = wp at *
          clear hown hb
          go_wp2_with (at_builtin; refine wpList_append_lies _ rfl _ _ 31 rfl w.heap.size 3 i0 (.int .i64 0) 1 8 Try.underlying31 hi hz0 hz1 hz2 rfl (by decide) _ _ _ rfl (hown'.alloc _) ⟨wp.heap.size, 0, none⟩ 1 1 [I64 c] rfl rfl (one_new wp _ _) (ints_one [c]) (by decide) (by unfold maxLen; omega) (by omega) (by simp; omega) _ rfl ?_)
          intro g5 cap5 w5 hown5 hgrow hat hlt5
          have hb5 : Below w.heap.size w w5 := app_below hb' hsz' hown' hgrow
          have e5 : (L.map I64 ++ [I64 c]) = (chk93 vs (k + 1)).map I64 := by rw [HS.out, HC.out]; simp
          have l5 : L.length + 1 = (chk93 vs (k + 1)).length := by rw [HS.out]; simp
          rw [e5] at hown5
          generalize Value.slice (some ⟨g5, 0, none⟩) (L.length + 1) cap5 = v5 at *
          rw [l5] at hown5
          clear hgrow hat hown' e5 hb' l5
          go_wp2
          go_roundw
          case rel => exact ⟨k + 1, by omega, by go_num, hown5, hb5⟩
          case measure => simp [intOf]; omega
    · have hk2 : k = 2 := by omega
      subst hk2
      have hL : Hid (chk93 vs 2 = checked2 vs) := Lib.hid rfl
      rw [hlen, hL.out] at hown
      obtain ⟨g, cap, rfl, hg1, hg2⟩ := own_slice hown (by omega)
      have hsl := SlAt.of_own hown
      have hsub := hsl.sub vs.length (vs.length + 2) (by omega) (by rw [List.length_map]; show _ ≤ (checked2 vs).length; rw [← hL.out, hlen]; exact Nat.le_refl _)
      have e2 : (((checked2 vs).map I64).drop vs.length).take (vs.length + 2 - vs.length) = [check93 vs 20, check93 (checked1 vs) 15].map I64 := by
        rw [← List.map_drop, checked2_drop, show vs.length + 2 - vs.length = 2 by omega]; rfl
      rw [e2, Nat.zero_add, show vs.length + 2 - vs.length = 2 by omega] at hsub
      have HSL := Lib.hid hsub
      have hcap := own_cap hown
      clear hsl hsub hown hlen e2
      go_wp2
      go_ret
      exact ⟨⟨_, _, rfl, HSL.out⟩, hb⟩
end Go.Proofs.Ytpgddedhhjbgoaa
