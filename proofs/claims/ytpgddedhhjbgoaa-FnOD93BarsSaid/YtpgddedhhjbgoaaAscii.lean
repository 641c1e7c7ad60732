/- Walks: spec.ODAscii, spec.odLetter. -/
import Derived.Test.YtpgddedhhjbgoaaBase
import Derived.Test.YtpgddedhhjbgoaaProg
import Derived.Lib.BufferRead
import Derived.Lib.SlBytesConst
namespace Go.Proofs.Ytpgddedhhjbgoaa
open Go.RowKit

theorem info_u8 : (Try.prog.info? 5).map (fun i => (i.zero, i.size, i.bytes)) = some (some (.int .u8 0), 1, 1) := by kernel_rfl

/-- A text of bytes below 128. -/
def ascii (cs : List UInt8) (most : Nat) : List UInt8 := (cs.take most).map fun c => UInt8.ofNat (c.toNat % 128)
theorem ascii_length (cs : List UInt8) (n : Nat) : (ascii cs n).length = min n cs.length := by simp [ascii]
theorem ascii_low (cs : List UInt8) (n : Nat) : ∀ c ∈ ascii cs n, c.toNat < 128 := by
  intro c hc
  obtain ⟨x, _, rfl⟩ := List.mem_map.1 hc
  rw [UInt8.toNat_ofNat']; omega
theorem ascii_snoc (cs : List UInt8) (k : Nat) (h : k < cs.length) : ascii cs (k + 1) = ascii cs k ++ [UInt8.ofNat ((nthU cs k).toNat % 128)] := by
  unfold ascii
  rw [List.take_succ_eq_append_getElem h, List.map_append, nthU_eq h]; rfl

/-- 'string(b)' of a row of the call's own. -/
theorem conv_own {P : Program} {w : World} {base : Nat} {src dst e : TypeId} {g cap : Nat} {l : List UInt8} (hs : P.underlying src = some (.slice e)) (he : P.underlying e = some (.int .u8)) (hd : P.underlying dst = some .string)
    (hown : w.ownsRow base e 1 (.slice (some ⟨g, 0, none⟩) l.length cap) l.length (l.map B8)) :
    (convert src dst (.slice (some ⟨g, 0, none⟩) l.length cap)).run P w = .ok (.string ⟨l.toArray⟩) w :=
  run_convert_bytes_back (P := P) w src dst e ⟨g, 0, none⟩ cap l hs he hd (fun j hj => by
    rw [Addr.add_lit, Nat.zero_add, hown.cellAt j (by omega)]
    simp [hj, B8])

set_option maxHeartbeats 1000000 in
set_option maxRecDepth 100000 in
theorem ODAscii_any (cs : List UInt8) (v : Value) (w : World) (most : Nat) (hmost : most ≤ 1000) (h1 : SlAt w v (cs.map B8)) :
    Calls Try.prog 7 #[v, .int .i64 most] w fun e w' => (∃ r : ByteArray, e = .returned (.string r) ∧ bl r = ascii cs most) ∧ Below w.heap.size w w' := by
  obtain ⟨i0, hi, hz0, hz1, hz2⟩ := info_parts info_u8
  obtain ⟨a1, c1, rfl, hm1⟩ := h1.form
  simp only [List.length_map] at hm1 ⊢
  have H1 := Lib.hid h1
  clear h1
  go_enter Try.func7, Try.ntmps7
  go_wp2
  go_loopw [5, 6] (fun o i wr => ∃ k : Nat, k ≤ cs.length ∧ k ≤ most ∧ i = .int .i64 k ∧ wr.ownsRow w.heap.size 5 1 o (ascii cs k).length ((ascii cs k).map B8) ∧ Below w.heap.size w wr) (fun _ i _ => most - (intOf i).toNat)
  case atStart => exact ⟨0, Nat.zero_le _, Nat.zero_le _, rfl, World.ownsRow_nil _ _ _ _, Below.refl _ _⟩
  case round =>
    obtain ⟨k, hk1, hk2, rfl, hown, hb⟩ := hrel
    have hal : (ascii cs k).length ≤ 1000 := by rw [ascii_length]; omega
    by_cases hlt : k < cs.length ∧ k < most
    · obtain ⟨hlt, hlm⟩ := hlt
      obtain ⟨b, o, rfl, hc1⟩ := (H1.out.below' hb).getU k hlt
      have hsn := Lib.hid (ascii_snoc cs k hlt)
      generalize nthU cs k = x at *
      have hx255 : x.toNat ≤ 255 := by have := x.toNat_lt; omega
      have hd : Hid ((x.toNat : Int) % 128 = ((UInt8.ofNat (x.toNat % 128)).toNat : Int)) := Lib.hid (by rw [UInt8.toNat_ofNat']; omega)
      have hsz := hb.size
      go_wp2_with (at_builtin; refine wpList_append_lies _ rfl _ _ 22 rfl w.heap.size 5 i0 (.int .u8 0) 1 1 Try.underlying22 hi hz0 hz1 hz2 rfl (by decide) _ _ _ rfl (hown.alloc _) ⟨wr.heap.size, 0, none⟩ 1 1 _ rfl rfl (one_new wr _ _) (by intro u hu; simp at hu; subst hu; rfl) (by decide) (by unfold maxLen; omega) (by omega) (by simp; omega) _ rfl ?_)
      intro g cap w5 hown5 hgrow hat hlt5
      have hb5 : Below w.heap.size w w5 := app_below hb hsz hown hgrow
      have e5 : ((ascii cs k).map B8 ++ [Value.int .u8 ((x.toNat : Int) % 128)]) = (ascii cs (k + 1)).map B8 := by
        rw [hsn.out, hd.out]; simp [B8]
      have l5 : (ascii cs k).length + 1 = (ascii cs (k + 1)).length := by rw [hsn.out]; simp
      rw [e5] at hown5
      generalize hvv : Value.slice (some ⟨g, 0, none⟩) ((ascii cs k).length + 1) cap = vv at *
      rw [l5] at hown5
      clear hgrow hat hown e5 hb l5
      go_wp2
      go_roundw
      case rel => exact ⟨k + 1, by omega, by omega, by go_num, hown5, hb5⟩
      case measure => simp [intOf]; omega
    · have hst : ascii cs k = ascii cs most := by
        unfold ascii
        by_cases h : k = most
        · rw [h]
        · rw [List.take_of_length_le (by omega), List.take_of_length_le (by omega)]
      have hpost : ∀ r : ByteArray, r = ⟨(ascii cs k).toArray⟩ → bl r = ascii cs most := fun r hr => by rw [hr, bl_mk, hst]
      have HP := Lib.hid hpost
      clear hst hpost
      have hcond : ¬ (k < cs.length ∧ k < most) := hlt
      generalize ascii cs k = L at *
      have hcv : ∃ W : Value, W = u5 ∧ (convert 22 9 W).run Try.prog wr = .ok (.string ⟨L.toArray⟩) wr := by
        refine ⟨u5, rfl, ?_⟩
        rcases hown.2 with ⟨hv, hn⟩ | ⟨g, cap, cur, hv, _⟩
        · rw [hv, List.eq_nil_of_length_eq_zero hn]
          exact Lib.run_convert_nil_bytes (P := Try.prog) wr 22 9 5 0 Try.underlying22 Try.underlying5 Try.underlying9
        · rw [hv] at hown ⊢
          exact conv_own (P := Try.prog) Try.underlying22 Try.underlying5 Try.underlying9 hown
      obtain ⟨W, rfl, hcv⟩ := hcv
      by_cases hlt2 : k < cs.length
      · have : ¬ k < most := by omega
        go_wp2
        go_ret
        exact ⟨⟨_, rfl, HP.out _ rfl⟩, hb⟩
      · go_wp2
        go_ret
        exact ⟨⟨_, rfl, HP.out _ rfl⟩, hb⟩
theorem odLetter_any (n : Int) (h0 : 0 ≤ n) (h : n < 26) (w : World) :
    Calls Try.prog 26 #[.int .i64 n] w fun e w' => (e = .returned (.string ⟨#[UInt8.ofNat (65 + n.toNat)]⟩)) ∧ Below w.heap.size w w' := by
  have hc : (65 : Int) + n = ((UInt8.ofNat (65 + n.toNat)).toNat : Int) := by rw [UInt8.toNat_ofNat']; omega
  generalize UInt8.ofNat (65 + n.toNat) = c at *
  have HC := Lib.hid hc
  clear hc
  have hcv := conv_one' (P := Try.prog) w c 22 9 5 Try.underlying22 Try.underlying5 Try.underlying9
  rw [← HC.out] at hcv
  go_enter Try.func26, Try.ntmps26
  go_wp2
  go_ret
  exact ⟨rfl, below_alloc _ _⟩
theorem two_newF (w : World) (u1 u2 : Value) (e : TypeId) (fr : Nat × Nat) : ∀ j u', [u1, u2][j]? = some u' → (w.alloc (.cells #[u1, u2] e fr)).cell? ((⟨w.heap.size, 0, none⟩ : Addr).add j) = some u' := by
  intro j u' hj
  rw [Addr.add_lit, cell_of_row (w.alloc _) w.heap.size _ _ e fr (heap_alloc_new w _), Nat.zero_add]
  simpa using hj
theorem own_snoc8 {w : World} {base : Nat} {e : TypeId} {v : Value} {L : List UInt8} {x : Int} {d : UInt8} (h : w.ownsRow base e 1 v (L.length + 1) (L.map B8 ++ [.int .u8 x])) (hx : x = (d.toNat : Int)) :
    w.ownsRow base e 1 v (L ++ [d]).length ((L ++ [d]).map B8) := by
  subst hx
  rw [List.length_append, List.map_append]
  exact h
theorem own_two8 {w : World} {base : Nat} {e : TypeId} {v : Value} {L : List UInt8} {a d : UInt8} (h : w.ownsRow base e 1 v (L.length + 2) (L.map B8 ++ [.int .u8 (a.toNat : Int), .int .u8 (d.toNat : Int)])) :
    w.ownsRow base e 1 v (L ++ [a, d]).length ((L ++ [a, d]).map B8) := by
  rw [List.length_append, List.map_append]
  exact h
end Go.Proofs.Ytpgddedhhjbgoaa
