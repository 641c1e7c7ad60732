/- What a law is told of its arguments: a row of bytes that came in, a byte, a string. -/
import Derived.Test.YtpgddedhhjbgoaaBase
import Derived.OpenShut
namespace Go.Proofs.Ytpgddedhhjbgoaa
open Go.RowKit

/-- A slice of integers that came in: nil, or it leads to a row of 'cap' cells, the numbers 'zs'. -/
def IsRow (k : IntKind) (w : World) (a : Option Addr) (len cap : Nat) (zs : List Int) : Prop :=
  (a = none ∧ len = 0 ∧ cap = 0 ∧ zs = []) ∨
  ∃ x, a = some x ∧ len ≤ cap ∧ cap ≤ maxLen ∧ zs.length = cap ∧ (∀ i, i < zs.length → w.cell? (x.add i) = some (.int k (zs.getD i 0))) ∧ ∀ n ∈ zs, (Lit.int k n).wf = true

theorem u8_of {n : Int} (h : (Lit.int .u8 n).wf = true) : ∃ c : UInt8, n = (c.toNat : Int) := by
  have h1 : 0 ≤ n ∧ n ≤ 255 := bounds_u8 h
  refine ⟨UInt8.ofNat n.toNat, ?_⟩
  rw [UInt8.toNat_ofNat']
  omega

theorem row_bytes {w : World} {a : Option Addr} {len cap : Nat} {zs : List Int} (h : IsRow .u8 w a len cap zs) :
    ∃ cs : List UInt8, SlAt w (.slice a len cap) (cs.map B8) := by
  rcases h with ⟨rfl, rfl, rfl, rfl⟩ | ⟨x, rfl, h1, h2, h3, h4, h5⟩
  · exact ⟨[], SlAt.nil _ _ _⟩
  · have hb : ∀ n ∈ zs, ∃ c : UInt8, n = (c.toNat : Int) := fun n hn => u8_of (h5 n hn)
    have key : ∀ l : List Int, (∀ n ∈ l, ∃ c : UInt8, n = (c.toNat : Int)) → ∃ cs : List UInt8, l = cs.map (fun c => (c.toNat : Int)) := by
      intro l
      induction l with
      | nil => intro _; exact ⟨[], rfl⟩
      | cons y ys ih =>
        intro hl
        obtain ⟨c, rfl⟩ := hl y (by simp)
        obtain ⟨cs, rfl⟩ := ih (fun n hn => hl n (by simp [hn]))
        exact ⟨c :: cs, rfl⟩
    obtain ⟨cs, rfl⟩ := key zs hb
    rw [List.length_map] at h3 h4
    have hlt : (cs.take len).length = len := by rw [List.length_take]; omega
    refine ⟨cs.take len, by rw [List.length_map, hlt]; omega, some x, cap, by rw [List.length_map, hlt], by rw [List.length_map, hlt]; exact h1, fun i hi => ?_⟩
    rw [List.length_map, hlt] at hi
    have hc := h4 i (by omega)
    obtain ⟨b, o, sp⟩ := x
    have hsp : sp = none := by
      cases sp with
      | none => rfl
      | some y =>
        exfalso
        have h0 := h4 0 (by omega)
        rw [show (⟨b, o, some y⟩ : Addr).add 0 = ⟨b, o, some y⟩ from rfl] at h0
        unfold World.cell? at h0
        split at h0 <;> simp at h0
    subst hsp
    refine ⟨b, o, rfl, ?_⟩
    rw [Addr.add_lit] at hc
    rw [hc]
    have hi' : i < cs.length := by omega
    simp [List.getD, hi, hi', B8, List.getElem?_take]
end Go.Proofs.Ytpgddedhhjbgoaa
