/- Walks: laws.odDigits: an even number of digits. -/
import Derived.Test.YtkpdiidmedfbgaaSame
import Derived.Test.YtkpdiidmedfbgaaPlain
namespace Go.Proofs.Ytkpdiidmedfbgaa
open Go.RowKit

def digits10 : ByteArray := ⟨#[48, 49, 50, 51, 52, 53, 54, 55, 56, 57]⟩
theorem digits10_dig : ∀ k, k < 10 → isDig (nthU (bl digits10) k) := by decide
theorem odSome_dig (cs : List UInt8) (n : Nat) : ∀ c ∈ odSome (bl digits10) cs n, isDig c := by
  intro c hc
  obtain ⟨x, _, rfl⟩ := List.mem_map.1 hc
  exact digits10_dig _ (Nat.mod_lt _ (by decide))
theorem allDig_of (s : ByteArray) (h : ∀ c ∈ bl s, isDig c) : allDig s := fun i hi => by
  have hi' : i < (bl s).length := by rw [bl_length]; exact hi
  rw [nthU_eq hi']; exact h _ (List.getElem_mem hi')

set_option maxHeartbeats 1000000 in
set_option maxRecDepth 100000 in
theorem odDigits_any (cs : List UInt8) (v : Value) (w : World) (least : Nat) (hleast : least ≤ 80) (h1 : SlAt w v (cs.map B8)) :
    Calls Try.prog 10 #[v, .int .i64 least] w fun e w' => (∃ r : ByteArray, e = .returned (.string r) ∧ allDig r ∧ r.size % 2 = 0 ∧ r.size ≤ 80 ∧ (r.size = 0 ∨ least ≤ r.size)) ∧ w' = w := by
  go_enter Try.func10, Try.ntmps10
  go_wp2_with fail
  refine (ODSome_any digits10 (by decide) (by decide) cs _ _ 80 (by omega) h1).mono ?_
  rintro e w1 ⟨⟨r, rfl, hr⟩, rfl⟩
  have hrl : r.size ≤ 80 := by rw [← bl_length, hr, odSome_length]; omega
  have hd := odSome_dig cs 80
  rw [← hr] at hd
  have HD := Lib.hid hd
  clear hr hd h1
  have hz : (r.extract 0 (r.size / 2 * 2)).size = r.size / 2 * 2 := by rw [ByteArray.size_extract]; omega
  have hdd : Hid (allDig (r.extract 0 (r.size / 2 * 2))) := Lib.hid (allDig_of _ (fun c hc => by
    rw [bl_extract, List.drop_zero] at hc
    exact HD.out c (List.mem_of_mem_take hc)))
  have HZ := Lib.hid hz
  clear hz
  go_wp2
  · go_ret
    exact ⟨⟨⟨#[]⟩, rfl, (fun i hi => absurd hi (Nat.not_lt_zero _)), rfl, Nat.zero_le _, .inl rfl⟩, rfl⟩
  · have hm : ¬ min (r.size / 2 * 2) r.size < least := by assumption
    go_ret
    exact ⟨⟨_, rfl, hdd.out, by rw [HZ.out]; omega, by rw [HZ.out]; omega, .inr (by rw [HZ.out]; omega)⟩, rfl⟩
end Go.Proofs.Ytkpdiidmedfbgaa
