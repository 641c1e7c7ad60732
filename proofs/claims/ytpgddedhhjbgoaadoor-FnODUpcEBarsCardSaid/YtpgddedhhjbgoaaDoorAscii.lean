/- Walks: spec.ODAscii, spec.odLetter. -/
import Derived.Test.YtpgddedhhjbgoaaDoorBase
import Derived.Test.YtpgddedhhjbgoaaDoorProg
import Derived.Lib.BufferRead
import Derived.Lib.SlBytesConst
namespace Go.Proofs.YtpgddedhhjbgoaaDoor
open Go.RowKit

theorem info_u8 : (Tryd.prog.info? 5).map (fun i => (i.zero, i.size, i.bytes)) = some (some (.int .u8 0), 1, 1) := by kernel_rfl

/-- A text of bytes below 128. -/
def ascii (cs : List UInt8) (most : Nat) : List UInt8 := (cs.take most).map fun c => UInt8.ofNat (c.toNat % 128)
theorem ascii_length (cs : List UInt8) (n : Nat) : (ascii cs n).length = min n cs.length := by simp [ascii]
theorem ascii_low (cs : List UInt8) (n : Nat) : ∀ c ∈ ascii cs n, c.toNat < 128 := by
  intro c hc
  obtain ⟨x, _, rfl⟩ := List.mem_map.1 hc
  rw [UInt8.toNat_ofNat']; omega
theorem ascii_snoc (cs : List UInt8) (k : Nat) (h : k < cs.length) : ascii cs (k + 1) = ascii cs k ++ [UInt8.ofNat ((nthU cs k).toNat % 128)] := by
  unfold ascii
  rw [List.take_succ_eq_append_getElem h, List.map_append, nthU_eq h]; rfl

/-- 'string(b)' of a row of the call's own. -/
theorem conv_own {P : Program} {w : World} {base : Nat} {src dst e : TypeId} {g cap : Nat} {l : List UInt8} (hs : P.underlying src = some (.slice e)) (he : P.underlying e = some (.int .u8)) (hd : P.underlying dst = some .string)
    (hown : w.ownsRow base e 1 (.slice (some ⟨g, 0, none⟩) l.length cap) l.length (l.map B8)) :
    (convert src dst (.slice (some ⟨g, 0, none⟩) l.length cap)).run P w = .ok (.string ⟨l.toArray⟩) w :=
  run_convert_bytes_back (P := P) w src dst e ⟨g, 0, none⟩ cap l hs he hd (fun j hj => by
    rw [Addr.add_lit, Nat.zero_add, hown.cellAt j (by omega)]
    simp [hj, B8])

end Go.Proofs.YtpgddedhhjbgoaaDoor
