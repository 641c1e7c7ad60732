/- Walks: tables that answer one number. -/
import Derived.Test.YtkpdiidmedfbgaaPlain
import Derived.Test.YtkpdiidmedfbgaaProg
namespace Go.Proofs.Ytkpdiidmedfbgaa
open Go.RowKit

set_option maxHeartbeats 1000000 in
set_option maxRecDepth 10000 in
theorem odItfWide_any (n : Nat) (h : n < 10) (w : World) :
    Calls Try.prog 32 #[.int .i64 n] w fun e w' => e = .returned (I64 (nth itfWideT n)) ∧ Below w.heap.size w w' := by
  go_enter Try.func32, Try.ntmps32
  go_wp2
  go_ret
  exact ⟨congrArg Ending.returned (tbl_get itfWideT n h), below_alloc _ _⟩

theorem odItfWide_int (n : Int) (h0 : 0 ≤ n) (h : n < 10) (w : World) :
    Calls Try.prog 32 #[.int .i64 n] w fun e w' => e = .returned (.int .i64 (nth itfWideT n.toNat : Int)) ∧ Below w.heap.size w w' := by
  obtain ⟨m, rfl⟩ := Int.eq_ofNat_of_zero_le h0
  exact odItfWide_any m (by omega) w
theorem itfWideT_le : ∀ x ∈ itfWideT, x ≤ 1000 := by decide

set_option maxHeartbeats 1000000 in
set_option maxRecDepth 10000 in
theorem odBarBits_any (n : Nat) (h : n < 20) (w : World) :
    Calls Try.prog 35 #[.int .i64 n] w fun e w' => e = .returned (I64 (nth barBitsT n)) ∧ Below w.heap.size w w' := by
  go_enter Try.func35, Try.ntmps35
  go_wp2
  go_ret
  exact ⟨congrArg Ending.returned (tbl_get barBitsT n h), below_alloc _ _⟩

theorem odBarBits_int (n : Int) (h0 : 0 ≤ n) (h : n < 20) (w : World) :
    Calls Try.prog 35 #[.int .i64 n] w fun e w' => e = .returned (.int .i64 (nth barBitsT n.toNat : Int)) ∧ Below w.heap.size w w' := by
  obtain ⟨m, rfl⟩ := Int.eq_ofNat_of_zero_le h0
  exact odBarBits_any m (by omega) w
theorem barBitsT_le : ∀ x ∈ barBitsT, x ≤ 1000 := by decide

set_option maxHeartbeats 1000000 in
set_option maxRecDepth 10000 in
theorem od39Bits_any (n : Nat) (h : n < 44) (w : World) :
    Calls Try.prog 38 #[.int .i64 n] w fun e w' => e = .returned (I64 (nth bits39T n)) ∧ Below w.heap.size w w' := by
  go_enter Try.func38, Try.ntmps38
  go_wp2
  go_ret
  exact ⟨congrArg Ending.returned (tbl_get bits39T n h), below_alloc _ _⟩

theorem od39Bits_int (n : Int) (h0 : 0 ≤ n) (h : n < 44) (w : World) :
    Calls Try.prog 38 #[.int .i64 n] w fun e w' => e = .returned (.int .i64 (nth bits39T n.toNat : Int)) ∧ Below w.heap.size w w' := by
  obtain ⟨m, rfl⟩ := Int.eq_ofNat_of_zero_le h0
  exact od39Bits_any m (by omega) w
theorem bits39T_le : ∀ x ∈ bits39T, x ≤ 1000 := by decide

set_option maxHeartbeats 1000000 in
set_option maxRecDepth 10000 in
theorem od93Bits_any (n : Nat) (h : n < 48) (w : World) :
    Calls Try.prog 42 #[.int .i64 n] w fun e w' => e = .returned (I64 (nth bits93T n)) ∧ Below w.heap.size w w' := by
  go_enter Try.func42, Try.ntmps42
  go_wp2
  go_ret
  exact ⟨congrArg Ending.returned (tbl_get bits93T n h), below_alloc _ _⟩

theorem od93Bits_int (n : Int) (h0 : 0 ≤ n) (h : n < 48) (w : World) :
    Calls Try.prog 42 #[.int .i64 n] w fun e w' => e = .returned (.int .i64 (nth bits93T n.toNat : Int)) ∧ Below w.heap.size w w' := by
  obtain ⟨m, rfl⟩ := Int.eq_ofNat_of_zero_le h0
  exact od93Bits_any m (by omega) w
theorem bits93T_le : ∀ x ∈ bits93T, x ≤ 1000 := by decide

end Go.Proofs.Ytkpdiidmedfbgaa
