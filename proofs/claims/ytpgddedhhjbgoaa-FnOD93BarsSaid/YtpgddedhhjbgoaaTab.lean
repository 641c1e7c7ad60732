/- Walks: tables that answer one number. -/
import Derived.Test.YtpgddedhhjbgoaaPlain
import Derived.Test.YtpgddedhhjbgoaaProg
namespace Go.Proofs.Ytpgddedhhjbgoaa
open Go.RowKit

set_option maxHeartbeats 1000000 in
set_option maxRecDepth 10000 in
theorem od39Bits_any (n : Nat) (h : n < 44) (w : World) :
    Calls Try.prog 24 #[.int .i64 n] w fun e w' => e = .returned (I64 (nth bits39T n)) ∧ Below w.heap.size w w' := by
  go_enter Try.func24, Try.ntmps24
  go_wp2
  go_ret
  exact ⟨congrArg Ending.returned (tbl_get bits39T n h), below_alloc _ _⟩

theorem od39Bits_int (n : Int) (h0 : 0 ≤ n) (h : n < 44) (w : World) :
    Calls Try.prog 24 #[.int .i64 n] w fun e w' => e = .returned (.int .i64 (nth bits39T n.toNat : Int)) ∧ Below w.heap.size w w' := by
  obtain ⟨m, rfl⟩ := Int.eq_ofNat_of_zero_le h0
  exact od39Bits_any m (by omega) w
theorem bits39T_le : ∀ x ∈ bits39T, x ≤ 1000 := by decide

set_option maxHeartbeats 1000000 in
set_option maxRecDepth 10000 in
theorem od93Bits_any (n : Nat) (h : n < 48) (w : World) :
    Calls Try.prog 29 #[.int .i64 n] w fun e w' => e = .returned (I64 (nth bits93T n)) ∧ Below w.heap.size w w' := by
  go_enter Try.func29, Try.ntmps29
  go_wp2
  go_ret
  exact ⟨congrArg Ending.returned (tbl_get bits93T n h), below_alloc _ _⟩

theorem od93Bits_int (n : Int) (h0 : 0 ≤ n) (h : n < 48) (w : World) :
    Calls Try.prog 29 #[.int .i64 n] w fun e w' => e = .returned (.int .i64 (nth bits93T n.toNat : Int)) ∧ Below w.heap.size w w' := by
  obtain ⟨m, rfl⟩ := Int.eq_ofNat_of_zero_le h0
  exact od93Bits_any m (by omega) w
theorem bits93T_le : ∀ x ∈ bits93T, x ≤ 1000 := by decide

end Go.Proofs.Ytpgddedhhjbgoaa
