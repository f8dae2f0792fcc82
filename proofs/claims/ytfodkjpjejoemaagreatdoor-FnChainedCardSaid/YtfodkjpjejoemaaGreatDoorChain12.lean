
/-
  Chains: operators run one behind the other along a path.
  Conditions: the operators' proofs lead to their roots; the tables hold what they hold.
-/
import Derived.Test.YtfodkjpjejoemaaGreatDoorChain11
import Derived.Test.YtfodkjpjejoemaaGreatDoorZq
namespace Go.Proofs.YtfodkjpjejoemaaGreatDoor
open Go Go.RowKit
attribute [local go_sem ↓] Go.wp_at_zero Go.wp_at_succ

theorem m_getKey (a b : Value) (w : World) : (method 326 57 (.agg #[a, b]) "GetKey").run Tryz.prog w = .ok (121, .agg #[a, b]) w := by kernel_rfl
theorem m_run (a b : Value) (w : World) : (method 326 57 (.agg #[a, b]) "Run").run Tryz.prog w = .ok (122, .agg #[a, b]) w := by kernel_rfl
theorem na_getKey (a b : Value) (w : World) : (nilAhead 326 57 (.agg #[a, b]) "GetKey").run Tryz.prog w = .ok (some false) w := by kernel_rfl
theorem na_run (a b : Value) (w : World) : (nilAhead 326 57 (.agg #[a, b]) "Run").run Tryz.prog w = .ok (some false) w := by kernel_rfl

theorem getKey_any (kv : Value) (k : List UInt8) (q : Nat) (w : World) (hk : Byts w kv k) :
    Calls Tryz.prog 121 #[.agg #[kv, .pointer (some ⟨q, 0, none⟩)]] w fun e w' => e = .returned kv ∧ Keep w w' := by
  obtain ⟨A, c, rfl, -, -, -, -⟩ := hk
  go_enter Tryz.func121, Tryz.ntmps121
  go_wp2
  go_ret
  exact ⟨rfl, (Kp.refl _ _).alloc _⟩
end Go.Proofs.YtfodkjpjejoemaaGreatDoor
