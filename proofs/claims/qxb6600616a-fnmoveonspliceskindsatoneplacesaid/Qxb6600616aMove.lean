/-
  'moveOn' and 'ZZMoveOn': the text ahead of the kinds, the kinds, the text behind them.
-/
import Derived.Test.Qxb6600616aRows
import Derived.WalkKit
import Derived.ProofKit
import Derived.OpenShut
import Derived.ShutString
namespace Go.Proofs.Qxb6600616a.mv
open Go.ChangeShapes Go.WideShapes Go.ChangeAt Go.RowKit

/-- What moveOn is, seen from its callers: two fixed texts round the kinds. -/
structure MoveOn (pre post : ByteArray) : Prop where
  szPre : pre.size = 150
  szPost : post.size = 117
  head : post.data.toList[0]? = some 41
  calls : ∀ (k : ByteArray) (w : World), k.size ≤ 1048576 →
    Calls Try.prog 16 #[.string k] w fun e w' => e = .returned (.string (pre ++ k ++ post)) ∧ w' = w

set_option maxRecDepth 100000 in
set_option maxHeartbeats 1000000 in
theorem moveOn_is : ∃ pre post, MoveOn pre post := by
  refine ⟨⟨#[73, 78, 83, 69, 82, 84, 32, 73, 78, 84, 79, 32, 99, 117, 111, 114, 101, 95, 114, 101, 97, 100, 121, 95, 107, 105, 110, 100, 115, 32, 40, 116, 101, 110, 97, 110, 116, 44, 32, 116, 121, 112, 101, 44, 32, 112, 114, 105, 111, 114, 105, 116, 121, 44, 32, 115, 101, 113, 41, 10, 9, 9, 83, 69, 76, 69, 67, 84, 32, 109, 111, 118, 101, 100, 46, 42, 32, 70, 82, 79, 77, 32, 40, 83, 69, 76, 69, 67, 84, 32, 97, 114, 114, 97, 121, 95, 97, 103, 103, 40, 116, 101, 110, 97, 110, 116, 41, 32, 65, 83, 32, 116, 101, 110, 97, 110, 116, 115, 44, 32, 97, 114, 114, 97, 121, 95, 97, 103, 103, 40, 116, 121, 112, 101, 41, 32, 65, 83, 32, 116, 121, 112, 101, 115, 32, 70, 82, 79, 77, 32]⟩, ⟨#[41, 32, 65, 83, 32, 107, 44, 10, 9, 9, 9, 99, 117, 111, 114, 101, 95, 109, 111, 118, 101, 95, 107, 105, 110, 100, 115, 40, 107, 46, 116, 101, 110, 97, 110, 116, 115, 44, 32, 107, 46, 116, 121, 112, 101, 115, 44, 32, 65, 82, 82, 65, 89, 40, 83, 69, 76, 69, 67, 84, 32, 105, 100, 32, 70, 82, 79, 77, 32, 115, 116, 97, 114, 116, 101, 100, 41, 41, 32, 65, 83, 32, 109, 111, 118, 101, 100, 10, 9, 9, 87, 72, 69, 82, 69, 32, 107, 46, 116, 101, 110, 97, 110, 116, 115, 32, 73, 83, 32, 78, 79, 84, 32, 78, 85, 76, 76]⟩, rfl, rfl, rfl, fun k w hk => ?_⟩
  have h1 : ¬9223372036854775807 < 150 + k.size := by omega
  have h2 : ¬9223372036854775807 < 150 + k.size + 117 := by omega
  go_enter Try.func16, Try.ntmps16
  go_wp2
  go_ret
  exact ⟨rfl, rfl⟩

/-- 'ZZMoveOn' hands it on. -/
theorem zz {pre post : ByteArray} (m : MoveOn pre post) (k : ByteArray) (w : World) (hk : k.size ≤ 1048576) :
    Calls Try.prog 13 #[.string k] w fun e w' => e = .returned (.string (pre ++ k ++ post)) ∧ w' = w := by
  go_enter Try.func13, Try.ntmps13
  go_wp2_with (go_at_call 16; refine (m.calls _ _ hk).mono ?_; rintro e w' ⟨rfl, rfl⟩)
  go_ret
  exact ⟨rfl, rfl⟩
end Go.Proofs.Qxb6600616a.mv
