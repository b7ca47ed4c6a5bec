/-
  zzBytes_FnCommandEncodeRoundTrip.
-/
import Derived.Test.Qxb6603837aDoorW1
namespace Go.Proofs.Qxb6603837aDoor
open Go.RowKit

def BytesEnd (n : Nat) (x : Ending) : Prop := x = .returned (.bool false) ∨ (x = .returned (.bool true) ∧ n ≤ 1048576)

set_option maxRecDepth 100000 in
set_option maxHeartbeats 1000000 in
theorem bytes_any (a b c d e : ByteArray) (f : Bool) (r : Int) (w : World) (ha : a.size ≤ maxLen) (hb : b.size ≤ maxLen) (hc : c.size ≤ maxLen) (hd : d.size ≤ maxLen) (he : e.size ≤ maxLen) :
    Calls Tryd.prog 4 #[.string a, .string b, .string c, .string d, .string e, .bool f, .int .u64 r] w fun x w' => BytesEnd (a.size + b.size + c.size + d.size + e.size) x ∧ w' = w := by
  unfold maxLen at ha hb hc hd he
  go_enter Tryd.func4, Tryd.ntmps4
  go_wp2
  all_goals go_ret
  all_goals first | exact ⟨.inl rfl, rfl⟩ | exact ⟨.inr ⟨rfl, by omega⟩, rfl⟩
end Go.Proofs.Qxb6603837aDoor
