/-
  The two guards on total length: they answer some Bool and change nothing.
-/
import Derived.Test.Qxb6602433aModsSmall
namespace Go.Proofs.Qxb6602433aMods.Auth
open Go.RowKit

set_option maxHeartbeats 1000000 in
theorem bytesSelf_any (p s : Option Addr) (m : ByteArray) (w : World) (h : PS w s) :
    Calls Trym.prog 32 #[.pointer p, .pointer s, .string m] w fun e w' => ∃ r, e = .returned (.bool r) ∧ w' = w := by
  rcases h with rfl | ⟨b, o, x, rfl, hc⟩
  · go_enter Trym.func32, Trym.ntmps32
    go_wp2
    all_goals
      go_ret
      exact ⟨_, rfl, rfl⟩
  · go_enter Trym.func32, Trym.ntmps32
    go_wp2
    all_goals
      go_ret
      exact ⟨_, rfl, rfl⟩

set_option maxHeartbeats 1000000 in
theorem bytesExact_any (p s p' s' : Option Addr) (m m' : ByteArray) (w : World) (h : PS w s) (h' : PS w s') :
    Calls Trym.prog 19 #[.pointer p, .pointer s, .string m, .pointer p', .pointer s', .string m'] w fun e w' => ∃ r, e = .returned (.bool r) ∧ w' = w := by
  rcases h with rfl | ⟨b, o, x, rfl, hc⟩ <;> rcases h' with rfl | ⟨b', o', x', rfl, hc'⟩
  all_goals
    go_enter Trym.func19, Trym.ntmps19
    go_wp2
    all_goals
      go_ret
      exact ⟨_, rfl, rfl⟩

end Go.Proofs.Qxb6602433aMods.Auth
