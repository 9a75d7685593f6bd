import Derived.Test.Qxb6600157aMake
import Derived.Deep.Cut
namespace Go.Proofs.Qxb6600157a
open Go.RowKit
set_option linter.unusedVariables false

/-- A test's answer: true, and then P; or false. -/
def BoolIf (e : Ending) (P : Prop) : Prop := (e = .returned (.bool true) ∧ P) ∨ e = .returned (.bool false)

set_option maxRecDepth 100000 in
set_option maxHeartbeats 400000 in
theorem zz22_any (a0 a1 a2 a3 : Option Addr) (l0 l1 l2 l3 c0 c1 c2 c3 : Nat) (w : World) (m0 : l0 ≤ 65536) (m1 : l1 ≤ 65536) (m2 : l2 ≤ 65536) (m3 : l3 ≤ 65536) :
    Calls Try.prog 22 #[.slice a0 l0 c0, .slice a1 l1 c1, .slice a2 l2 c2, .slice a3 l3 c3] w fun e w' => e = .returned (.bool true) ∧ w' = w := by
  go_enter Try.func22, Try.ntmps22
  go_wp2
  go_ret
  exact ⟨rfl, rfl⟩

set_option maxRecDepth 100000 in
set_option maxHeartbeats 400000 in
theorem zz22_else (a0 a1 a2 a3 : Option Addr) (l0 l1 l2 l3 c0 c1 c2 c3 : Nat) (w : World) (m0 : l0 ≤ 9223372036854775807) (m1 : l1 ≤ 9223372036854775807) (m2 : l2 ≤ 9223372036854775807) (m3 : l3 ≤ 9223372036854775807) :
    Calls Try.prog 22 #[.slice a0 l0 c0, .slice a1 l1 c1, .slice a2 l2 c2, .slice a3 l3 c3] w fun e w' => (e = .returned (.bool true) ∨ e = .returned (.bool false)) ∧ w' = w := by
  go_enter Try.func22, Try.ntmps22
  go_wp2
  all_goals
    go_ret
    first | exact ⟨.inl rfl, rfl⟩ | exact ⟨.inr rfl, rfl⟩

set_option maxRecDepth 100000 in
set_option maxHeartbeats 400000 in
theorem inRange_any (a : Option Addr) (n c : Nat) (id : Nat → Int) (l : Nat) (w : World) (h : InF w a n (fun j => .int .u32 (id j))) (hn : n ≤ 65536) (hl : l ≤ 65536) (h0 : ∀ j, j < n → 0 ≤ id j) :
    Calls Try.prog 9 #[.slice a n c, .int .i64 (l : Int)] w fun e w' => BoolIf e (∀ j, j < n → id j < l) ∧ w' = w := by
  have HO : Hid (∀ j, j < n → 0 ≤ id j) := h0
  clear h0
  go_enter Try.func9, Try.ntmps9
  go_wp2_with fail
  go_loop [5] (fun i => ∃ k : Nat, k ≤ n ∧ i = .int .i64 k ∧ ∀ j, j < k → id j < l) (fun i => n - (intOf i).toNat)
  case atStart => exact ⟨0, Nat.zero_le _, rfl, fun j hj => by omega⟩
  case round =>
  obtain ⟨k, hk, rfl, hall⟩ := hrel
  have HA : Hid (∀ j, j < k → id j < l) := hall
  clear hall
  by_cases hlt : k < n
  · obtain ⟨b, off, rfl, hbl, hc⟩ := h.resolve_left (by omega)
    have x0 := hc k hlt
    have p0 := HO.out k hlt
    clear hc
    by_cases hz : id k < l
    · go_wp2
      go_round
      case rel => exact ⟨k + 1, by omega, by go_num, fun j hj => if e : j = k then by subst e; exact hz else HA.out j (by omega)⟩
      case measure => simp [intOf]; omega
    · go_wp2
      go_ret
      exact ⟨.inr rfl, rfl⟩
  · have hkl : k = n := by omega
    subst hkl
    go_wp2
    go_ret
    exact ⟨.inl ⟨rfl, HA.out⟩, rfl⟩
end Go.Proofs.Qxb6600157a
