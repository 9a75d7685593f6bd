import Derived.Test.Qxb6600157aGuard
namespace Go.Proofs.Qxb6600157a
open Go.RowKit
set_option linter.unusedVariables false

set_option maxRecDepth 100000 in
set_option maxHeartbeats 400000 in
theorem zz17_any (a0 a1 a2 : Option Addr) (l0 l1 l2 c0 c1 c2 : Nat) (hd : Int) (hh : Bool) (sz : Int) (w : World) (m0 : l0 ≤ 65536) (m1 : l1 ≤ 65536) (m2 : l2 ≤ 65536) :
    Calls Try.prog 17 #[.slice a0 l0 c0, .slice a1 l1 c1, .slice a2 l2 c2, .int .u32 hd, .bool hh, .int .i64 sz] w fun e w' => e = .returned (.bool true) ∧ w' = w := by
  go_enter Try.func17, Try.ntmps17
  go_wp2
  go_ret
  exact ⟨rfl, rfl⟩

set_option maxRecDepth 100000 in
set_option maxHeartbeats 400000 in
theorem zz17_else (a0 a1 a2 : Option Addr) (l0 l1 l2 c0 c1 c2 : Nat) (hd : Int) (hh : Bool) (sz : Int) (w : World) (m0 : l0 ≤ 9223372036854775807) (m1 : l1 ≤ 9223372036854775807) (m2 : l2 ≤ 9223372036854775807) :
    Calls Try.prog 17 #[.slice a0 l0 c0, .slice a1 l1 c1, .slice a2 l2 c2, .int .u32 hd, .bool hh, .int .i64 sz] w fun e w' => (e = .returned (.bool true) ∨ e = .returned (.bool false)) ∧ w' = w := by
  go_enter Try.func17, Try.ntmps17
  go_wp2
  all_goals
    go_ret
    first | exact ⟨.inl rfl, rfl⟩ | exact ⟨.inr rfl, rfl⟩

set_option maxRecDepth 100000 in
set_option maxHeartbeats 400000 in
theorem kindAt_any (a : Option Addr) (kn c : Nat) (kd : Nat → Int) (i : Nat) (w : World) (h : InF w a kn (fun j => .int .u8 (kd j))) (hk : kn ≤ 65536) (hi : i ≤ 65536) :
    Calls Try.prog 29 #[.slice a kn c, .int .i64 (i : Int)] w fun e w' => e = .returned (.int .u8 (kAt kd kn i)) ∧ w' = w := by
  by_cases hlt : i < kn
  · obtain ⟨b, off, rfl, hbl, hc⟩ := h.resolve_left (by omega)
    have x0 : w.cell? ⟨b, off + i, none⟩ = some (.int .u8 (kd i)) := hc i hlt
    clear hc
    go_enter Try.func29, Try.ntmps29
    go_wp2
    go_ret
    exact ⟨by simp [kAt, hlt], rfl⟩
  · go_enter Try.func29, Try.ntmps29
    go_wp2
    go_ret
    exact ⟨by simp [kAt, hlt], rfl⟩

set_option maxRecDepth 100000 in
set_option maxHeartbeats 400000 in
theorem nonNeg_any (a : Option Addr) (s c : Nat) (lv : Nat → Int) (w : World) (h : InF w a s (fun j => .int .i64 (lv j))) (hs : s ≤ 65536) :
    Calls Try.prog 18 #[.slice a s c] w fun e w' => BoolIf e (∀ j, j < s → 0 ≤ lv j) ∧ w' = w := by
  go_enter Try.func18, Try.ntmps18
  go_wp2_with fail
  go_loop [3] (fun i => ∃ k : Nat, k ≤ s ∧ i = .int .i64 k ∧ ∀ j, j < k → 0 ≤ lv j) (fun i => s - (intOf i).toNat)
  case atStart => exact ⟨0, Nat.zero_le _, rfl, fun j hj => by omega⟩
  case round =>
  obtain ⟨k, hk, rfl, hall⟩ := hrel
  have HA : Hid (∀ j, j < k → 0 ≤ lv j) := hall
  clear hall
  by_cases hlt : k < s
  · obtain ⟨b, off, rfl, hbl, hc⟩ := h.resolve_left (by omega)
    have x0 := hc k hlt
    clear hc
    by_cases hz : 0 ≤ lv k
    · go_wp2
      go_round
      case rel => exact ⟨k + 1, by omega, by go_num, fun j hj => if e : j = k then by subst e; exact hz else HA.out j (by omega)⟩
      case measure => simp [intOf]; omega
    · go_wp2
      go_ret
      exact ⟨.inr rfl, rfl⟩
  · have hkl : k = s := by omega
    subst hkl
    go_wp2
    go_ret
    exact ⟨.inl ⟨rfl, HA.out⟩, rfl⟩

/-- Place i is given back (its kind's first bit is set). -/
def Back (kd : Nat → Int) (kn i : Nat) : Prop := (bits BinOp.and IntKind.u8 (kAt kd kn i) 1 == 0) = false

set_option maxRecDepth 100000 in
set_option maxHeartbeats 400000 in
theorem givenBack_any (a : Option Addr) (n c : Nat) (id : Nat → Int) (a1 : Option Addr) (kn c1 : Nat) (kd : Nat → Int) (w : World) (h : InF w a n (fun j => .int .u32 (id j))) (h1 : InF w a1 kn (fun j => .int .u8 (kd j)))
    (hn : n ≤ 65536) (hk : kn ≤ 65536) (h0 : ∀ j, j < n → 0 ≤ id j ∧ id j ≤ 65536) :
    Calls Try.prog 10 #[.slice a n c, .slice a1 kn c1] w fun e w' => BoolIf e (∀ j, j < n → Back kd kn (id j).toNat) ∧ w' = w := by
  have HO : Hid (∀ j, j < n → 0 ≤ id j ∧ id j ≤ 65536) := h0
  clear h0
  go_enter Try.func10, Try.ntmps10
  go_wp2_with fail
  go_loop [5] (fun i => ∃ k : Nat, k ≤ n ∧ i = .int .i64 k ∧ ∀ j, j < k → Back kd kn (id j).toNat) (fun i => n - (intOf i).toNat)
  case atStart => exact ⟨0, Nat.zero_le _, rfl, fun j hj => by omega⟩
  case round =>
  obtain ⟨k, hk, rfl, hall⟩ := hrel
  have HA : Hid (∀ j, j < k → Back kd kn (id j).toNat) := hall
  clear hall
  by_cases hlt : k < n
  · obtain ⟨b, off, rfl, hbl, hc⟩ := h.resolve_left (by omega)
    obtain ⟨q0, q1⟩ := HO.out k hlt
    obtain ⟨p, hp⟩ := Int.eq_ofNat_of_zero_le q0
    have x0 : w.cell? ⟨b, off + k, none⟩ = some (.int .u32 (p : Int)) := by rw [← hp]; exact hc k hlt
    have hpl : p ≤ 65536 := by omega
    have HP : Hid ((id k).toNat = p) := (by rw [hp]; simp : (id k).toNat = p)
    clear hc q0 q1 hp
    go_wp2_with fail
    refine (kindAt_any a1 kn c1 kd p w h1 (by omega) hpl).mono ?_
    rintro e w5 ⟨rfl, rfl⟩
    by_cases hz : (bits BinOp.and IntKind.u8 (kAt kd kn p) 1 == 0) = true
    · go_wp2
      go_ret
      exact ⟨.inr rfl, rfl⟩
    · replace hz : (bits BinOp.and IntKind.u8 (kAt kd kn p) 1 == 0) = false := by simpa using hz
      have HZ : Hid (Back kd kn p) := hz
      go_wp2
      go_round
      case rel => exact ⟨k + 1, by omega, by go_num, fun j hj => if e : j = k then by subst e; rw [HP.out]; exact HZ.out else HA.out j (by omega)⟩
      case measure => simp [intOf]; omega
  · have hkl : k = n := by omega
    subst hkl
    go_wp2
    go_ret
    exact ⟨.inl ⟨rfl, HA.out⟩, rfl⟩

/-- The head, where there is one, is a place that is not given back. -/
def HeadOk (kd : Nat → Int) (kn s : Nat) (hd : Int) (hh : Bool) : Prop := hh = true → ∃ h : Nat, hd = h ∧ h < s ∧ ¬ Back kd kn h

set_option maxRecDepth 100000 in
set_option maxHeartbeats 400000 in
theorem headHeld_any (s : Nat) (a1 : Option Addr) (kn c1 : Nat) (kd : Nat → Int) (hd : Nat) (hh : Bool) (w : World) (h1 : InF w a1 kn (fun j => .int .u8 (kd j))) (hs : s ≤ 65536) (hk : kn ≤ 65536) (hhd : hd ≤ 4294967295) :
    Calls Try.prog 19 #[.int .i64 (s : Int), .slice a1 kn c1, .int .u32 (hd : Int), .bool hh] w fun e w' => BoolIf e (HeadOk kd kn s hd hh) ∧ w' = w := by
  cases hh with
  | false =>
    go_enter Try.func19, Try.ntmps19
    go_wp2
    go_ret
    exact ⟨.inl ⟨rfl, fun h => by cases h⟩, rfl⟩
  | true =>
    by_cases hlt : hd < s
    · go_enter Try.func19, Try.ntmps19
      go_wp2_with fail
      refine (kindAt_any a1 kn c1 kd hd w h1 hk (by omega)).mono ?_
      rintro e w5 ⟨rfl, rfl⟩
      by_cases hz : (bits BinOp.and IntKind.u8 (kAt kd kn hd) 1 == 0) = true
      · go_wp2
        go_ret
        exact ⟨.inl ⟨rfl, fun _ => ⟨hd, rfl, hlt, by simp only [Back, hz]; simp⟩⟩, rfl⟩
      · replace hz : (bits BinOp.and IntKind.u8 (kAt kd kn hd) 1 == 0) = false := by simpa using hz
        go_wp2
        go_ret
        exact ⟨.inr rfl, rfl⟩
    · go_enter Try.func19, Try.ntmps19
      go_wp2
      go_ret
      exact ⟨.inr rfl, rfl⟩
end Go.Proofs.Qxb6600157a
