import Derived.Test.Qxb6600157aBase
namespace Go.Proofs.Qxb6600157a
open Go.RowKit
set_option linter.unusedVariables false

/-- The next size after x. -/
def capd (x : Int) : Int := if 2 * x ≤ 262144 then 2 * x else 262144

/-- x is B doubled k times, the least such that holds n. -/
def Fit (B n x : Int) : Prop := ∃ k : Nat, x = B * 2 ^ k ∧ (x = B ∨ x < 2 * n) ∧ n ≤ x ∧ B ≤ x

theorem ret_int {k : IntKind} {a b : Int} (h : a = b) : Ending.returned (.int k a) = .returned (.int k b) := by rw [h]
theorem dbl (B x : Int) (k : Nat) (h : x = B * 2 ^ k) : 2 * x = B * 2 ^ (k + 1) := by rw [h, Int.pow_succ]; simp only [Int.mul_comm, Int.mul_left_comm]

set_option maxHeartbeats 400000 in
theorem next_any (A : Nat) (g n B : Int) (w : World) (hc : w.cell? ⟨A, 4, none⟩ = some (.int .i64 g)) (hf : w.frozen? ⟨A, 4, none⟩ = false) (hg : (g < 512 ∧ B = 512) ∨ (512 ≤ g ∧ B = g)) (hB : B ≤ 262144) (hn : n ≤ 536870912) :
    Calls Try.prog 32 #[.pointer (some ⟨A, 0, none⟩), .int .i64 n] w fun e w' => ∃ x : Int, e = .returned (.int .i64 x) ∧ Fit B n x ∧ w' = w.setCell ⟨A, 4, none⟩ (.int .i64 (capd x)) := by
  have hB5 : 512 ≤ B := by omega
  rcases hg with ⟨hg, rfl⟩ | ⟨hg, rfl⟩
  all_goals
    go_enter Try.func32, Try.ntmps32
    go_wp2_with fail
  · go_loop [5] (fun v => ∃ (x : Int) (k : Nat), v = .int .i64 x ∧ x = 512 * 2 ^ k ∧ (x = 512 ∨ x < 2 * n) ∧ 512 ≤ x) (fun v => (n - intOf v).toNat)
    case atStart => exact ⟨512, 0, rfl, rfl, .inl rfl, by omega⟩
    case round =>
      obtain ⟨x, k, rfl, hx, hor, hlo⟩ := hrel
      have HX : Hid (x = 512 * 2 ^ k) := hx
      have HO : Hid (x = 512 ∨ x < 2 * n) := hor
      have hhi : x ≤ 1073741824 := by omega
      clear hx hor
      by_cases hlt : x < n
      · go_wp2
        go_round
        case rel => exact ⟨2 * x, k + 1, by go_num, dbl _ _ _ HX.out, .inr (by omega), by omega⟩
        case measure => simp [intOf]; omega
      · go_wp2
        all_goals
          go_ret
          refine ⟨x, rfl, ⟨k, HX.out, HO.out, by omega, by omega⟩, ?_⟩
          unfold capd
          first | rw [if_pos (by omega)] | rw [if_neg (by omega)]
  · go_loop [5] (fun v => ∃ (x : Int) (k : Nat), v = .int .i64 x ∧ x = B * 2 ^ k ∧ (x = B ∨ x < 2 * n) ∧ B ≤ x) (fun v => (n - intOf v).toNat)
    case atStart => exact ⟨B, 0, rfl, by simp, .inl rfl, by omega⟩
    case round =>
      obtain ⟨x, k, rfl, hx, hor, hlo⟩ := hrel
      have HX : Hid (x = B * 2 ^ k) := hx
      have HO : Hid (x = B ∨ x < 2 * n) := hor
      have hhi : x ≤ 1073741824 := by omega
      clear hx hor
      by_cases hlt : x < n
      · go_wp2
        go_round
        case rel => exact ⟨2 * x, k + 1, by go_num, dbl _ _ _ HX.out, .inr (by omega), by omega⟩
        case measure => simp [intOf]; omega
      · go_wp2
        all_goals
          go_ret
          refine ⟨x, rfl, ⟨k, HX.out, HO.out, by omega, by omega⟩, ?_⟩
          unfold capd
          first | rw [if_pos (by omega)] | rw [if_neg (by omega)]

set_option maxHeartbeats 400000 in
theorem znext_any (A : Nat) (g n B : Int) (w : World) (hc : w.cell? ⟨A, 4, none⟩ = some (.int .i64 g)) (hf : w.frozen? ⟨A, 4, none⟩ = false) (hg : (g < 512 ∧ B = 512) ∨ (512 ≤ g ∧ B = g)) (hB : B ≤ 262144) (hn : n ≤ 536870912) :
    Calls Try.prog 26 #[.pointer (some ⟨A, 0, none⟩), .int .i64 n] w fun e w' => ∃ x : Int, e = .returned (.int .i64 x) ∧ Fit B n x ∧ w' = w.setCell ⟨A, 4, none⟩ (.int .i64 (capd x)) := by
  have HG : Hid ((g < 512 ∧ B = 512) ∨ (512 ≤ g ∧ B = g)) := hg
  clear hg
  go_enter Try.func26, Try.ntmps26
  go_wp2_with fail
  refine (next_any A g n B w hc hf HG.out hB hn).mono ?_
  rintro e w' ⟨x, rfl, hx, rfl⟩
  have HX : Hid (Fit B n x) := hx
  clear hx
  go_wp2
  go_ret
  exact ⟨x, rfl, HX.out, rfl⟩

/-- p is the least power of two that holds n. -/
def Pow2 (n p : Int) : Prop := ∃ k : Nat, p = 2 ^ k ∧ (p = 1 ∨ p < 2 * n) ∧ n ≤ p ∧ 1 ≤ p

set_option maxHeartbeats 400000 in
theorem pow_any (n : Int) (w : World) (hn : n ≤ 536870912) :
    Calls Try.prog 28 #[.int .i64 n] w fun e w' => ∃ p : Int, e = .returned (.int .i64 p) ∧ Pow2 n p ∧ w' = w := by
  go_enter Try.func28, Try.ntmps28
  go_wp2
  go_loop [3] (fun v => ∃ (x : Int) (k : Nat), v = .int .i64 x ∧ x = 1 * 2 ^ k ∧ (x = 1 ∨ x < 2 * n) ∧ 1 ≤ x) (fun v => (n - intOf v).toNat)
  case atStart => exact ⟨1, 0, rfl, rfl, .inl rfl, by omega⟩
  case round =>
    obtain ⟨x, k, rfl, hx, hor, hlo⟩ := hrel
    have HX : Hid (x = 1 * 2 ^ k) := hx
    have HO : Hid (x = 1 ∨ x < 2 * n) := hor
    have hhi : x ≤ 1073741824 := by omega
    clear hx hor
    by_cases hlt : x < n
    · go_wp2
      go_round
      case rel => exact ⟨2 * x, k + 1, by go_num, dbl _ _ _ HX.out, .inr (by omega), by omega⟩
      case measure => simp [intOf]; omega
    · go_wp2
      go_ret
      exact ⟨x, rfl, ⟨k, by have := HX.out; omega, HO.out, by omega, by omega⟩, rfl⟩

set_option maxHeartbeats 400000 in
theorem zz25_any (a : Option Addr) (len cap : Nat) (w : World) (h : len ≤ 65536) : Calls Try.prog 25 #[.slice a len cap] w fun e w' => e = .returned (.bool true) ∧ w' = w := by
  go_enter Try.func25, Try.ntmps25
  go_wp2
  go_ret
  exact ⟨rfl, rfl⟩

set_option maxHeartbeats 400000 in
theorem zz25_else (a : Option Addr) (len cap : Nat) (w : World) (h : len ≤ 9223372036854775807) : Calls Try.prog 25 #[.slice a len cap] w fun e w' => (e = .returned (.bool true) ∨ e = .returned (.bool false)) ∧ w' = w := by
  by_cases h1 : len ≤ 1048576
  · go_enter Try.func25, Try.ntmps25
    go_wp2
    go_ret
    exact ⟨.inl rfl, rfl⟩
  · go_enter Try.func25, Try.ntmps25
    go_wp2
    go_ret
    exact ⟨.inr rfl, rfl⟩

set_option maxHeartbeats 400000 in
theorem zz27_any (a : Option Addr) (len cap : Nat) (w : World) (h : len ≤ 65536) : Calls Try.prog 27 #[.slice a len cap] w fun e w' => e = .returned (.bool true) ∧ w' = w := by
  go_enter Try.func27, Try.ntmps27
  go_wp2
  go_ret
  exact ⟨rfl, rfl⟩

set_option maxHeartbeats 400000 in
theorem zz27_else (a : Option Addr) (len cap : Nat) (w : World) (h : len ≤ 9223372036854775807) : Calls Try.prog 27 #[.slice a len cap] w fun e w' => (e = .returned (.bool true) ∨ e = .returned (.bool false)) ∧ w' = w := by
  by_cases h1 : len ≤ 1048576
  · go_enter Try.func27, Try.ntmps27
    go_wp2
    go_ret
    exact ⟨.inl rfl, rfl⟩
  · go_enter Try.func27, Try.ntmps27
    go_wp2
    go_ret
    exact ⟨.inr rfl, rfl⟩

/-- What the arena's next size may be: none yet, or a power of two from 512 to 262144. -/
def GOk (g B : Int) : Prop := ((g < 512 ∧ B = 512) ∨ (512 ≤ g ∧ B = g)) ∧ B ≤ 262144 ∧ 512 ≤ B ∧ ∃ b : Nat, B = 2 ^ b

theorem fit_pow {g B n x : Int} (hg : GOk g B) (hf : Fit B n x) : ∃ e : Nat, x = 2 ^ e := by
  obtain ⟨_, _, _, b, rfl⟩ := hg
  obtain ⟨k, rfl, _⟩ := hf
  exact ⟨b + k, by rw [Int.pow_add]⟩

theorem gok_next {g B n x : Int} (hg : GOk g B) (hf : Fit B n x) : GOk (capd x) (capd x) := by
  obtain ⟨e, he⟩ := fit_pow hg hf
  obtain ⟨_, _, h5, _⟩ := hg
  obtain ⟨k, _, _, _, hb⟩ := hf
  unfold capd
  split
  · exact ⟨.inr ⟨by omega, rfl⟩, by omega, by omega, e + 1, by rw [he, Int.pow_succ, Int.mul_comm]⟩
  · exact ⟨.inr ⟨by omega, rfl⟩, by omega, by omega, 18, by rfl⟩
end Go.Proofs.Qxb6600157a
