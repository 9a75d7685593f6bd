import Derived.Test.Qxb6600092aIn
import Derived.Lib.Walk
namespace Go.Proofs.Qxb6600092a
open Go.RowKit
set_option linter.unusedVariables false

/-- [A-Za-z0-9_] -/
def idB (c : UInt8) : Bool := decide ((97 ≤ c.toNat ∧ c.toNat ≤ 122) ∨ (65 ≤ c.toNat ∧ c.toNat ≤ 90) ∨ (48 ≤ c.toNat ∧ c.toNat ≤ 57) ∨ c.toNat = 95)

theorem ret_bool {a b : Bool} (h : a = b) : Ending.returned (.bool a) = .returned (.bool b) := by rw [h]
theorem ret_int {k : IntKind} {a b : Int} (h : a = b) : Ending.returned (.int k a) = .returned (.int k b) := by rw [h]

set_option maxHeartbeats 400000 in
theorem idb_any (c : UInt8) (w : World) : Calls Try.prog 25 #[.int .u8 c.toNat] w fun e w' => e = .returned (.bool (idB c)) ∧ w' = w := by
  go_enter Try.func25, Try.ntmps25
  go_wp2
  all_goals
    go_ret
    refine ⟨ret_bool ?_, rfl⟩
    rw [Bool.eq_iff_iff]
    simp [idB]
    omega

set_option maxHeartbeats 400000 in
theorem identEnd_any (s : ByteArray) (i : Nat) (w : World) (hs : s.size ≤ 1152921504606846976) (hi : i ≤ s.size) :
    Calls Try.prog 29 #[.string s, .int .i64 i] w fun e w' => ∃ j : Nat, e = .returned (.int .i64 j) ∧ i ≤ j ∧ j ≤ s.size ∧ (∀ k (h : k < s.size), i ≤ k → k < j → idB s[k] = true) ∧ (∀ h : j < s.size, idB s[j] = false) ∧ w' = w := by
  go_enter Try.func29, Try.ntmps29
  go_wp2
  go_loop [5] (fun v => ∃ j : Nat, v = .int .i64 j ∧ i ≤ j ∧ j ≤ s.size ∧ (∀ k (h : k < s.size), i ≤ k → k < j → idB s[k] = true)) (fun v => s.size - (intOf v).toNat)
  case atStart => exact ⟨i, rfl, Nat.le_refl _, hi, fun k h h1 h2 => by omega⟩
  case round =>
    obtain ⟨j, rfl, hij, hjs, hall⟩ := hrel
    have HA : Hid (∀ k (h : k < s.size), i ≤ k → k < j → idB s[k] = true) := hall
    clear hall
    by_cases hlt : j < s.size
    · by_cases hq : idB s[j] = true
      · go_wp2_with (go_at_call 25; refine (idb_any s[j] _).mono ?_; rintro e w' ⟨rfl, rfl⟩)
        go_round
        case rel => exact ⟨j + 1, by go_num, by omega, by omega, fun k h h1 h2 => if e : k = j then by subst e; exact hq else HA.out k h h1 (by omega)⟩
        case measure => simp [intOf]; omega
      · have hq' : idB s[j] = false := by simpa using hq
        go_wp2_with (go_at_call 25; refine (idb_any s[j] _).mono ?_; rintro e w' ⟨rfl, rfl⟩)
        go_ret
        exact ⟨j, rfl, hij, hjs, HA.out, fun _ => hq', rfl⟩
    · go_wp2
      go_ret
      exact ⟨j, rfl, hij, hjs, HA.out, fun h => absurd h hlt, rfl⟩

/-- Does t stand in l at place i? -/
def litB (l : List UInt8) (i : Nat) (t : List UInt8) : Bool := t.isPrefixOf (l.drop i)

theorem get_data (s : ByteArray) (k : Nat) (h : k < s.size) : s.data.toList[k]? = some s[k] := by
  rw [List.getElem?_eq_getElem (by simpa using h)]; rfl

theorem lit_short {s t : ByteArray} {i : Nat} (hi : i ≤ s.size) (h : s.size < i + t.size) : litB s.data.toList i t.data.toList = false := by
  rw [litB, Bool.eq_false_iff]
  intro hp
  have hl := (List.isPrefixOf_iff_prefix.1 hp).length_le
  have e1 : s.data.toList.length = s.size := by simp
  have e2 : t.data.toList.length = t.size := by simp
  rw [List.length_drop, e1, e2] at hl
  omega

theorem lit_no {s t : ByteArray} {i k : Nat} (h1 : k < t.size) (h2 : i + k < s.size) (h : s[i + k] ≠ t[k]) : litB s.data.toList i t.data.toList = false := by
  rw [litB, Bool.eq_false_iff]
  intro hp
  have hp := List.isPrefixOf_iff_prefix.1 hp
  obtain ⟨r, hr⟩ := hp
  have e1 : (s.data.toList.drop i)[k]? = some s[i + k] := by rw [List.getElem?_drop]; exact get_data s _ h2
  rw [← hr, List.getElem?_append_left (by simpa using h1), get_data t k h1] at e1
  injection e1 with e1
  exact h e1.symm

theorem lit_yes {s t : ByteArray} {i : Nat} (hl : i + t.size ≤ s.size) (h : ∀ k (h1 : k < t.size) (h2 : i + k < s.size), s[i + k] = t[k]) : litB s.data.toList i t.data.toList = true := by
  rw [litB, List.isPrefixOf_iff_prefix, List.prefix_iff_eq_take]
  have e1 : s.data.toList.length = s.size := by simp
  have e2 : t.data.toList.length = t.size := by simp
  refine List.ext_getElem? fun k => ?_
  rw [List.getElem?_take]
  by_cases hk : k < t.size
  · rw [if_pos (by omega), List.getElem?_drop, get_data t k hk, get_data s _ (by omega), h k hk (by omega)]
  · rw [if_neg (by omega), List.getElem?_eq_none (by omega)]

set_option maxHeartbeats 1000000 in
theorem litAt_any (s t : ByteArray) (i : Nat) (w : World) (hs : s.size ≤ 1152921504606846976) (ht : t.size ≤ 1152921504606846976) (hi : i ≤ s.size) :
    Calls Try.prog 28 #[.string s, .int .i64 i, .string t] w fun e w' => e = .returned (.bool (litB s.data.toList i t.data.toList)) ∧ ∃ n, w' = w.drewN n := by
  by_cases hsh : s.size < i + t.size
  · have hx : (s.size : Int) - (i : Int) < (t.size : Int) := by omega
    have hy : ¬ (s.size : Int) < (i : Int) := by omega
    go_enter Try.func28, Try.ntmps28
    go_wp2
    go_ret
    exact ⟨ret_bool (lit_short hi hsh).symm, 0, rfl⟩
  · have hx : ¬ (s.size : Int) - (i : Int) < (t.size : Int) := by omega
    have hy : ¬ (s.size : Int) < (i : Int) := by omega
    go_enter Try.func28, Try.ntmps28
    go_wp2
    go_loopw [7] (fun v wr => ∃ k : Nat, v = .int .i64 k ∧ k ≤ t.size ∧ (∀ j (h1 : j < t.size) (h2 : i + j < s.size), j < k → s[i + j] = t[j]) ∧ ∃ n, wr = w.drewN n) (fun v _ => t.size - (intOf v).toNat)
    case atStart => exact ⟨0, rfl, Nat.zero_le _, fun j h1 h2 h => by omega, 0, rfl⟩
    case round =>
      obtain ⟨k, rfl, hk, hall, n, rfl⟩ := hrel
      have HA : Hid (∀ j (h1 : j < t.size) (h2 : i + j < s.size), j < k → s[i + j] = t[j]) := hall
      clear hall
      by_cases hlt : k < t.size
      · have hlt2 : i + k < s.size := by omega
        have hb1 : (0 : Int) ≤ (i : Int) + (k : Int) := by omega
        have hb2 : (i : Int) + (k : Int) < (s.size : Int) := by omega
        by_cases hq : ((s[i + k].toNat : Int) != (t[k].toNat : Int)) = true
        · go_wp2_with fail
          go_region
          go_wp2
          go_ret
          exact ⟨ret_bool (lit_no hlt hlt2 (fun e => by simp [e] at hq)).symm, n + 1, rfl⟩
        · have hq' : ((s[i + k].toNat : Int) != (t[k].toNat : Int)) = false := by simpa using hq
          have he : s[i + k] = t[k] := by
            have h2 : (s[i + k].toNat : Int) = (t[k].toNat : Int) := by simpa using hq'
            exact UInt8.toNat_inj.1 (by omega)
          have HE : Hid (s[i + k] = t[k]) := he
          clear he hq
          go_wp2_with fail
          go_region
          go_wp2
          go_roundw
          case rel => exact ⟨k + 1, by go_num, by omega, fun j h1 h2 h => if e : j = k then by subst e; exact HE.out else HA.out j h1 h2 (by omega), n + 1, rfl⟩
          case measure => simp [intOf]; omega
      · have : k = t.size := by omega
        subst this
        go_wp2
        go_ret
        exact ⟨ret_bool (lit_yes (by omega) (fun j h1 h2 => HA.out j h1 h2 h1)).symm, n, rfl⟩

/-! ### The same, said of lists -/
theorem size_toList (s : ByteArray) : s.data.toList.length = s.size := by simp

theorem litB_yes (A t R : List UInt8) : litB (A ++ (t ++ R)) A.length t = true := by
  rw [litB, List.drop_left, List.isPrefixOf_iff_prefix]; exact List.prefix_append _ _

/-- t does not stand there: at place k of both another byte. -/
theorem litB_no {A t R : List UInt8} (k : Nat) {x y : UInt8} (ht : t[k]? = some x) (hr : R[k]? = some y) (h : x ≠ y) : litB (A ++ R) A.length t = false := by
  rw [litB, List.drop_left, Bool.eq_false_iff]
  intro hp
  obtain ⟨r, rfl⟩ := List.isPrefixOf_iff_prefix.1 hp
  have hlt : k < t.length := (List.getElem?_eq_some_iff.1 ht).1
  rw [List.getElem?_append_left hlt, ht] at hr
  injection hr with hr
  exact h hr

theorem litB_end {A t : List UInt8} (h : t ≠ []) : litB A A.length t = false := by
  rw [litB, List.drop_length, Bool.eq_false_iff]
  intro hp
  have := List.isPrefixOf_iff_prefix.1 hp
  exact h (List.prefix_nil.1 this)

theorem lit_at (s t : ByteArray) (i : Nat) (b : Bool) (w : World) (hs : s.size ≤ 1152921504606846976) (ht : t.size ≤ 1152921504606846976) (hi : i ≤ s.size) (hb : litB s.data.toList i t.data.toList = b) :
    Calls Try.prog 28 #[.string s, .int .i64 i, .string t] w fun e w' => e = .returned (.bool b) ∧ ∃ n, w' = w.drewN n := by
  rw [← hb]; exact litAt_any s t i w hs ht hi

theorem identEnd_at (s : ByteArray) (A n R : List UInt8) (x : UInt8) (w : World) (hs : s.size ≤ 1152921504606846976) (hd : s.data.toList = A ++ (n ++ x :: R)) (hn : ∀ c ∈ n, idB c = true) (hx : idB x = false) :
    Calls Try.prog 29 #[.string s, .int .i64 A.length] w fun e w' => e = .returned (.int .i64 ((A.length + n.length : Nat) : Int)) ∧ w' = w := by
  have hz := size_toList s
  rw [hd] at hz
  simp only [List.length_append, List.length_cons] at hz
  refine (identEnd_any s A.length w hs (by omega)).mono ?_
  rintro e w' ⟨j, rfl, h1, h2, h3, h4, rfl⟩
  refine ⟨ret_int ?_, rfl⟩
  congr 1
  have get : ∀ k (h : k < s.size), some s[k] = (A ++ (n ++ x :: R))[k]? := fun k h => by rw [← hd, get_data s k h]
  rcases Nat.lt_trichotomy j (A.length + n.length) with hj | hj | hj
  · have hj' : j < s.size := by omega
    have g := get j hj'
    rw [List.getElem?_append_right (by omega), List.getElem?_append_left (by omega)] at g
    have := hn _ (List.mem_of_getElem? g.symm)
    rw [h4 hj'] at this
    cases this
  · exact hj
  · have hk' : A.length + n.length < s.size := by omega
    have g := get (A.length + n.length) hk'
    rw [List.getElem?_append_right (by omega), List.getElem?_append_right (by omega)] at g
    simp only [Nat.add_sub_cancel_left, Nat.sub_self, List.getElem?_cons_zero, Option.some.injEq] at g
    have := h3 (A.length + n.length) hk' (by omega) hj
    rw [g, hx] at this
    cases this
end Go.Proofs.Qxb6600092a
