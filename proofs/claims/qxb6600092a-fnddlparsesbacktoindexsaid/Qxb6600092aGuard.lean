import Derived.Test.Qxb6600092aClone
import Derived.Test.Qxb6600092aList
import Derived.Deep.Cut
namespace Go.Proofs.Qxb6600092a
open Go.RowKit
set_option linter.unusedVariables false

/-- A bool came back; where it is true, P holds. -/
def BoolIf (e : Ending) (P : Prop) : Prop := ∃ r : Bool, e = .returned (.bool r) ∧ (r = true → P)
theorem BoolIf.no {P : Prop} : BoolIf (.returned (.bool false)) P := ⟨false, rfl, by simp⟩
theorem BoolIf.yes {P : Prop} (h : P) : BoolIf (.returned (.bool true)) P := ⟨true, rfl, fun _ => h⟩

set_option maxRecDepth 100000 in
set_option maxHeartbeats 1000000 in
theorem zz14_any (n t : ByteArray) (a : Option Addr) (m cap : Nat) (nm : Nat → ByteArray) (u : Bool) (a4 : Option Addr) (l4 c4 : Nat) (a5 : Option Addr) (l5 c5 : Nat) (a6 : Option Addr) (l6 c6 : Nat) (w : World)
    (h : InF w a m (fun j => .string (nm j))) (hm : m ≤ 9223372036854775807) :
    Calls Try.prog 14 #[.string n, .string t, .slice a m cap, .bool u, .slice a4 l4 c4, .slice a5 l5 c5, .slice a6 l6 c6] w fun e w' => BoolIf e True ∧ w' = w := by
  go_enter Try.func14, Try.ntmps14
  go_wp2
  all_goals first | (go_ret; exact ⟨BoolIf.no, rfl⟩) | skip
  go_loop [15, 16] (fun z i => ∃ (k : Nat) (y : Int), k ≤ m ∧ i = .int .i64 k ∧ z = .int .i64 y ∧ 0 ≤ y ∧ y ≤ 1048576) (fun _ i => m - (intOf i).toNat)
  case atStart => exact ⟨0, _, Nat.zero_le _, rfl, rfl, by omega, by omega⟩
  case round =>
    obtain ⟨k, y, hk, rfl, rfl, hy0, hy1⟩ := hrel
    by_cases hlt : k < m
    · obtain ⟨b, off, rfl, hbl, hc⟩ := h.resolve_left (by omega)
      have x0 := hc k hlt
      by_cases hz : (nm k).size ≤ 1048576
      · go_wp2
        · go_ret
          exact ⟨BoolIf.no, rfl⟩
        · go_round
          case rel => exact ⟨k + 1, _, by omega, by go_num, rfl, by omega, by omega⟩
          case measure => simp [intOf]; omega
      · go_wp2
        go_ret
        exact ⟨BoolIf.no, rfl⟩
    · go_wp2
      all_goals (go_ret; exact ⟨⟨_, rfl, fun _ => trivial⟩, rfl⟩)

/-- Every key and every stored column names a column; a flag for each key. -/
def RangeOk (l4 l5 l6 m : Nat) (ci si : Nat → Int) : Prop := l4 ≤ l5 ∧ (∀ j, j < l4 → 0 ≤ ci j ∧ ci j < m) ∧ (∀ j, j < l6 → 0 ≤ si j ∧ si j < m)

set_option maxRecDepth 100000 in
set_option maxHeartbeats 1000000 in
theorem range_any (a : Option Addr) (m cap : Nat) (a4 : Option Addr) (l4 c4 : Nat) (a5 : Option Addr) (l5 c5 : Nat) (a6 : Option Addr) (l6 c6 : Nat) (ci si : Nat → Int) (w : World)
    (h4 : InF w a4 l4 (fun j => .int .i64 (ci j))) (h6 : InF w a6 l6 (fun j => .int .i64 (si j))) (hm4 : l4 ≤ 65536) (hm6 : l6 ≤ 65536) (hm : m ≤ 65536) :
    Calls Try.prog 15 #[.slice a m cap, .slice a4 l4 c4, .slice a5 l5 c5, .slice a6 l6 c6] w fun e w' => BoolIf e (RangeOk l4 l5 l6 m ci si) ∧ w' = w := by
  by_cases hd : l4 ≤ l5
  · go_enter Try.func15, Try.ntmps15
    go_wp2
    go_loop [9] (fun i => ∃ k : Nat, k ≤ l4 ∧ i = .int .i64 k ∧ (∀ j, j < k → 0 ≤ ci j ∧ ci j < m)) (fun i => l4 - (intOf i).toNat)
    case atStart => exact ⟨0, Nat.zero_le _, rfl, fun j hj => by omega⟩
    case round =>
      obtain ⟨k, hk, rfl, hall⟩ := hrel
      have HA : Hid (∀ j, j < k → 0 ≤ ci j ∧ ci j < m) := hall
      clear hall
      by_cases hlt : k < l4
      · obtain ⟨b, off, rfl, hbl, hc⟩ := h4.resolve_left (by omega)
        have x0 := hc k hlt
        by_cases g0 : 0 ≤ ci k
        · by_cases g1 : ci k < m
          · go_wp2
            go_round
            case rel => exact ⟨k + 1, by omega, by go_num, fun j hj => if e : j = k then by subst e; exact ⟨g0, g1⟩ else HA.out j (by omega)⟩
            case measure => simp [intOf]; omega
          · go_wp2
            go_ret
            exact ⟨BoolIf.no, rfl⟩
        · go_wp2
          go_ret
          exact ⟨BoolIf.no, rfl⟩
      · have : k = l4 := by omega
        subst this
        go_wp2
        go_loop [10] (fun i => ∃ k : Nat, k ≤ l6 ∧ i = .int .i64 k ∧ (∀ j, j < k → 0 ≤ si j ∧ si j < m)) (fun i => l6 - (intOf i).toNat)
        case atStart => exact ⟨0, Nat.zero_le _, rfl, fun j hj => by omega⟩
        case round =>
          obtain ⟨k', hk', rfl, hall⟩ := hrel
          have HB : Hid (∀ j, j < k' → 0 ≤ si j ∧ si j < m) := hall
          clear hall
          by_cases hlt' : k' < l6
          · obtain ⟨b, off, rfl, hbl, hc⟩ := h6.resolve_left (by omega)
            have x0 := hc k' hlt'
            by_cases g0 : 0 ≤ si k'
            · by_cases g1 : si k' < m
              · go_wp2
                go_round
                case rel => exact ⟨k' + 1, by omega, by go_num, fun j hj => if e : j = k' then by subst e; exact ⟨g0, g1⟩ else HB.out j (by omega)⟩
                case measure => simp [intOf]; omega
              · go_wp2
                go_ret
                exact ⟨BoolIf.no, rfl⟩
            · go_wp2
              go_ret
              exact ⟨BoolIf.no, rfl⟩
          · have : k' = l6 := by omega
            subst this
            go_wp2
            go_ret
            exact ⟨BoolIf.yes ⟨hd, HA.out, HB.out⟩, rfl⟩
  · go_enter Try.func15, Try.ntmps15
    go_wp2
    go_ret
    exact ⟨BoolIf.no, rfl⟩

set_option maxRecDepth 100000 in
set_option maxHeartbeats 1000000 in
theorem fits_any (n t : ByteArray) (a : Option Addr) (m cap : Nat) (nm : Nat → ByteArray) (a4 : Option Addr) (l4 c4 : Nat) (a6 : Option Addr) (l6 c6 : Nat) (ci si : Nat → Int) (w : World)
    (h : InF w a m (fun j => .string (nm j))) (h4 : InF w a4 l4 (fun j => .int .i64 (ci j))) (h6 : InF w a6 l6 (fun j => .int .i64 (si j))) (hm4 : l4 ≤ 65536) (hm6 : l6 ≤ 65536) (hm : m ≤ 65536)
    (r4 : ∀ j, j < l4 → 0 ≤ ci j ∧ ci j < m) (r6 : ∀ j, j < l6 → 0 ≤ si j ∧ si j < m) (bn : n.size ≤ 1048576) (bt : t.size ≤ 1048576) (bm : ∀ i, i < m → (nm i).size ≤ 1048576) :
    Calls Try.prog 16 #[.string n, .string t, .slice a m cap, .slice a4 l4 c4, .slice a6 l6 c6] w fun e w' => BoolIf e True ∧ w' = w := by
  have R4 : Hid (∀ j, j < l4 → 0 ≤ ci j ∧ ci j < m) := r4
  have R6 : Hid (∀ j, j < l6 → 0 ≤ si j ∧ si j < m) := r6
  have BM : Hid (∀ i, i < m → (nm i).size ≤ 1048576) := bm
  clear r4 r6 bm
  go_enter Try.func16, Try.ntmps16
  go_upto_if 21 with fail
  have hz0 : 0 ≤ (n.size : Int) + (t.size : Int) + 64 := by omega
  have hz1 : (n.size : Int) + (t.size : Int) + 64 ≤ 4194304 := by omega
  generalize (n.size : Int) + (t.size : Int) + 64 = z at hz0 hz1 ⊢
  go_wp2
  · go_ret
    exact ⟨BoolIf.no, rfl⟩
  go_loop [11, 12] (fun z i => ∃ (k : Nat) (y : Int), k ≤ l4 ∧ i = .int .i64 k ∧ z = .int .i64 y ∧ 0 ≤ y ∧ y ≤ 1048576) (fun _ i => l4 - (intOf i).toNat)
  case atStart => exact ⟨0, _, Nat.zero_le _, rfl, rfl, by omega, by omega⟩
  case round =>
    obtain ⟨k, y, hk, rfl, rfl, hy0, hy1⟩ := hrel
    by_cases hlt : k < l4
    · obtain ⟨b, off, rfl, hbl, hc⟩ := h4.resolve_left (by omega)
      have hr := R4.out k hlt
      obtain ⟨b', off', rfl, hbl', hc'⟩ := h.resolve_left (by omega)
      obtain ⟨x, hx⟩ := Int.eq_ofNat_of_zero_le hr.1
      have hxm : x < m := by omega
      have bx := BM.out x hxm
      have x0 : w.cell? ⟨b, off + k, none⟩ = some (.int .i64 (x : Int)) := by rw [← hx]; exact hc k hlt
      have x1 := hc' x hxm
      clear hx hr hc hc'
      go_wp2
      · go_ret
        exact ⟨BoolIf.no, rfl⟩
      · go_round
        case rel => exact ⟨k + 1, _, by omega, by go_num, rfl, by omega, by omega⟩
        case measure => simp [intOf]; omega
    · go_wp2
      go_loop [11, 13] (fun z i => ∃ (k : Nat) (y : Int), k ≤ l6 ∧ i = .int .i64 k ∧ z = .int .i64 y ∧ 0 ≤ y ∧ y ≤ 1048576) (fun _ i => l6 - (intOf i).toNat)
      case atStart => exact ⟨0, _, Nat.zero_le _, rfl, rfl, by omega, by omega⟩
      case round =>
        obtain ⟨k', y', hk', rfl, rfl, hy0', hy1'⟩ := hrel
        by_cases hlt' : k' < l6
        · obtain ⟨b, off, rfl, hbl, hc⟩ := h6.resolve_left (by omega)
          have hr := R6.out k' hlt'
          obtain ⟨b', off', rfl, hbl', hc'⟩ := h.resolve_left (by omega)
          obtain ⟨x, hx⟩ := Int.eq_ofNat_of_zero_le hr.1
          have hxm : x < m := by omega
          have bx := BM.out x hxm
          have x0 : w.cell? ⟨b, off + k', none⟩ = some (.int .i64 (x : Int)) := by rw [← hx]; exact hc k' hlt'
          have x1 := hc' x hxm
          clear hx hr hc hc'
          go_wp2
          · go_ret
            exact ⟨BoolIf.no, rfl⟩
          · go_round
            case rel => exact ⟨k' + 1, _, by omega, by go_num, rfl, by omega, by omega⟩
            case measure => simp [intOf]; omega
        · go_wp2
          go_ret
          exact ⟨BoolIf.yes trivial, rfl⟩

set_option maxRecDepth 100000 in
set_option maxHeartbeats 1000000 in
theorem ok_any (s : ByteArray) (w : World) (hs : s.size ≤ 1048576) :
    Calls Try.prog 17 #[.string s] w fun e w' => BoolIf e (NameOk s.data.toList) ∧ w' = w := by
  by_cases h0 : s.size = 0
  · go_enter Try.func17, Try.ntmps17
    go_wp2
    go_ret
    exact ⟨BoolIf.no, rfl⟩
  · have h1 : 0 < s.size := by omega
    have h2 : ((s.size : Int) == 0) = false := by rw [beq_eq_false_iff_ne]; omega
    clear h0
    go_enter Try.func17, Try.ntmps17
    go_wp2
    go_loop [3] (fun i => ∃ k : Nat, k ≤ s.size ∧ i = .int .i64 k ∧ (∀ j (h : j < s.size), j < k → idB s[j] = true)) (fun i => s.size - (intOf i).toNat)
    case atStart => exact ⟨0, Nat.zero_le _, rfl, fun j h hj => by omega⟩
    case round =>
      obtain ⟨k, hk, rfl, hall⟩ := hrel
      have HA : Hid (∀ j (h : j < s.size), j < k → idB s[j] = true) := hall
      clear hall
      by_cases hlt : k < s.size
      · by_cases hq : idB s[k] = true
        · go_wp2_with (go_at_call 25; refine (idb_any s[k] _).mono ?_; rintro e w' ⟨rfl, rfl⟩)
          go_round
          case rel => exact ⟨k + 1, by omega, by go_num, fun j h hj => if e : j = k then by subst e; exact hq else HA.out j h (by omega)⟩
          case measure => simp [intOf]; omega
        · have hq' : idB s[k] = false := by simpa using hq
          go_wp2_with (go_at_call 25; refine (idb_any s[k] _).mono ?_; rintro e w' ⟨rfl, rfl⟩)
          go_ret
          exact ⟨BoolIf.no, rfl⟩
      · have : k = s.size := by omega
        go_wp2
        go_ret
        refine ⟨BoolIf.yes ⟨?_, ?_⟩, rfl⟩
        · intro e
          have := size_toList s
          rw [e] at this
          simp at this
          omega
        · intro c hc
          obtain ⟨j, hj⟩ := List.getElem?_of_mem hc
          have hjl : j < s.size := by rw [← size_toList s]; exact (List.getElem?_eq_some_iff.1 hj).1
          rw [get_data s j hjl] at hj
          injection hj with hj
          rw [← hj]
          exact HA.out j hjl (by omega)
end Go.Proofs.Qxb6600092a
