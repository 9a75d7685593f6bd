import Derived.Test.Qxb6600157aTests
namespace Go.Proofs.Qxb6600157a
open Go.RowKit
set_option linter.unusedVariables false

/-- A segment that sparsest may answer: not nil, not large. -/
def Fine (f : Nat → Seg) (i : Nat) : Prop := (f i).a.isNone = false ∧ (f i).large = false

/-- What sparsest holds before round k: nothing yet, and p still to come; or a fine place b at or before p, empty once p is behind. -/
def Best (f : Nat → Seg) (p k : Nat) (v4 v5 : Value) : Prop :=
  (v4 = .int .u32 0 ∧ v5 = .bool false ∧ k ≤ p) ∨ ∃ b : Nat, v4 = .int .u32 b ∧ v5 = .bool true ∧ b < k ∧ b ≤ p ∧ Fine f b ∧ (p < k → (f b).live = 0)

theorem best_skip {f : Nat → Seg} {p k : Nat} {v4 v5 : Value} (h : Best f p k v4 v5) (hne : k ≠ p) : Best f p (k + 1) v4 v5 := by
  rcases h with ⟨h1, h2, h3⟩ | ⟨b, h1, h2, h3, h4, h5, h6⟩
  · exact .inl ⟨h1, h2, by omega⟩
  · exact .inr ⟨b, h1, h2, by omega, h4, h5, fun h => h6 (by omega)⟩

theorem best_first {f : Nat → Seg} {p k : Nat} (hk : k ≤ p) (hf : Fine f k) (lp : (f p).live = 0) : Best f p (k + 1) (.int .u32 (k : Int)) (.bool true) :=
  .inr ⟨k, rfl, rfl, by omega, hk, hf, fun h => by have : k = p := by omega
                                                   subst this; exact lp⟩

theorem best_less {f : Nat → Seg} {p k b : Nat} (hf : Fine f k) (lp : (f p).live = 0) (hb : p < k → (f b).live = 0) (hl : (f k).live < (f b).live) (h0 : 0 ≤ (f k).live) : Best f p (k + 1) (.int .u32 (k : Int)) (.bool true) := by
  refine best_first ?_ hf lp
  rcases Nat.lt_or_ge p k with h | h
  · have := hb h
    omega
  · exact h

theorem best_keep {f : Nat → Seg} {p k b : Nat} (hbk : b < k) (hbp : b ≤ p) (fb : Fine f b) (lp : (f p).live = 0) (hb : p < k → (f b).live = 0) (hl : ¬ (f k).live < (f b).live) (h0 : 0 ≤ (f b).live) : Best f p (k + 1) (.int .u32 (b : Int)) (.bool true) := by
  refine .inr ⟨b, rfl, rfl, by omega, hbp, fb, fun h => ?_⟩
  rcases Nat.lt_or_ge p k with h1 | h1
  · exact hb h1
  · have : k = p := by omega
    subst this
    omega

set_option maxRecDepth 100000 in
set_option maxHeartbeats 2000000 in
theorem sparsest_any (w : World) (B A S sc I ic sn : Nat) (f : Nat → Seg) (n : Nat) (idl : Nat → Int) (hd : Nat) (hh : Bool) (p : Nat) (H : Arena w B A S sc I ic sn f n idl hd hh) (hB : B ≤ w.heap.size) (hsn : sn ≤ 131072)
    (hp : p < sn) (fp : Fine f p) (lp : (f p).live = 0) (np : hh = true → hd ≠ p) (all : ∀ i, i < sn → 0 ≤ (f i).live) :
    Calls Try.prog 30 #[.pointer (some ⟨A, 0, none⟩)] w fun e w' => ∃ b : Nat, e = .returned (.tuple #[.int .u32 (b : Int), .bool true]) ∧ b ≤ p ∧ Fine f b ∧ (f b).live = 0 ∧ Arena w' B A S sc I ic sn f n idl hd hh ∧ Below B w w' := by
  have FP : Hid (Fine f p) := fp
  have NP : Hid (hh = true → hd ≠ p) := np
  have ALL : Hid (∀ i, i < sn → 0 ≤ (f i).live) := all
  have LP : Hid ((f p).live = 0) := lp
  clear fp np all lp
  obtain ⟨c0, _⟩ := H.cells
  go_enter Try.func30, Try.ntmps30
  go_wp2_with fail
  go_loopw [4, 5, 13] (fun v4 v5 i wr => ∃ k : Nat, k ≤ sn ∧ i = .int .i64 k ∧ Best f p k v4 v5 ∧ Arena wr B A S sc I ic sn f n idl hd hh ∧ Below B w wr ∧ B ≤ wr.heap.size) (fun _ _ i _ => sn - (intOf i).toNat)
  case atStart => exact ⟨0, Nat.zero_le _, rfl, .inl ⟨rfl, rfl, Nat.zero_le _⟩, H, Below.refl _ _, hB⟩
  case round =>
  obtain ⟨k, hk, rfl, hbest, ar, hb, hz⟩ := hrel
  clear H hB c0
  by_cases hlt : k < sn
  · obtain ⟨c0, c1, c2, c3, _, _⟩ := ar.cells
    obtain ⟨s0, s1, s2⟩ := ar.seg hlt
    have hAl := ar.ltA
    have hSl := ar.ltS
    have heq : ∀ wx, (binOp .eql 23 (.slice (f k).a 0 (f k).c) (.slice none 0 0)).run Try.prog wx = _ := fun wx => Lib.run_eql_slice_nil (P := Try.prog) wx 23 5 (f k).a 0 (f k).c 0 0 Try.underlying23
    have AR : Hid (Arena wr B A S sc I ic sn f n idl hd hh) := ar
    have HB : Hid (Best f p k u4 u5) := hbest
    clear ar hbest
    clear c1
    by_cases g0 : (f k).a.isNone = true
    · have hne : k ≠ p := by rintro rfl; rw [FP.out.1] at g0; cases g0
      go_wp2
      go_roundw
      case rel => exact ⟨k + 1, by omega, by go_num, best_skip HB.out hne, AR.out.alloc _, hb.alloc hz _, by simp; omega⟩
      case measure => simp [intOf]; omega
    · replace g0 : (f k).a.isNone = false := (Bool.not_eq_true _).mp g0
      by_cases g1 : (f k).large = true
      · have hne : k ≠ p := by rintro rfl; rw [FP.out.2] at g1; cases g1
        go_wp2
        go_roundw
        case rel => exact ⟨k + 1, by omega, by go_num, best_skip HB.out hne, AR.out.alloc _, hb.alloc hz _, by simp; omega⟩
        case measure => simp [intOf]; omega
      · replace g1 : (f k).large = false := by simpa using g1
        have FK : Hid (Fine f k) := ⟨g0, g1⟩
        have LK : Hid (0 ≤ (f k).live) := ALL.out k hlt
        have hcase : (hh = true ∧ hd = k) ∨ hh = false ∨ (hh = true ∧ ((k : Int) == (hd : Int)) = false) := by
          cases hh with
          | false => exact .inr (.inl rfl)
          | true =>
            by_cases e : hd = k
            · exact .inl ⟨rfl, e⟩
            · refine .inr (.inr ⟨rfl, ?_⟩)
              simp
              omega
        rcases hcase with ⟨rfl, rfl⟩ | hc
        · have hne : hd ≠ p := NP.out rfl
          have hkk : ((hd : Int) == (hd : Int)) = true := by simp
          go_wp2
          go_roundw
          case rel => exact ⟨hd + 1, by omega, by go_num, best_skip HB.out hne, AR.out.alloc _, hb.alloc hz _, by simp; omega⟩
          case measure => simp [intOf]; omega
        · rcases HB.out with ⟨rfl, rfl, hkp⟩ | ⟨b, rfl, rfl, hbk, hbp, fb, lb⟩
          · clear HB
            rcases hc with rfl | ⟨rfl, hkk⟩
            all_goals
              go_wp2_with fail
              go_quiet (fail)
              go_wp2
              go_roundw
              case rel => exact ⟨k + 1, by omega, by go_num, best_first hkp FK.out LP.out, (AR.out.alloc _).drewN _, bel_drewN (hb.alloc hz _) _, by simp; omega⟩
              case measure => simp [intOf]; omega
          · clear HB
            have LB : Hid (p < k → (f b).live = 0) := lb
            have FB : Hid (Fine f b) := fb
            have hbl : b < sn := by omega
            have L0 : Hid (0 ≤ (f b).live) := ALL.out b hbl
            obtain ⟨_, b1, _⟩ := AR.out.seg hbl
            clear lb fb
            by_cases hl : (f k).live < (f b).live
            · rcases hc with rfl | ⟨rfl, hkk⟩
              all_goals
                go_wp2_with fail
                go_quiet (fail)
                go_wp2
                go_roundw
                case rel => exact ⟨k + 1, by omega, by go_num, best_less FK.out LP.out LB.out hl LK.out, (AR.out.alloc _).drewN _, bel_drewN (hb.alloc hz _) _, by simp; omega⟩
                case measure => simp [intOf]; omega
            · rcases hc with rfl | ⟨rfl, hkk⟩
              all_goals
                go_wp2_with fail
                go_quiet (fail)
                go_wp2
                go_roundw
                case rel => exact ⟨k + 1, by omega, by go_num, best_keep hbk hbp FB.out LP.out LB.out (by omega) L0.out, (AR.out.alloc _).drewN _, bel_drewN (hb.alloc hz _) _, by simp; omega⟩
                case measure => simp [intOf]; omega
  · rcases hbest with ⟨_, _, hkp⟩ | ⟨b, rfl, rfl, hbk, hbp, fb, lb⟩
    · omega
    · have LB : Hid ((f b).live = 0) := lb (by omega)
      have FB : Hid (Fine f b) := fb
      have AR : Hid (Arena wr B A S sc I ic sn f n idl hd hh) := ar
      clear lb fb ar
      go_wp2
      exact bodyPost_ret (v := .tuple #[.int .u32 (b : Int), .bool true]) (by simp [results, Try.results30, go_sem]) rfl ⟨b, rfl, hbp, FB.out, LB.out, AR.out, hb⟩

set_option maxHeartbeats 400000 in
theorem zsparsest_any (w : World) (B A S sc I ic sn : Nat) (f : Nat → Seg) (n : Nat) (idl : Nat → Int) (hd : Nat) (hh : Bool) (p : Nat) (H : Arena w B A S sc I ic sn f n idl hd hh) (hB : B ≤ w.heap.size) (hsn : sn ≤ 131072)
    (hp : p < sn) (fp : Fine f p) (lp : (f p).live = 0) (np : hh = true → hd ≠ p) (all : ∀ i, i < sn → 0 ≤ (f i).live) :
    Calls Try.prog 15 #[.pointer (some ⟨A, 0, none⟩)] w fun e w' => ∃ b : Nat, e = .returned (.tuple #[.int .u32 (b : Int), .bool true]) ∧ b ≤ p ∧ Fine f b ∧ (f b).live = 0 ∧ Arena w' B A S sc I ic sn f n idl hd hh ∧ Below B w w' := by
  have FP : Hid (Fine f p) := fp
  have NP : Hid (hh = true → hd ≠ p) := np
  have ALL : Hid (∀ i, i < sn → 0 ≤ (f i).live) := all
  have LP : Hid ((f p).live = 0) := lp
  clear fp np all lp
  go_enter Try.func15, Try.ntmps15
  go_wp2_with fail
  refine (sparsest_any w B A S sc I ic sn f n idl hd hh p H hB hsn hp FP.out LP.out NP.out ALL.out).mono ?_
  rintro e w1 ⟨b, rfl, h1, h2, h3, h4, h5⟩
  have F : Hid (Fine f b) := h2
  have L : Hid ((f b).live = 0) := h3
  clear h2 h3
  go_wp2
  exact bodyPost_ret (v := .tuple #[.int .u32 (b : Int), .bool true]) (by simp [results, Try.results15, go_sem]) rfl ⟨b, rfl, h1, F.out, L.out, h4, h5⟩

/-- What the law needs of the arena with its new segment at p. -/
theorem fresh {lv kd : Nat → Int} {kn s n : Nat} {id : Nat → Int} {hd : Nat} {hh : Bool} {f : Nat → Seg} {p size g : Nat} (hok : ∀ i, i < s → SegOk lv kd kn f i) (hlv : ∀ j, j < s → 0 ≤ lv j) (hhd : HeadOk kd kn s hd hh)
    (hback : ∀ j, j < n → Back kd kn (id j).toNat) (hp : (∃ k, n = k + 1 ∧ id k = p ∧ p < s) ∨ (n = 0 ∧ p = s)) :
    p < (if n = 0 then s + 1 else s) ∧ Fine (upd f p ⟨some ⟨g, 0, none⟩, size, 0, false⟩) p ∧ ((upd f p ⟨some ⟨g, 0, none⟩, size, 0, false⟩) p).live = 0 ∧ (hh = true → hd ≠ p) ∧
      (∀ i, i < (if n = 0 then s + 1 else s) → 0 ≤ ((upd f p ⟨some ⟨g, 0, none⟩, size, 0, false⟩) i).live) := by
  refine ⟨?_, ⟨by simp [upd], by simp [upd]⟩, by simp [upd], fun h => ?_, fun i hi => ?_⟩
  · rcases hp with ⟨k, rfl, _, h⟩ | ⟨rfl, rfl⟩
    · rw [if_neg (by omega)]; exact h
    · rw [if_pos rfl]; omega
  · obtain ⟨h', e1, e2, e3⟩ := hhd h
    have e4 : hd = h' := by omega
    subst e4
    rintro rfl
    rcases hp with ⟨k, rfl, h1, _⟩ | ⟨_, h1⟩
    · have := hback k (by omega)
      rw [h1] at this
      exact e3 (by simpa using this)
    · omega
  · unfold upd
    by_cases e : i = p
    · rw [if_pos e]
      show (0 : Int) ≤ 0
      omega
    · rw [if_neg e]
      have his : i < s := by
        rcases hp with ⟨k, rfl, _, h⟩ | ⟨rfl, rfl⟩
        · rw [if_neg (by omega)] at hi; exact hi
        · rw [if_pos rfl] at hi; omega
      rw [(hok i his).live]
      exact hlv i his
end Go.Proofs.Qxb6600157a
