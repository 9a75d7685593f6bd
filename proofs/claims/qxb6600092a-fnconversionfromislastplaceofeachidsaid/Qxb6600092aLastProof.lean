/-
  'Rows.FnConversionFromIsLastPlaceOfEachIDSaid': for every input the law returns true and leaves its arguments as they were. The frame is the shell that the kit's tool wrote for this function; the walk is ours.
-/
import Derived.Test.Qxb6600092aIn
import Derived.WalkKit
import Derived.ProofKit
import Derived.OpenShut
import Derived.ShutString
import Derived.ChangeOld
import Derived.Below
namespace Go.Proofs.Qxb6600092a.fnConversionFromIsLastPlaceOfEachID
open Go.ChangeShapes Go.WideShapes Go.ChangeAt Go.RowKit
open Go.ChangeMaps (open_string shut_string)
set_option linter.unusedVariables false

theorem own : ownKnob Try.prog.godebug = none := by kernel_rfl
theorem laidOut : laidOutB Try.prog = true := by kernel_rfl

/-! ### The walk: it returns true, and writes nothing that was there -/
theorem last_miss {z : List Int} {x : Int} {y : Int} {m : Nat} (h : y = lastIdx z (m + 1) x) (hq : (z[m]?.getD 0 == x) = false) : y = lastIdx z m x := by
  rw [h, lastIdx, List.getD_eq_getElem?_getD, if_neg (by simpa using hq)]

set_option maxRecDepth 100000 in
set_option maxHeartbeats 1000000 in
theorem main (a0 : Option Addr) (len0 cap0 : Nat) (z0 : List Int) (a1 : Option Addr) (len1 cap1 : Nat) (z1 : List Int) (w : World) (w0 : InInts w a0 len0 z0) (w1 : InInts w a1 len1 z1)
    (f0 : ∀ n ∈ z0, (Lit.int .i64 n).wf = true) (f1 : ∀ n ∈ z1, (Lit.int .i64 n).wf = true) (h0 : len0 ≤ 65536) (h1 : len1 ≤ 65536) (hs : len0 + len1 ≤ 131072) :
    Calls Try.prog 3 #[.slice a0 len0 cap0, .slice a1 len1 cap1] w fun e w' => e = .returned (.bool true) ∧ Below w.heap.size w w' := by
  go_enter Try.func3, Try.ntmps3
  go_wp2_with fail
  refine (zz8_yes _ _ _ _ _ _ _ (by omega)).mono ?_
  rintro e w ⟨rfl, rfl⟩
  go_wp2_with fail
  refine (cols_any a0 len0 cap0 z0 _ w0 h0).mono ?_
  rintro e w2 ⟨rfl, r0, b2⟩
  have sz2 := r0.lt
  go_wp2_with fail
  refine (cols_any a1 len1 cap1 z1 _ (by exact (w1.below (b2.alloc (Nat.le_of_lt sz2) _))) h1).mono ?_
  rintro e w4 ⟨rfl, r1, b4⟩
  have sz4 := r1.lt
  have hB4 : Below w.heap.size w w4 := (b2.alloc (Nat.le_of_lt sz2) _).trans (b4.mono (by simp; omega))
  have t4 := (Tab.new r0 (.string ⟨#[]⟩) (.string ⟨#[]⟩) (.slice none 0 0) (.slice none 0 0) (.slice none 0 0) (.pointer none) (.map none) (.int .i64 0) 32).below b4
  clear b4
  simp only [World.size_alloc] at r1 sz4
  go_wp2_with fail
  refine (conv_tab (by exact t4.alloc _) (by exact Tab.new r1 _ _ _ _ _ _ _ _ _) h0 h1 f0 f1).mono ?_
  rintro e w5 ⟨g, rfl, hg, hrow, b5⟩
  have hB : Below w.heap.size w w5 := (hB4.alloc (by omega) _).trans (b5.mono (by simp; omega))
  simp only [World.size_alloc] at hg
  have hg' : w.heap.size ≤ g := by omega
  clear b5 hB4 t4 r1 sz4 r0 b2 hg sz2
  go_wp2_with fail
  go_loopw [8] (fun i wr => ∃ k : Nat, k ≤ len0 ∧ i = .int .i64 k ∧ Below w.heap.size w wr ∧ wr.rowIs g 3 len0 (fun i => .int .i64 (lastIdx z1 len1 (z0.getD i 0))))
    (fun i _ => len0 - (intOf i).toNat)
  case atStart => exact ⟨0, Nat.zero_le _, rfl, hB, hrow⟩
  case round =>
    obtain ⟨k, hk, rfl, hb, hr⟩ := hrel
    clear hrow hB
    by_cases hlt : k < len0
    · obtain ⟨b0, off0, rfl, hb0, hc0⟩ := w0.resolve_left (by omega)
      have hx0 := hc0 k hlt
      go_wp2_with fail
      go_loopw [9, 10] (fun v j wx => ∃ m : Nat, m ≤ len1 ∧ j = .int .i64 ((m : Int) - 1) ∧ v = .int .i64 (-1) ∧ lastIdx z1 len1 (z0[k]?.getD 0) = lastIdx z1 m (z0[k]?.getD 0) ∧ Below w.heap.size w wx ∧ wx.rowIs g 3 len0 (fun i => .int .i64 (lastIdx z1 len1 (z0.getD i 0))))
        (fun _ j _ => (intOf j + 1).toNat)
      case atStart => exact ⟨len1, Nat.le_refl _, rfl, rfl, rfl, hb, hr⟩
      case round =>
        obtain ⟨m, hm, rfl, rfl, he, hb', hr'⟩ := hrel
        have HE : Hid (lastIdx z1 len1 (z0[k]?.getD 0) = lastIdx z1 m (z0[k]?.getD 0)) := he
        clear he hb hr
        rcases m with _ | m
        · have hcv : wr.cell? ⟨g, k, none⟩ = some (.int .i64 (-1)) := by rw [hr'.cell hlt, List.getD_eq_getElem?_getD, HE.out]; rfl
          go_wp2
          go_roundw
          case rel => exact ⟨k + 1, by omega, by go_num, hb', hr'⟩
          case measure => simp [intOf]; omega
        · obtain ⟨b1, off1, rfl, hb1, hc1⟩ := w1.resolve_left (by omega)
          have hx1 : wr.cell? ⟨b1, off1 + m, none⟩ = some (.int .i64 (z1.getD m 0)) := (hb'.cell (by exact hb1)).trans (hc1 m (by omega))
          have hx0' : wr.cell? ⟨b0, off0 + k, none⟩ = some (.int .i64 (z0.getD k 0)) := (hb'.cell (by exact hb0)).trans hx0
          by_cases hq : (z1[m]?.getD 0 == z0[k]?.getD 0) = true
          · have hcv : wr.cell? ⟨g, k, none⟩ = some (.int .i64 m) := by
              rw [hr'.cell hlt, List.getD_eq_getElem?_getD, HE.out]; unfold lastIdx; rw [List.getD_eq_getElem?_getD, if_pos (by simpa using hq)]
            go_wp2_with fail
            go_quiet (fail)
            go_wp2
            go_roundw
            case rel => exact ⟨k + 1, by omega, by go_num, bel_drewN hb' _, rowIs_drewN hr' _⟩
            case measure => simp [intOf]; omega
          · have hq' : (z1[m]?.getD 0 == z0[k]?.getD 0) = false := by simpa using hq
            go_wp2_with fail
            go_quiet (fail)
            go_wp2
            go_roundw
            case rel => exact ⟨m, by omega, by go_num, rfl, last_miss HE.out hq', bel_drewN hb' _, rowIs_drewN hr' _⟩
            case measure => simp [intOf]
    · have : k = len0 := by omega
      subst this
      go_wp2
      go_ret
      exact ⟨rfl, hb⟩

set_option maxRecDepth 100000 in
set_option maxHeartbeats 1000000 in
theorem early (a0 : Option Addr) (len0 cap0 : Nat) (a1 : Option Addr) (len1 cap1 : Nat) (w : World) (m0 : len0 ≤ 9223372036854775807) (m1 : len1 ≤ 9223372036854775807) (h : ¬ (len0 ≤ 65536 ∧ len1 ≤ 65536 ∧ len0 + len1 ≤ 131072)) :
    Calls Try.prog 3 #[.slice a0 len0 cap0, .slice a1 len1 cap1] w fun e w' => e = .returned (.bool true) ∧ Below w.heap.size w w' := by
  by_cases hz : len0 + len1 ≤ 1048576
  · by_cases g0 : len0 ≤ 65536
    · have g1 : ¬ len1 ≤ 65536 := by omega
      go_enter Try.func3, Try.ntmps3
      go_wp2_with fail
      refine (zz8_yes _ _ _ _ _ _ _ (by omega)).mono ?_
      rintro e w ⟨rfl, rfl⟩
      go_wp2_with fail
      go_ret
      exact ⟨rfl, Below.refl _ _⟩
    · go_enter Try.func3, Try.ntmps3
      go_wp2_with fail
      refine (zz8_yes _ _ _ _ _ _ _ (by omega)).mono ?_
      rintro e w ⟨rfl, rfl⟩
      go_wp2_with fail
      go_ret
      exact ⟨rfl, Below.refl _ _⟩
  · go_enter Try.func3, Try.ntmps3
    go_wp2_with fail
    refine (zz8_no _ _ _ _ _ _ _ hz m0 m1).mono ?_
    rintro e w ⟨rfl, rfl⟩
    go_wp2_with fail
    go_ret
    exact ⟨rfl, Below.refl _ _⟩

theorem walk (a0 : Option Addr) (len0 cap0 : Nat) (z0 : List Int) (a1 : Option Addr) (len1 cap1 : Nat) (z1 : List Int) (w : World) (w0 : IsRow .i64 w a0 len0 cap0 z0) (w1 : IsRow .i64 w a1 len1 cap1 z1) :
    Calls Try.prog 3 #[.slice a0 len0 cap0, .slice a1 len1 cap1] w fun e w' => e = .returned (.bool true) ∧ Below w.heap.size w w' := by
  obtain ⟨i0, m0, f0⟩ := w0.ins
  obtain ⟨i1, m1, f1⟩ := w1.ins
  by_cases h : len0 ≤ 65536 ∧ len1 ≤ 65536 ∧ len0 + len1 ≤ 131072
  · exact main a0 len0 cap0 z0 a1 len1 cap1 z1 w i0 i1 f0 f1 h.1 h.2.1 h.2.2
  · exact early a0 len0 cap0 a1 len1 cap1 w m0 m1 h


/-! ### The row's step -/
set_option maxRecDepth 100000 in
theorem lifted (os : Os) (started : os.Started) (H : Type) (enc : TypeId × Value → H) :
    ReturnsInHanded {} Try.checked os 3 .any (Rows.fnConversionFromIsLastPlaceOfEachIDSpec.pre6 enc Try.prog Try.f3 Rows.fnConversionFromIsLastPlaceOfEachIDRow.domain false) (Rows.fnConversionFromIsLastPlaceOfEachIDSpec.post enc Try.prog Try.f3 false true false false) := by
  refine returnsInHanded_of_change (C := Try.checked) own started (by kernel_rfl) Try.func3
    (ChangeSpec.witness6 (enc := enc) (C := Try.checked) false ⟨#[], #[.slice none 0 0, .slice none 0 0], []⟩ 8 (by kernel_rfl) (by kernel_rfl) (by kernel_rfl) (by kernel_rfl)) ?_
  intro W base args ds gs before hval0 hW hcnd _
  have hval : ∀ (j : Nat) t v, Try.f3.params[j]? = some t → args[j]? = some v → Value.okWide Try.prog W .any base t v := hval0
  have hW' := hW
  obtain ⟨p, q, hA0, hV, rfl, hfz, hnd⟩ := hW
  have hA : DataW.TrodAll enc Try.prog W 0 (fun _ => true) true Try.f3.params.toList args.toList ds p := hA0
  rw [Try.params3] at hA hval
  obtain ⟨v0, vs0, d0, ds0, p0, q0, hargs, rfl, rfl, h0, r0⟩ := trodAll_cons hA
  obtain ⟨v1, vs1, d1, ds1, p1, q1, rfl, rfl, rfl, h1, r1⟩ := trodAll_cons r0
  obtain ⟨rfl, rfl, rfl⟩ := trodAll_nil r1
  obtain rfl : args = #[v0, v1] := by cases args; simp_all
  obtain ⟨rfl, rfl⟩ := trodVars_none hV
  obtain ⟨a0, len0, cap0, rfl⟩ := okWide_slice Try.underlying22 (hval 0 22 v0 rfl rfl)
  have k0 := h0
  have lt0 : ∀ x ∈ p0, x.block < W.heap.size := by obtain ⟨m, hm⟩ := k0; exact DataW.trod_lt m _ _ _ hm
  obtain ⟨z0, w0⟩ : ∃ zs, IsRow .i64 W a0 len0 cap0 zs := by
    obtain ⟨fuel, hf⟩ := h0
    rcases open_ints Try.underlying22 Try.underlying3 (by kernel_rfl) hf with ⟨hcs, _⟩ | ⟨x, l, c, zs, hcs, _, hl, hm, hz, _, hcell, hwz⟩
    · simp [Value.cells] at hcs
      obtain ⟨rfl, rfl, rfl⟩ := hcs
      exact ⟨[], .inl ⟨rfl, rfl, rfl, rfl⟩⟩
    · simp [Value.cells] at hcs
      obtain ⟨rfl, rfl, rfl⟩ := hcs
      exact ⟨zs, .inr ⟨_, rfl, hl, hm, by simpa using hz, hcell, hwz⟩⟩
  obtain ⟨a1, len1, cap1, rfl⟩ := okWide_slice Try.underlying22 (hval 1 22 v1 rfl rfl)
  have k1 := h1
  have lt1 : ∀ x ∈ p1, x.block < W.heap.size := by obtain ⟨m, hm⟩ := k1; exact DataW.trod_lt m _ _ _ hm
  obtain ⟨z1, w1⟩ : ∃ zs, IsRow .i64 W a1 len1 cap1 zs := by
    obtain ⟨fuel, hf⟩ := h1
    rcases open_ints Try.underlying22 Try.underlying3 (by kernel_rfl) hf with ⟨hcs, _⟩ | ⟨x, l, c, zs, hcs, _, hl, hm, hz, _, hcell, hwz⟩
    · simp [Value.cells] at hcs
      obtain ⟨rfl, rfl, rfl⟩ := hcs
      exact ⟨[], .inl ⟨rfl, rfl, rfl, rfl⟩⟩
    · simp [Value.cells] at hcs
      obtain ⟨rfl, rfl, rfl⟩ := hcs
      exact ⟨zs, .inr ⟨_, rfl, hl, hm, by simpa using hz, hcell, hwz⟩⟩
  clear hA0 hval0
  refine (walk a0 len0 cap0 z0 a1 len1 cap1 z1 W w0 w1).mono fun e W' ⟨he, bel⟩ => ?_
  subst he
  exact ⟨_, rfl, _, _, _, [], _, [], hW', trodAll_mk1 (shut_bool Try.underlying4 _), (trodAll_cons_mk (Below.trod laidOut (by kernel_rfl) (of_decide_eq_true (by kernel_rfl)) k0 bel lt0) (trodAll_cons_mk (Below.trod laidOut (by kernel_rfl) (of_decide_eq_true (by kernel_rfl)) k1 bel lt1) trodAll_mk0)), rfl, bel.frame _, fun h => by cases h⟩

theorem over : Rows.fnConversionFromIsLastPlaceOfEachIDRow.holds Try.pinned (OpenSpec.ofChange Rows.fnConversionFromIsLastPlaceOfEachIDSpec) :=
  OpenClaim.holds_of_wide 3 Try.f3 rfl rfl rfl rfl rfl rfl rfl ⟨rfl, rfl, rfl, rfl, rfl⟩ rfl rfl rfl rfl rfl (by kernel_rfl) Try.func3 (by kernel_rfl)
    (of_decide_eq_true (by kernel_rfl)) (by unfold Func.isWrapper; first | (rw [if_pos (by decide +kernel)]; kernel_rfl) | (rw [if_neg (by decide +kernel)]; exact ⟨rfl, rfl⟩))
    (fun os started H enc _ => lifted os started H enc)

/-- ████ THE STATEMENT ████ -/
theorem proved : Rows.FnConversionFromIsLastPlaceOfEachIDSaid := over
end Go.Proofs.Qxb6600092a.fnConversionFromIsLastPlaceOfEachID
