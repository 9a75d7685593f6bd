/-
  'Rows.FnConversionFromComposesThroughKeptColumnSaid': for every input the law returns true and leaves its arguments as they were. The frame is the shell that the kit's tool wrote for this function; the walk is ours.
-/
import Derived.Test.Qxb6600092aIn
import Derived.WalkKit
import Derived.ProofKit
import Derived.OpenShut
import Derived.ShutString
import Derived.ChangeOld
import Derived.Below
namespace Go.Proofs.Qxb6600092a.fnConversionFromComposesThroughKeptColumn
open Go.ChangeShapes Go.WideShapes Go.ChangeAt Go.RowKit
open Go.ChangeMaps (open_string shut_string)
set_option linter.unusedVariables false

theorem own : ownKnob Try.prog.godebug = none := by kernel_rfl
theorem laidOut : laidOutB Try.prog = true := by kernel_rfl

/-! ### The walk: it returns true, and writes nothing that was there -/
theorem last_hit {z : List Int} {x : Int} : ∀ m, 0 ≤ lastIdx z m x → z.getD (lastIdx z m x).toNat 0 = x
  | 0, h => by simp [lastIdx] at h
  | m + 1, h => by
    unfold lastIdx at h ⊢
    by_cases hq : z.getD m 0 = x
    · rw [if_pos hq, Int.toNat_natCast]; exact hq
    · rw [if_neg hq] at h ⊢; exact last_hit m h

set_option maxHeartbeats 400000 in
theorem zz_yes (a0 a1 a2 : Option Addr) (len0 cap0 len1 cap1 len2 cap2 : Nat) (w : World) (h : len0 + len1 + len2 ≤ 1048576) :
    Calls Try.prog 13 #[.slice a0 len0 cap0, .slice a1 len1 cap1, .slice a2 len2 cap2] w fun e w' => e = .returned (.bool true) ∧ w' = w := by
  go_enter Try.func13, Try.ntmps13
  go_wp2
  go_ret
  exact ⟨rfl, rfl⟩

set_option maxHeartbeats 400000 in
theorem zz_no (a0 a1 a2 : Option Addr) (len0 cap0 len1 cap1 len2 cap2 : Nat) (w : World) (h : ¬ len0 + len1 + len2 ≤ 1048576) (h0 : len0 ≤ 9223372036854775807) (h1 : len1 ≤ 9223372036854775807) (h2 : len2 ≤ 9223372036854775807) :
    Calls Try.prog 13 #[.slice a0 len0 cap0, .slice a1 len1 cap1, .slice a2 len2 cap2] w fun e w' => e = .returned (.bool false) ∧ w' = w := by
  by_cases c0 : len0 ≤ 1048576
  · by_cases c1 : len1 ≤ 1048576
    · by_cases c2 : len0 + len1 ≤ 1048576
      · by_cases c3 : len2 ≤ 1048576
        all_goals
          go_enter Try.func13, Try.ntmps13
          go_wp2
          go_ret
          exact ⟨rfl, rfl⟩
      · go_enter Try.func13, Try.ntmps13
        go_wp2
        go_ret
        exact ⟨rfl, rfl⟩
    · go_enter Try.func13, Try.ntmps13
      go_wp2
      go_ret
      exact ⟨rfl, rfl⟩
  · go_enter Try.func13, Try.ntmps13
    go_wp2
    go_ret
    exact ⟨rfl, rfl⟩

set_option maxRecDepth 100000 in
set_option maxHeartbeats 1000000 in
theorem main (a0 : Option Addr) (len0 cap0 : Nat) (z0 : List Int) (a1 : Option Addr) (len1 cap1 : Nat) (z1 : List Int) (a2 : Option Addr) (len2 cap2 : Nat) (z2 : List Int) (w : World)
    (w0 : InInts w a0 len0 z0) (w1 : InInts w a1 len1 z1) (w2 : InInts w a2 len2 z2)
    (f0 : ∀ n ∈ z0, (Lit.int .i64 n).wf = true) (f1 : ∀ n ∈ z1, (Lit.int .i64 n).wf = true) (f2 : ∀ n ∈ z2, (Lit.int .i64 n).wf = true)
    (h0 : len0 ≤ 65536) (h1 : len1 ≤ 65536) (h2 : len2 ≤ 65536) (hs : len0 + len1 + len2 ≤ 131072) :
    Calls Try.prog 5 #[.slice a0 len0 cap0, .slice a1 len1 cap1, .slice a2 len2 cap2] w fun e w' => e = .returned (.bool true) ∧ Below w.heap.size w w' := by
  go_enter Try.func5, Try.ntmps5
  go_wp2_with fail
  refine (zz_yes _ _ _ _ _ _ _ _ _ _ (by omega)).mono ?_
  rintro e w ⟨rfl, rfl⟩
  go_wp2_with fail
  refine (cols_any a0 len0 cap0 z0 _ w0 h0).mono ?_
  rintro e v1 ⟨rfl, r0, b1⟩
  have s1 := r0.lt
  go_wp2_with fail
  refine (cols_any a1 len1 cap1 z1 _ (by exact (w1.below (b1.alloc (Nat.le_of_lt s1) _))) h1).mono ?_
  rintro e v2 ⟨rfl, r1, b2⟩
  have s2 := r1.lt
  have B2 : Below w.heap.size w v2 := (b1.alloc (Nat.le_of_lt s1) _).trans (b2.mono (by simp; omega))
  have t0 := (Tab.new r0 (.string ⟨#[]⟩) (.string ⟨#[]⟩) (.slice none 0 0) (.slice none 0 0) (.slice none 0 0) (.pointer none) (.map none) (.int .i64 0) 32).below b2
  clear b2 b1 r0
  simp only [World.size_alloc] at r1 s2
  go_wp2_with fail
  refine (cols_any a2 len2 cap2 z2 _ (by exact (w2.below (B2.alloc (by omega) _))) h2).mono ?_
  rintro e v3 ⟨rfl, r2, b3⟩
  have s3 := r2.lt
  have B3 : Below w.heap.size w v3 := (B2.alloc (by omega) _).trans (b3.mono (by simp; omega))
  have t0' := (t0.alloc (.cells #[.string ⟨#[]⟩, .string ⟨#[]⟩, .slice (some ⟨v1.heap.size + 1, 0, none⟩) len1 len1, .slice none 0 0, .slice none 0 0, .slice none 0 0, .pointer none, .map none, .int .i64 0] 32)).below b3
  have t1 := (Tab.new r1 (.string ⟨#[]⟩) (.string ⟨#[]⟩) (.slice none 0 0) (.slice none 0 0) (.slice none 0 0) (.pointer none) (.map none) (.int .i64 0) 32).below b3
  clear b3 t0 r1 B2
  simp only [World.size_alloc] at r2 s3
  go_wp2_with fail
  have T0 := t0'.alloc (.cells #[.string ⟨#[]⟩, .string ⟨#[]⟩, .slice (some ⟨v2.heap.size + 1, 0, none⟩) len2 len2, .slice none 0 0, .slice none 0 0, .slice none 0 0, .pointer none, .map none, .int .i64 0] 32)
  have T1 := t1.alloc (.cells #[.string ⟨#[]⟩, .string ⟨#[]⟩, .slice (some ⟨v2.heap.size + 1, 0, none⟩) len2 len2, .slice none 0 0, .slice none 0 0, .slice none 0 0, .pointer none, .map none, .int .i64 0] 32)
  have T2 := Tab.new r2 (.string ⟨#[]⟩) (.string ⟨#[]⟩) (.slice none 0 0) (.slice none 0 0) (.slice none 0 0) (.pointer none) (.map none) (.int .i64 0) 32
  refine (conv_tab T1 T0 h1 h0 f1 f0).mono ?_
  rintro e u1 ⟨g1, rfl, hg1, k1, c1⟩
  have C1 : Below w.heap.size w u1 := (B3.alloc (by omega) _).trans (c1.mono (by simp; omega))
  have T0' := T0.below c1
  have T1' := T1.below c1
  have T2' := T2.below c1
  clear c1 T0 T1 T2 t0' t1 r2 B3
  simp only [World.size_alloc] at hg1
  go_wp2_with fail
  refine (conv_tab T2' T1' h2 h1 f2 f1).mono ?_
  rintro e u2 ⟨g2, rfl, hg2, k2, c2⟩
  have hz1 : w.heap.size ≤ u1.heap.size := C1.size
  have C2 : Below w.heap.size w u2 := C1.trans (c2.mono (by omega))
  have T0 := T0'.below c2
  have T2 := T2'.below c2
  have K1 := k1.of_block (c2.block _ k1.lt)
  clear c2 C1 T0' T1' T2' k1
  go_wp2_with fail
  refine (conv_tab T2 T0 h2 h0 f2 f0).mono ?_
  rintro e u3 ⟨g3, rfl, hg3, k3, c3⟩
  have hz2 : w.heap.size ≤ u2.heap.size := C2.size
  have C3 : Below w.heap.size w u3 := C2.trans (c3.mono (by omega))
  have R1 := K1.of_block (c3.block _ K1.lt)
  have R2 := k2.of_block (c3.block _ k2.lt)
  clear c3 C2 T0 T2 K1 k2
  go_wp2_with fail
  go_loopw [13] (fun i wr => ∃ k : Nat, k ≤ len2 ∧ i = .int .i64 k ∧ Below w.heap.size w wr ∧ wr.rowIs g1 3 len1 (fun i => .int .i64 (lastIdx z0 len0 (z1.getD i 0))) ∧ wr.rowIs g2 3 len2 (fun i => .int .i64 (lastIdx z1 len1 (z2.getD i 0))) ∧ wr.rowIs g3 3 len2 (fun i => .int .i64 (lastIdx z0 len0 (z2.getD i 0))))
    (fun i _ => len2 - (intOf i).toNat)
  case atStart => exact ⟨0, Nat.zero_le _, rfl, C3, R1, R2, k3⟩
  case round =>
    obtain ⟨k, hk, rfl, hb, q1, q2, q3⟩ := hrel
    clear R1 R2 k3 C3 w0 w1 w2
    by_cases hlt : k < len2
    · have x2 := q2.cell hlt
      have x3 := q3.cell hlt
      have lo := lastIdx_lo z1 (z2.getD k 0) len1
      by_cases hP : 0 ≤ lastIdx z1 len1 (z2.getD k 0)
      · have hh := last_hit len1 hP
        obtain ⟨q, hq⟩ := Int.eq_ofNat_of_zero_le hP
        rw [hq, Int.toNat_natCast] at hh
        have hql : q < len1 := by omega
        have x1 := q1.cell hql
        rw [hh] at x1
        rw [hq] at x2
        clear hq hP lo hh
        generalize lastIdx z0 len0 (z2.getD k 0) = y at x1 x3
        have d1 : decide ((q : Int) < 0) = false := by simp
        have d2 : decide ((len1 : Int) ≤ (q : Int)) = false := by simp; omega
        have d3 : ((q : Int) == -1) = false := by simp
        go_wp2_with fail
        go_quiet (fail)
        go_wp2
        go_roundw
        case rel => exact ⟨k + 1, by omega, by go_num, bel_drewN hb _, rowIs_drewN q1 _, rowIs_drewN q2 _, rowIs_drewN q3 _⟩
        case measure => simp [intOf]; omega
      · have hq : lastIdx z1 len1 (z2.getD k 0) = -1 := by omega
        rw [hq] at x2
        clear hq hP lo
        go_wp2
        go_roundw
        case rel => exact ⟨k + 1, by omega, by go_num, hb, q1, q2, q3⟩
        case measure => simp [intOf]; omega
    · have : k = len2 := by omega
      subst this
      go_wp2
      go_ret
      exact ⟨rfl, hb⟩

set_option maxRecDepth 100000 in
set_option maxHeartbeats 1000000 in
theorem early (a0 : Option Addr) (len0 cap0 : Nat) (a1 : Option Addr) (len1 cap1 : Nat) (a2 : Option Addr) (len2 cap2 : Nat) (w : World) (m0 : len0 ≤ 9223372036854775807) (m1 : len1 ≤ 9223372036854775807) (m2 : len2 ≤ 9223372036854775807)
    (h : ¬ (len0 ≤ 65536 ∧ len1 ≤ 65536 ∧ len2 ≤ 65536 ∧ len0 + len1 + len2 ≤ 131072)) :
    Calls Try.prog 5 #[.slice a0 len0 cap0, .slice a1 len1 cap1, .slice a2 len2 cap2] w fun e w' => e = .returned (.bool true) ∧ Below w.heap.size w w' := by
  by_cases hz : len0 + len1 + len2 ≤ 1048576
  · by_cases g0 : len0 ≤ 65536
    · by_cases g1 : len1 ≤ 65536
      · by_cases g2 : len2 ≤ 65536
        all_goals
          go_enter Try.func5, Try.ntmps5
          go_wp2_with fail
          refine (zz_yes _ _ _ _ _ _ _ _ _ _ (by omega)).mono ?_
          rintro e w ⟨rfl, rfl⟩
          go_wp2_with fail
          go_ret
          exact ⟨rfl, Below.refl _ _⟩
      · go_enter Try.func5, Try.ntmps5
        go_wp2_with fail
        refine (zz_yes _ _ _ _ _ _ _ _ _ _ (by omega)).mono ?_
        rintro e w ⟨rfl, rfl⟩
        go_wp2_with fail
        go_ret
        exact ⟨rfl, Below.refl _ _⟩
    · go_enter Try.func5, Try.ntmps5
      go_wp2_with fail
      refine (zz_yes _ _ _ _ _ _ _ _ _ _ (by omega)).mono ?_
      rintro e w ⟨rfl, rfl⟩
      go_wp2_with fail
      go_ret
      exact ⟨rfl, Below.refl _ _⟩
  · go_enter Try.func5, Try.ntmps5
    go_wp2_with fail
    refine (zz_no _ _ _ _ _ _ _ _ _ _ hz m0 m1 m2).mono ?_
    rintro e w ⟨rfl, rfl⟩
    go_wp2_with fail
    go_ret
    exact ⟨rfl, Below.refl _ _⟩

theorem walk (a0 : Option Addr) (len0 cap0 : Nat) (z0 : List Int) (a1 : Option Addr) (len1 cap1 : Nat) (z1 : List Int) (a2 : Option Addr) (len2 cap2 : Nat) (z2 : List Int) (w : World) (w0 : IsRow .i64 w a0 len0 cap0 z0) (w1 : IsRow .i64 w a1 len1 cap1 z1) (w2 : IsRow .i64 w a2 len2 cap2 z2) :
    Calls Try.prog 5 #[.slice a0 len0 cap0, .slice a1 len1 cap1, .slice a2 len2 cap2] w fun e w' => e = .returned (.bool true) ∧ Below w.heap.size w w' := by
  obtain ⟨i0, m0, f0⟩ := w0.ins
  obtain ⟨i1, m1, f1⟩ := w1.ins
  obtain ⟨i2, m2, f2⟩ := w2.ins
  by_cases h : len0 ≤ 65536 ∧ len1 ≤ 65536 ∧ len2 ≤ 65536 ∧ len0 + len1 + len2 ≤ 131072
  · exact main a0 len0 cap0 z0 a1 len1 cap1 z1 a2 len2 cap2 z2 w i0 i1 i2 f0 f1 f2 h.1 h.2.1 h.2.2.1 h.2.2.2
  · exact early a0 len0 cap0 a1 len1 cap1 a2 len2 cap2 w m0 m1 m2 h

/-! ### The row's step -/
set_option maxRecDepth 100000 in
theorem lifted (os : Os) (started : os.Started) (H : Type) (enc : TypeId × Value → H) :
    ReturnsInHanded {} Try.checked os 5 .any (Rows.fnConversionFromComposesThroughKeptColumnSpec.pre6 enc Try.prog Try.f5 Rows.fnConversionFromComposesThroughKeptColumnRow.domain false) (Rows.fnConversionFromComposesThroughKeptColumnSpec.post enc Try.prog Try.f5 false true false false) := by
  refine returnsInHanded_of_change (C := Try.checked) own started (by kernel_rfl) Try.func5
    (ChangeSpec.witness6 (enc := enc) (C := Try.checked) false ⟨#[], #[.slice none 0 0, .slice none 0 0, .slice none 0 0], []⟩ 8 (by kernel_rfl) (by kernel_rfl) (by kernel_rfl) (by kernel_rfl)) ?_
  intro W base args ds gs before hval0 hW hcnd _
  have hval : ∀ (j : Nat) t v, Try.f5.params[j]? = some t → args[j]? = some v → Value.okWide Try.prog W .any base t v := hval0
  have hW' := hW
  obtain ⟨p, q, hA0, hV, rfl, hfz, hnd⟩ := hW
  have hA : DataW.TrodAll enc Try.prog W 0 (fun _ => true) true Try.f5.params.toList args.toList ds p := hA0
  rw [Try.params5] at hA hval
  obtain ⟨v0, vs0, d0, ds0, p0, q0, hargs, rfl, rfl, h0, r0⟩ := trodAll_cons hA
  obtain ⟨v1, vs1, d1, ds1, p1, q1, rfl, rfl, rfl, h1, r1⟩ := trodAll_cons r0
  obtain ⟨v2, vs2, d2, ds2, p2, q2, rfl, rfl, rfl, h2, r2⟩ := trodAll_cons r1
  obtain ⟨rfl, rfl, rfl⟩ := trodAll_nil r2
  obtain rfl : args = #[v0, v1, v2] := by cases args; simp_all
  obtain ⟨rfl, rfl⟩ := trodVars_none hV
  obtain ⟨a0, len0, cap0, rfl⟩ := okWide_slice Try.underlying22 (hval 0 22 v0 rfl rfl)
  have k0 := h0
  have lt0 : ∀ x ∈ p0, x.block < W.heap.size := by obtain ⟨m, hm⟩ := k0; exact DataW.trod_lt m _ _ _ hm
  obtain ⟨z0, w0⟩ : ∃ zs, IsRow .i64 W a0 len0 cap0 zs := by
    obtain ⟨fuel, hf⟩ := h0
    rcases open_ints Try.underlying22 Try.underlying3 (by kernel_rfl) hf with ⟨hcs, _⟩ | ⟨x, l, c, zs, hcs, _, hl, hm, hz, _, hcell, hwz⟩
    · simp [Value.cells] at hcs
      obtain ⟨rfl, rfl, rfl⟩ := hcs
      exact ⟨[], .inl ⟨rfl, rfl, rfl, rfl⟩⟩
    · simp [Value.cells] at hcs
      obtain ⟨rfl, rfl, rfl⟩ := hcs
      exact ⟨zs, .inr ⟨_, rfl, hl, hm, by simpa using hz, hcell, hwz⟩⟩
  obtain ⟨a1, len1, cap1, rfl⟩ := okWide_slice Try.underlying22 (hval 1 22 v1 rfl rfl)
  have k1 := h1
  have lt1 : ∀ x ∈ p1, x.block < W.heap.size := by obtain ⟨m, hm⟩ := k1; exact DataW.trod_lt m _ _ _ hm
  obtain ⟨z1, w1⟩ : ∃ zs, IsRow .i64 W a1 len1 cap1 zs := by
    obtain ⟨fuel, hf⟩ := h1
    rcases open_ints Try.underlying22 Try.underlying3 (by kernel_rfl) hf with ⟨hcs, _⟩ | ⟨x, l, c, zs, hcs, _, hl, hm, hz, _, hcell, hwz⟩
    · simp [Value.cells] at hcs
      obtain ⟨rfl, rfl, rfl⟩ := hcs
      exact ⟨[], .inl ⟨rfl, rfl, rfl, rfl⟩⟩
    · simp [Value.cells] at hcs
      obtain ⟨rfl, rfl, rfl⟩ := hcs
      exact ⟨zs, .inr ⟨_, rfl, hl, hm, by simpa using hz, hcell, hwz⟩⟩
  obtain ⟨a2, len2, cap2, rfl⟩ := okWide_slice Try.underlying22 (hval 2 22 v2 rfl rfl)
  have k2 := h2
  have lt2 : ∀ x ∈ p2, x.block < W.heap.size := by obtain ⟨m, hm⟩ := k2; exact DataW.trod_lt m _ _ _ hm
  obtain ⟨z2, w2⟩ : ∃ zs, IsRow .i64 W a2 len2 cap2 zs := by
    obtain ⟨fuel, hf⟩ := h2
    rcases open_ints Try.underlying22 Try.underlying3 (by kernel_rfl) hf with ⟨hcs, _⟩ | ⟨x, l, c, zs, hcs, _, hl, hm, hz, _, hcell, hwz⟩
    · simp [Value.cells] at hcs
      obtain ⟨rfl, rfl, rfl⟩ := hcs
      exact ⟨[], .inl ⟨rfl, rfl, rfl, rfl⟩⟩
    · simp [Value.cells] at hcs
      obtain ⟨rfl, rfl, rfl⟩ := hcs
      exact ⟨zs, .inr ⟨_, rfl, hl, hm, by simpa using hz, hcell, hwz⟩⟩
  clear hA0 hval0
  refine (walk a0 len0 cap0 z0 a1 len1 cap1 z1 a2 len2 cap2 z2 W w0 w1 w2).mono fun e W' ⟨he, bel⟩ => ?_
  subst he
  exact ⟨_, rfl, _, _, _, [], _, [], hW', trodAll_mk1 (shut_bool Try.underlying4 _), (trodAll_cons_mk (Below.trod laidOut (by kernel_rfl) (of_decide_eq_true (by kernel_rfl)) k0 bel lt0) (trodAll_cons_mk (Below.trod laidOut (by kernel_rfl) (of_decide_eq_true (by kernel_rfl)) k1 bel lt1) (trodAll_cons_mk (Below.trod laidOut (by kernel_rfl) (of_decide_eq_true (by kernel_rfl)) k2 bel lt2) trodAll_mk0))), rfl, bel.frame _, fun h => by cases h⟩

theorem over : Rows.fnConversionFromComposesThroughKeptColumnRow.holds Try.pinned (OpenSpec.ofChange Rows.fnConversionFromComposesThroughKeptColumnSpec) :=
  OpenClaim.holds_of_wide 5 Try.f5 rfl rfl rfl rfl rfl rfl rfl ⟨rfl, rfl, rfl, rfl, rfl⟩ rfl rfl rfl rfl rfl (by kernel_rfl) Try.func5 (by kernel_rfl)
    (of_decide_eq_true (by kernel_rfl)) (by unfold Func.isWrapper; first | (rw [if_pos (by decide +kernel)]; kernel_rfl) | (rw [if_neg (by decide +kernel)]; exact ⟨rfl, rfl⟩))
    (fun os started H enc _ => lifted os started H enc)

/-- ████ THE STATEMENT ████ -/
theorem proved : Rows.FnConversionFromComposesThroughKeptColumnSaid := over
end Go.Proofs.Qxb6600092a.fnConversionFromComposesThroughKeptColumn
