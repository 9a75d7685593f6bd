/-
  'Rows.FnConversionFromInvertsBetweenVersionsSaid': for every input the law returns true and leaves its arguments as they were. The frame is the shell that the kit's tool wrote for this function; the walk is ours.
-/
import Derived.Test.Qxb6600092aIn
import Derived.WalkKit
import Derived.ProofKit
import Derived.OpenShut
import Derived.ShutString
import Derived.ChangeOld
import Derived.Below
namespace Go.Proofs.Qxb6600092a.fnConversionFromInvertsBetweenVersions
open Go.ChangeShapes Go.WideShapes Go.ChangeAt Go.RowKit
open Go.ChangeMaps (open_string shut_string)
set_option linter.unusedVariables false

theorem own : ownKnob Try.prog.godebug = none := by kernel_rfl
theorem laidOut : laidOutB Try.prog = true := by kernel_rfl

/-! ### The walk: it returns true, and writes nothing that was there -/
theorem last_hit {z : List Int} {x : Int} : ∀ m, 0 ≤ lastIdx z m x → z.getD (lastIdx z m x).toNat 0 = x
  | 0, h => by simp [lastIdx] at h
  | m + 1, h => by
    unfold lastIdx at h ⊢
    by_cases hq : z.getD m 0 = x
    · rw [if_pos hq, Int.toNat_natCast]; exact hq
    · rw [if_neg hq] at h ⊢; exact last_hit m h

/-- No two of the first n are equal. -/
def Dist (z : List Int) (n : Nat) : Prop := ∀ i, i < n → ∀ j, j < i → z.getD i 0 ≠ z.getD j 0

theorem last_own {z : List Int} {n i : Nat} (hd : Dist z n) (hi : i < n) : ∀ k, i < k → k ≤ n → lastIdx z k (z.getD i 0) = i
  | 0, h, _ => by omega
  | k + 1, h, hk => by
    unfold lastIdx
    by_cases e : k = i
    · rw [e, if_pos rfl]
    · rw [if_neg (hd k (by omega) i (by omega))]; exact last_own hd hi k (by omega) (by omega)

set_option maxHeartbeats 400000 in
theorem zz_yes (a0 a1 : Option Addr) (len0 cap0 len1 cap1 : Nat) (w : World) (h : len0 + len1 ≤ 1048576) :
    Calls Try.prog 11 #[.slice a0 len0 cap0, .slice a1 len1 cap1] w fun e w' => e = .returned (.bool true) ∧ w' = w := by
  go_enter Try.func11, Try.ntmps11
  go_wp2
  go_ret
  exact ⟨rfl, rfl⟩

set_option maxHeartbeats 400000 in
theorem zz_no (a0 a1 : Option Addr) (len0 cap0 len1 cap1 : Nat) (w : World) (h : ¬ len0 + len1 ≤ 1048576) (h0 : len0 ≤ 9223372036854775807) (h1 : len1 ≤ 9223372036854775807) :
    Calls Try.prog 11 #[.slice a0 len0 cap0, .slice a1 len1 cap1] w fun e w' => e = .returned (.bool false) ∧ w' = w := by
  by_cases c0 : len0 ≤ 1048576
  · by_cases c1 : len1 ≤ 1048576
    all_goals
      go_enter Try.func11, Try.ntmps11
      go_wp2
      go_ret
      exact ⟨rfl, rfl⟩
  · go_enter Try.func11, Try.ntmps11
    go_wp2
    go_ret
    exact ⟨rfl, rfl⟩

theorem nd_step {zs : List Int} {k m : Nat} (h : ∀ t, t < m → zs.getD k 0 ≠ zs.getD t 0) (hq : (zs[k]?.getD 0 == zs[m]?.getD 0) = false) : ∀ t, t < m + 1 → zs.getD k 0 ≠ zs.getD t 0 := by
  intro t ht
  by_cases e : t = m
  · subst e; rw [List.getD_eq_getElem?_getD, List.getD_eq_getElem?_getD]; simpa using hq
  · exact h t (by omega)

theorem dist_step {zs : List Int} {m : Nat} (h : Dist zs m) (hn : ∀ t, t < m → zs.getD m 0 ≠ zs.getD t 0) : Dist zs (m + 1) := by
  intro i hi j hj
  by_cases e : i = m
  · subst e; exact hn j hj
  · exact h i (by omega) j hj

set_option maxRecDepth 100000 in
set_option maxHeartbeats 400000 in
theorem dist_any (a : Option Addr) (len cap : Nat) (zs : List Int) (w : World) (h : InInts w a len zs) (hlen : len ≤ 65536) :
    Calls Try.prog 12 #[.slice a len cap] w fun e w' => ∃ r : Bool, e = .returned (.bool r) ∧ (r = true → Dist zs len) ∧ Below w.heap.size w w' := by
  go_enter Try.func12, Try.ntmps12
  go_wp2
  go_loopw [3] (fun i wr => ∃ k : Nat, k ≤ len ∧ i = .int .i64 k ∧ Dist zs k ∧ Below w.heap.size w wr) (fun i _ => len - (intOf i).toNat)
  case atStart => exact ⟨0, Nat.zero_le _, rfl, fun i hi => by omega, Below.refl _ _⟩
  case round =>
    obtain ⟨k, hk, rfl, hd, hb⟩ := hrel
    have HD : Hid (Dist zs k) := hd
    clear hd
    by_cases hlt : k < len
    · obtain ⟨b, off, rfl, hbl, hc⟩ := h.resolve_left (by omega)
      go_wp2
      go_loopw [4] (fun j wx => ∃ m : Nat, m ≤ k ∧ j = .int .i64 m ∧ (∀ t, t < m → zs.getD k 0 ≠ zs.getD t 0) ∧ Below w.heap.size w wx) (fun j _ => k - (intOf j).toNat)
      case atStart => exact ⟨0, Nat.zero_le _, rfl, fun i hi => by omega, hb⟩
      case round =>
        obtain ⟨m, hm, rfl, hn, hb'⟩ := hrel
        have HN : Hid (∀ t, t < m → zs.getD k 0 ≠ zs.getD t 0) := hn
        clear hn hb
        by_cases hmk : m < k
        · have x0 : wr.cell? ⟨b, off + k, none⟩ = some (.int .i64 (zs.getD k 0)) := (hb'.cell (by exact hbl)).trans (hc k hlt)
          have x1 : wr.cell? ⟨b, off + m, none⟩ = some (.int .i64 (zs.getD m 0)) := (hb'.cell (by exact hbl)).trans (hc m (by omega))
          clear hc h
          by_cases hq : (zs[k]?.getD 0 == zs[m]?.getD 0) = true
          · go_wp2_with fail
            go_quiet (fail)
            go_wp2
            go_ret
            exact ⟨false, rfl, by simp, bel_drewN hb' _⟩
          · have hq' : (zs[k]?.getD 0 == zs[m]?.getD 0) = false := by simpa using hq
            go_wp2_with fail
            go_quiet (fail)
            go_wp2
            go_roundw
            case rel => exact ⟨m + 1, by omega, by go_num, nd_step HN.out hq', bel_drewN hb' _⟩
            case measure => simp [intOf]; omega
        · have : m = k := by omega
          subst this
          go_wp2
          go_roundw
          case rel => exact ⟨m + 1, by omega, by go_num, dist_step HD.out HN.out, hb'⟩
          case measure => simp [intOf]; omega
    · have : k = len := by omega
      subst this
      go_wp2
      go_ret
      exact ⟨true, rfl, fun _ => HD.out, hb⟩

set_option maxRecDepth 100000 in
set_option maxHeartbeats 2000000 in
theorem main (a0 : Option Addr) (len0 cap0 : Nat) (z0 : List Int) (a1 : Option Addr) (len1 cap1 : Nat) (z1 : List Int) (w : World) (w0 : InInts w a0 len0 z0) (w1 : InInts w a1 len1 z1)
    (f0 : ∀ n ∈ z0, (Lit.int .i64 n).wf = true) (f1 : ∀ n ∈ z1, (Lit.int .i64 n).wf = true) (h0 : len0 ≤ 65536) (h1 : len1 ≤ 65536) :
    Calls Try.prog 4 #[.slice a0 len0 cap0, .slice a1 len1 cap1] w fun e w' => e = .returned (.bool true) ∧ Below w.heap.size w w' := by
  go_enter Try.func4, Try.ntmps4
  go_wp2_with fail
  refine (zz_yes _ _ _ _ _ _ _ (by omega)).mono ?_
  rintro e w ⟨rfl, rfl⟩
  go_wp2_with fail
  refine (dist_any a0 len0 cap0 z0 _ w0 h0).mono ?_
  rintro e y1 ⟨r0, rfl, hd0, by1⟩
  cases r0 with
  | false =>
    go_wp2
    go_ret
    exact ⟨rfl, by1⟩
  | true =>
  have D0 : Hid (Dist z0 len0) := hd0 rfl
  clear hd0
  go_wp2_with fail
  refine (dist_any a1 len1 cap1 z1 _ (w1.below by1) h1).mono ?_
  rintro e y2 ⟨r1, rfl, hd1, by2⟩
  have Y2 : Below w.heap.size w y2 := by1.trans (by2.mono by1.size)
  cases r1 with
  | false =>
    go_wp2
    go_ret
    exact ⟨rfl, Y2⟩
  | true =>
  have D1 : Hid (Dist z1 len1) := hd1 rfl
  have w0' := w0.below Y2
  have w1' := w1.below Y2
  have zY := Y2.size
  clear hd1 by1 by2 w0 w1
  go_wp2_with fail
  refine (cols_any a0 len0 cap0 z0 _ w0' h0).mono ?_
  rintro e v1 ⟨rfl, r0, b1⟩
  have s1 := r0.lt
  go_wp2_with fail
  refine (cols_any a1 len1 cap1 z1 _ (by exact (w1'.below (b1.alloc (Nat.le_of_lt s1) _))) h1).mono ?_
  rintro e v2 ⟨rfl, r1, b2⟩
  have s2 := r1.lt
  have B2 : Below w.heap.size w v2 := ((Y2.trans (b1.mono zY)).alloc (by omega) _).trans (b2.mono (by simp; omega))
  have t0 := (Tab.new r0 (.string ⟨#[]⟩) (.string ⟨#[]⟩) (.slice none 0 0) (.slice none 0 0) (.slice none 0 0) (.pointer none) (.map none) (.int .i64 0) 32).below b2
  clear b2 b1 r0 w0' w1' Y2
  simp only [World.size_alloc] at r1 s2
  go_wp2_with fail
  have T0 := t0.alloc (.cells #[.string ⟨#[]⟩, .string ⟨#[]⟩, .slice (some ⟨v1.heap.size + 1, 0, none⟩) len1 len1, .slice none 0 0, .slice none 0 0, .slice none 0 0, .pointer none, .map none, .int .i64 0] 32)
  have T1 := Tab.new r1 (.string ⟨#[]⟩) (.string ⟨#[]⟩) (.slice none 0 0) (.slice none 0 0) (.slice none 0 0) (.pointer none) (.map none) (.int .i64 0) 32
  refine (conv_tab T1 T0 h1 h0 f1 f0).mono ?_
  rintro e u1 ⟨g1, rfl, hg1, k1, c1⟩
  have C1 : Below w.heap.size w u1 := (B2.alloc (by omega) _).trans (c1.mono (by simp; omega))
  have T0' := T0.below c1
  have T1' := T1.below c1
  clear c1 T0 T1 t0 r1 B2
  simp only [World.size_alloc] at hg1
  go_wp2_with fail
  refine (conv_tab T0' T1' h0 h1 f0 f1).mono ?_
  rintro e u2 ⟨g2, rfl, hg2, k2, c2⟩
  have hz1 : w.heap.size ≤ u1.heap.size := C1.size
  have C2 : Below w.heap.size w u2 := C1.trans (c2.mono (by omega))
  have K1 := k1.of_block (c2.block _ k1.lt)
  clear c2 C1 T0' T1' k1
  go_wp2_with fail
  go_loopw [9] (fun i wr => ∃ k : Nat, k ≤ len1 ∧ i = .int .i64 k ∧ Below w.heap.size w wr ∧ wr.rowIs g1 3 len1 (fun i => .int .i64 (lastIdx z0 len0 (z1.getD i 0))) ∧ wr.rowIs g2 3 len0 (fun i => .int .i64 (lastIdx z1 len1 (z0.getD i 0))))
    (fun i _ => len1 - (intOf i).toNat)
  case atStart => exact ⟨0, Nat.zero_le _, rfl, C2, K1, k2⟩
  case round =>
    obtain ⟨k, hk, rfl, hb, q1, q2⟩ := hrel
    clear K1 k2 C2
    by_cases hlt : k < len1
    · have x1 := q1.cell hlt
      have lo := lastIdx_lo z0 (z1.getD k 0) len0
      by_cases hP : 0 ≤ lastIdx z0 len0 (z1.getD k 0)
      · have hh := last_hit len0 hP
        obtain ⟨q, hq⟩ := Int.eq_ofNat_of_zero_le hP
        rw [hq, Int.toNat_natCast] at hh
        have hql : q < len0 := by omega
        have x2 := q2.cell hql
        rw [hh, last_own D1.out hlt len1 hlt (Nat.le_refl _)] at x2
        rw [hq] at x1
        clear hq hP lo hh
        have d1 : decide ((q : Int) < 0) = false := by simp
        have d2 : decide ((len0 : Int) ≤ (q : Int)) = false := by simp; omega
        have d3 : ((q : Int) == -1) = false := by simp
        go_wp2
        go_roundw
        case rel => exact ⟨k + 1, by omega, by go_num, hb, q1, q2⟩
        case measure => simp [intOf]; omega
      · have hq : lastIdx z0 len0 (z1.getD k 0) = -1 := by omega
        rw [hq] at x1
        clear hq hP lo
        go_wp2
        go_roundw
        case rel => exact ⟨k + 1, by omega, by go_num, hb, q1, q2⟩
        case measure => simp [intOf]; omega
    · have : k = len1 := by omega
      subst this
      go_wp2
      go_loopw [11] (fun i wx => ∃ j : Nat, j ≤ len0 ∧ i = .int .i64 j ∧ Below w.heap.size w wx ∧ wx.rowIs g1 3 k (fun i => .int .i64 (lastIdx z0 len0 (z1.getD i 0))) ∧ wx.rowIs g2 3 len0 (fun i => .int .i64 (lastIdx z1 k (z0.getD i 0))))
        (fun i _ => len0 - (intOf i).toNat)
      case atStart => exact ⟨0, Nat.zero_le _, rfl, hb, q1, q2⟩
      case round =>
        obtain ⟨j, hj, rfl, hb', p1, p2⟩ := hrel
        clear hb q1 q2
        by_cases hlt0 : j < len0
        · have x2 := p2.cell hlt0
          have lo := lastIdx_lo z1 (z0.getD j 0) k
          by_cases hP : 0 ≤ lastIdx z1 k (z0.getD j 0)
          · have hh := last_hit k hP
            obtain ⟨q, hq⟩ := Int.eq_ofNat_of_zero_le hP
            rw [hq, Int.toNat_natCast] at hh
            have hql : q < k := by omega
            have x1 := p1.cell hql
            rw [hh, last_own D0.out hlt0 len0 hlt0 (Nat.le_refl _)] at x1
            rw [hq] at x2
            clear hq hP lo hh
            have d1 : decide ((q : Int) < 0) = false := by simp
            have d2 : decide ((k : Int) ≤ (q : Int)) = false := by simp; omega
            have d3 : ((q : Int) == -1) = false := by simp
            go_wp2
            go_roundw
            case rel => exact ⟨j + 1, by omega, by go_num, hb', p1, p2⟩
            case measure => simp [intOf]; omega
          · have hq : lastIdx z1 k (z0.getD j 0) = -1 := by omega
            rw [hq] at x2
            clear hq hP lo
            go_wp2
            go_roundw
            case rel => exact ⟨j + 1, by omega, by go_num, hb', p1, p2⟩
            case measure => simp [intOf]; omega
        · have : j = len0 := by omega
          subst this
          go_wp2
          go_ret
          exact ⟨rfl, hb'⟩

set_option maxRecDepth 100000 in
set_option maxHeartbeats 1000000 in
theorem early (a0 : Option Addr) (len0 cap0 : Nat) (a1 : Option Addr) (len1 cap1 : Nat) (w : World) (m0 : len0 ≤ 9223372036854775807) (m1 : len1 ≤ 9223372036854775807) (h : ¬ (len0 ≤ 65536 ∧ len1 ≤ 65536)) :
    Calls Try.prog 4 #[.slice a0 len0 cap0, .slice a1 len1 cap1] w fun e w' => e = .returned (.bool true) ∧ Below w.heap.size w w' := by
  by_cases hz : len0 + len1 ≤ 1048576
  · by_cases g0 : len0 ≤ 65536
    · have g1 : ¬ len1 ≤ 65536 := by omega
      go_enter Try.func4, Try.ntmps4
      go_wp2_with fail
      refine (zz_yes _ _ _ _ _ _ _ (by omega)).mono ?_
      rintro e w ⟨rfl, rfl⟩
      go_wp2_with fail
      go_ret
      exact ⟨rfl, Below.refl _ _⟩
    · go_enter Try.func4, Try.ntmps4
      go_wp2_with fail
      refine (zz_yes _ _ _ _ _ _ _ (by omega)).mono ?_
      rintro e w ⟨rfl, rfl⟩
      go_wp2_with fail
      go_ret
      exact ⟨rfl, Below.refl _ _⟩
  · go_enter Try.func4, Try.ntmps4
    go_wp2_with fail
    refine (zz_no _ _ _ _ _ _ _ hz m0 m1).mono ?_
    rintro e w ⟨rfl, rfl⟩
    go_wp2_with fail
    go_ret
    exact ⟨rfl, Below.refl _ _⟩

theorem walk (a0 : Option Addr) (len0 cap0 : Nat) (z0 : List Int) (a1 : Option Addr) (len1 cap1 : Nat) (z1 : List Int) (w : World) (w0 : IsRow .i64 w a0 len0 cap0 z0) (w1 : IsRow .i64 w a1 len1 cap1 z1) :
    Calls Try.prog 4 #[.slice a0 len0 cap0, .slice a1 len1 cap1] w fun e w' => e = .returned (.bool true) ∧ Below w.heap.size w w' := by
  obtain ⟨i0, m0, f0⟩ := w0.ins
  obtain ⟨i1, m1, f1⟩ := w1.ins
  by_cases h : len0 ≤ 65536 ∧ len1 ≤ 65536
  · exact main a0 len0 cap0 z0 a1 len1 cap1 z1 w i0 i1 f0 f1 h.1 h.2
  · exact early a0 len0 cap0 a1 len1 cap1 w m0 m1 h

/-! ### The row's step -/
set_option maxRecDepth 100000 in
theorem lifted (os : Os) (started : os.Started) (H : Type) (enc : TypeId × Value → H) :
    ReturnsInHanded {} Try.checked os 4 .any (Rows.fnConversionFromInvertsBetweenVersionsSpec.pre6 enc Try.prog Try.f4 Rows.fnConversionFromInvertsBetweenVersionsRow.domain false) (Rows.fnConversionFromInvertsBetweenVersionsSpec.post enc Try.prog Try.f4 false true false false) := by
  refine returnsInHanded_of_change (C := Try.checked) own started (by kernel_rfl) Try.func4
    (ChangeSpec.witness6 (enc := enc) (C := Try.checked) false ⟨#[], #[.slice none 0 0, .slice none 0 0], []⟩ 8 (by kernel_rfl) (by kernel_rfl) (by kernel_rfl) (by kernel_rfl)) ?_
  intro W base args ds gs before hval0 hW hcnd _
  have hval : ∀ (j : Nat) t v, Try.f4.params[j]? = some t → args[j]? = some v → Value.okWide Try.prog W .any base t v := hval0
  have hW' := hW
  obtain ⟨p, q, hA0, hV, rfl, hfz, hnd⟩ := hW
  have hA : DataW.TrodAll enc Try.prog W 0 (fun _ => true) true Try.f4.params.toList args.toList ds p := hA0
  rw [Try.params4] at hA hval
  obtain ⟨v0, vs0, d0, ds0, p0, q0, hargs, rfl, rfl, h0, r0⟩ := trodAll_cons hA
  obtain ⟨v1, vs1, d1, ds1, p1, q1, rfl, rfl, rfl, h1, r1⟩ := trodAll_cons r0
  obtain ⟨rfl, rfl, rfl⟩ := trodAll_nil r1
  obtain rfl : args = #[v0, v1] := by cases args; simp_all
  obtain ⟨rfl, rfl⟩ := trodVars_none hV
  obtain ⟨a0, len0, cap0, rfl⟩ := okWide_slice Try.underlying22 (hval 0 22 v0 rfl rfl)
  have k0 := h0
  have lt0 : ∀ x ∈ p0, x.block < W.heap.size := by obtain ⟨m, hm⟩ := k0; exact DataW.trod_lt m _ _ _ hm
  obtain ⟨z0, w0⟩ : ∃ zs, IsRow .i64 W a0 len0 cap0 zs := by
    obtain ⟨fuel, hf⟩ := h0
    rcases open_ints Try.underlying22 Try.underlying3 (by kernel_rfl) hf with ⟨hcs, _⟩ | ⟨x, l, c, zs, hcs, _, hl, hm, hz, _, hcell, hwz⟩
    · simp [Value.cells] at hcs
      obtain ⟨rfl, rfl, rfl⟩ := hcs
      exact ⟨[], .inl ⟨rfl, rfl, rfl, rfl⟩⟩
    · simp [Value.cells] at hcs
      obtain ⟨rfl, rfl, rfl⟩ := hcs
      exact ⟨zs, .inr ⟨_, rfl, hl, hm, by simpa using hz, hcell, hwz⟩⟩
  obtain ⟨a1, len1, cap1, rfl⟩ := okWide_slice Try.underlying22 (hval 1 22 v1 rfl rfl)
  have k1 := h1
  have lt1 : ∀ x ∈ p1, x.block < W.heap.size := by obtain ⟨m, hm⟩ := k1; exact DataW.trod_lt m _ _ _ hm
  obtain ⟨z1, w1⟩ : ∃ zs, IsRow .i64 W a1 len1 cap1 zs := by
    obtain ⟨fuel, hf⟩ := h1
    rcases open_ints Try.underlying22 Try.underlying3 (by kernel_rfl) hf with ⟨hcs, _⟩ | ⟨x, l, c, zs, hcs, _, hl, hm, hz, _, hcell, hwz⟩
    · simp [Value.cells] at hcs
      obtain ⟨rfl, rfl, rfl⟩ := hcs
      exact ⟨[], .inl ⟨rfl, rfl, rfl, rfl⟩⟩
    · simp [Value.cells] at hcs
      obtain ⟨rfl, rfl, rfl⟩ := hcs
      exact ⟨zs, .inr ⟨_, rfl, hl, hm, by simpa using hz, hcell, hwz⟩⟩
  clear hA0 hval0
  refine (walk a0 len0 cap0 z0 a1 len1 cap1 z1 W w0 w1).mono fun e W' ⟨he, bel⟩ => ?_
  subst he
  exact ⟨_, rfl, _, _, _, [], _, [], hW', trodAll_mk1 (shut_bool Try.underlying4 _), (trodAll_cons_mk (Below.trod laidOut (by kernel_rfl) (of_decide_eq_true (by kernel_rfl)) k0 bel lt0) (trodAll_cons_mk (Below.trod laidOut (by kernel_rfl) (of_decide_eq_true (by kernel_rfl)) k1 bel lt1) trodAll_mk0)), rfl, bel.frame _, fun h => by cases h⟩

theorem over : Rows.fnConversionFromInvertsBetweenVersionsRow.holds Try.pinned (OpenSpec.ofChange Rows.fnConversionFromInvertsBetweenVersionsSpec) :=
  OpenClaim.holds_of_wide 4 Try.f4 rfl rfl rfl rfl rfl rfl rfl ⟨rfl, rfl, rfl, rfl, rfl⟩ rfl rfl rfl rfl rfl (by kernel_rfl) Try.func4 (by kernel_rfl)
    (of_decide_eq_true (by kernel_rfl)) (by unfold Func.isWrapper; first | (rw [if_pos (by decide +kernel)]; kernel_rfl) | (rw [if_neg (by decide +kernel)]; exact ⟨rfl, rfl⟩))
    (fun os started H enc _ => lifted os started H enc)

/-- ████ THE STATEMENT ████ -/
theorem proved : Rows.FnConversionFromInvertsBetweenVersionsSaid := over
end Go.Proofs.Qxb6600092a.fnConversionFromInvertsBetweenVersions
