/-
  'Rows.FnNextSizeBoundsSaid': for every input the law returns true and leaves its arguments as they were. The frame is the shell that the kit's tool wrote for this function; the walk is ours.
-/
import Derived.Test.Qxb6600157aNext
import Derived.WalkKit
import Derived.ProofKit
import Derived.OpenShut
import Derived.ShutString
import Derived.ChangeOld
import Derived.Below
namespace Go.Proofs.Qxb6600157a.fnNextSizeBounds
open Go.ChangeShapes Go.WideShapes Go.ChangeAt Go.RowKit
open Go.ChangeMaps (open_string shut_string)
set_option linter.unusedVariables false

theorem own : ownKnob Try.prog.godebug = none := by kernel_rfl
theorem laidOut : laidOutB Try.prog = true := by kernel_rfl

/-! ### The walk: it returns true, and writes nothing that was there -/
theorem and_pow : ∀ e, e < 31 → bits BinOp.and IntKind.i64 ((2 : Int) ^ e) ((2 : Int) ^ e - 1) = 0 := by decide

theorem pow_lt {e : Nat} (h : (2 : Int) ^ e ≤ 1073741824) : e < 31 := by
  rcases Nat.lt_or_ge e 31 with h1 | h1
  · exact h1
  · obtain ⟨d, rfl⟩ := Nat.exists_eq_add_of_le h1
    rw [Int.pow_add] at h
    have h2 : (1 : Int) ≤ 2 ^ d := by have : (0 : Int) < 2 ^ d := Int.pow_pos (by decide); omega
    have h3 : (2 : Int) ^ 31 = 2147483648 := by decide
    rw [h3] at h
    omega

theorem fit_facts {g B n x : Int} (hg : GOk g B) (hf : Fit B n x) (hn : n ≤ 536870912) : 512 ≤ x ∧ x ≤ 1073741824 ∧ n ≤ x ∧ (262144 < x → x < 2 * n) ∧ bits BinOp.and IntKind.i64 x (x - 1) = 0 := by
  obtain ⟨e, he⟩ := fit_pow hg hf
  obtain ⟨_, hB1, hB2, _⟩ := hg
  obtain ⟨k, _, h1, h2, h3⟩ := hf
  have hx : x ≤ 1073741824 := by omega
  refine ⟨by omega, hx, h2, by omega, ?_⟩
  rw [he]
  exact and_pow e (pow_lt (by rw [← he]; exact hx))

theorem cell_set {w : World} {b o : Nat} {v : Value} (h : w.cell? ⟨b, o, none⟩ = some v) (u : Value) : (w.setCell ⟨b, o, none⟩ u).cell? ⟨b, o, none⟩ = some u :=
  World.cell?_setCell_same _ _ _ h

set_option maxRecDepth 100000 in
set_option maxHeartbeats 1000000 in
theorem main (a : Option Addr) (len cap : Nat) (z : Nat → Int) (w : World) (h : InF w a len (fun j => .int .i64 (z j))) (h0 : a = none → len = 0) (hl : len ≤ 65536) :
    Calls Try.prog 6 #[.slice a len cap] w fun e w' => e = .returned (.bool true) ∧ Below w.heap.size w w' := by
  go_enter Try.func6, Try.ntmps6
  go_wp2_with fail
  refine (zz25_any a len cap w hl).mono ?_
  rintro e w ⟨rfl, rfl⟩
  go_wp2_with fail
  go_loop [3] (fun i => ∃ k : Nat, k ≤ len ∧ i = .int .i64 k ∧ ∀ j, j < k → z j ≤ 536870912) (fun i => len - (intOf i).toNat)
  case atStart => exact ⟨0, Nat.zero_le _, rfl, fun j hj => by omega⟩
  case round =>
  obtain ⟨k, hk, rfl, hall⟩ := hrel
  have HA : Hid (∀ j, j < k → z j ≤ 536870912) := hall
  clear hall
  by_cases hlt : k < len
  · obtain ⟨b, off, rfl, hbl, hc⟩ := h.resolve_left (by omega)
    have x0 := hc k hlt
    clear hc
    by_cases hz : z k ≤ 536870912
    · go_wp2
      go_round
      case rel => exact ⟨k + 1, by omega, by go_num, fun j hj => if e : j = k then by subst e; exact hz else HA.out j (by omega)⟩
      case measure => simp [intOf]; omega
    · go_wp2
      go_ret
      exact ⟨rfl, Below.refl _ _⟩
  have hkl : k = len := by omega
  subst hkl
  clear hk hlt
  go_wp2_with fail
  refine (cloneI a k cap z w h h0 hl).mono ?_
  rintro e v ⟨A, C, rfl, i1, b1⟩
  have s1 := b1.size
  clear h h0
  go_wp2_with fail
  go_loopw [5] (fun i wr => ∃ (j : Nat) (g B : Int), j ≤ k ∧ i = .int .i64 j ∧ Below v.heap.size v wr ∧ wr.cell? ⟨v.heap.size, 4, none⟩ = some (.int .i64 g) ∧ wr.frozen? ⟨v.heap.size, 4, none⟩ = false ∧ GOk g B) (fun i _ => k - (intOf i).toNat)
  case atStart => exact ⟨0, 0, 512, Nat.zero_le _, rfl, (Below.refl _ _).alloc (Nat.le_refl _) _, by simp, by simp, .inl ⟨by omega, rfl⟩, by omega, by omega, 9, rfl⟩
  case round =>
  obtain ⟨j, g, B, hj, rfl, hb, hc, hf, hg⟩ := hrel
  have HG : Hid (GOk g B) := hg
  clear hg
  by_cases hlt : j < k
  · obtain ⟨b, off, rfl, hbl, hcc⟩ := i1.resolve_left (by omega)
    have x0 : wr.cell? ⟨b, off + j, none⟩ = some (.int .i64 (z j)) := (hb.cell (by exact hbl)).trans (hcc j hlt)
    have hzj := HA.out j hlt
    clear hcc
    go_wp2_with fail
    refine (znext_any v.heap.size g (z j) B wr hc hf HG.out.1 HG.out.2.1 hzj).mono ?_
    rintro e w3 ⟨x, rfl, hx, rfl⟩
    have HX : Hid (Fit B (z j) x) := hx
    obtain ⟨y1, y2, y3, y4, y5⟩ := fit_facts HG.out hx hzj
    clear hx
    by_cases hbig : 262144 < x
    · have y6 := y4 hbig
      clear y4
      go_wp2
      go_roundw
      case rel => exact ⟨j + 1, capd x, capd x, by omega, by go_num, hb.setCell (Nat.le_refl _) _, cell_set hc _, by rw [World.frozen?_setCell]; exact hf, gok_next HG.out HX.out⟩
      case measure => simp [intOf]; omega
    · clear y4
      go_wp2
      go_roundw
      case rel => exact ⟨j + 1, capd x, capd x, by omega, by go_num, hb.setCell (Nat.le_refl _) _, cell_set hc _, by rw [World.frozen?_setCell]; exact hf, gok_next HG.out HX.out⟩
      case measure => simp [intOf]; omega
  go_wp2
  go_ret
  exact ⟨rfl, b1.trans (hb.mono s1)⟩

set_option maxHeartbeats 400000 in
theorem early (a : Option Addr) (len cap : Nat) (w : World) (hm : len ≤ 9223372036854775807) (hl : ¬ len ≤ 65536) :
    Calls Try.prog 6 #[.slice a len cap] w fun e w' => e = .returned (.bool true) ∧ Below w.heap.size w w' := by
  go_enter Try.func6, Try.ntmps6
  go_wp2_with fail
  refine (zz25_else a len cap w hm).mono ?_
  rintro e w ⟨he, rfl⟩
  rcases he with rfl | rfl
  all_goals
    go_wp2
    go_ret
    exact ⟨rfl, Below.refl _ _⟩

theorem walk (a0 : Option Addr) (len0 cap0 : Nat) (z0 : List Int) (w : World) (w0 : IsRow .i64 w a0 len0 cap0 z0) :
    Calls Try.prog 6 #[.slice a0 len0 cap0] w fun e w' => e = .returned (.bool true) ∧ Below w.heap.size w w' := by
  obtain ⟨i0, m0, n0, f0⟩ := w0.ins
  by_cases hl : len0 ≤ 65536
  · exact main a0 len0 cap0 _ w i0 n0 hl
  · exact early a0 len0 cap0 w m0 hl

/-! ### The row's step -/
set_option maxRecDepth 100000 in
theorem lifted (os : Os) (started : os.Started) (H : Type) (enc : TypeId × Value → H) :
    ReturnsInHanded {} Try.checked os 6 .any (Rows.fnNextSizeBoundsSpec.pre6 enc Try.prog Try.f6 Rows.fnNextSizeBoundsRow.domain false) (Rows.fnNextSizeBoundsSpec.post enc Try.prog Try.f6 false true false false) := by
  refine returnsInHanded_of_change (C := Try.checked) own started (by kernel_rfl) Try.func6
    (ChangeSpec.witness6 (enc := enc) (C := Try.checked) false ⟨#[], #[.slice none 0 0], []⟩ 8 (by kernel_rfl) (by kernel_rfl) (by kernel_rfl) (by kernel_rfl)) ?_
  intro W base args ds gs before hval0 hW hcnd _
  have hval : ∀ (j : Nat) t v, Try.f6.params[j]? = some t → args[j]? = some v → Value.okWide Try.prog W .any base t v := hval0
  have hW' := hW
  obtain ⟨p, q, hA0, hV, rfl, hfz, hnd⟩ := hW
  have hA : DataW.TrodAll enc Try.prog W 0 (fun _ => true) true Try.f6.params.toList args.toList ds p := hA0
  rw [Try.params6] at hA hval
  obtain ⟨v0, vs0, d0, ds0, p0, q0, hargs, rfl, rfl, h0, r0⟩ := trodAll_cons hA
  obtain ⟨rfl, rfl, rfl⟩ := trodAll_nil r0
  obtain rfl : args = #[v0] := by cases args; simp_all
  obtain ⟨rfl, rfl⟩ := trodVars_none hV
  obtain ⟨a0, len0, cap0, rfl⟩ := okWide_slice Try.underlying22 (hval 0 22 v0 rfl rfl)
  have k0 := h0
  have lt0 : ∀ x ∈ p0, x.block < W.heap.size := by obtain ⟨m, hm⟩ := k0; exact DataW.trod_lt m _ _ _ hm
  obtain ⟨z0, w0⟩ : ∃ zs, IsRow .i64 W a0 len0 cap0 zs := by
    obtain ⟨fuel, hf⟩ := h0
    rcases open_ints Try.underlying22 Try.underlying3 (by kernel_rfl) hf with ⟨hcs, _⟩ | ⟨x, l, c, zs, hcs, _, hl, hm, hz, _, hcell, hwz⟩
    · simp [Value.cells] at hcs
      obtain ⟨rfl, rfl, rfl⟩ := hcs
      exact ⟨[], .inl ⟨rfl, rfl, rfl, rfl⟩⟩
    · simp [Value.cells] at hcs
      obtain ⟨rfl, rfl, rfl⟩ := hcs
      exact ⟨zs, .inr ⟨_, rfl, hl, hm, by simpa using hz, hcell, hwz⟩⟩
  clear hA0 hval0
  refine (walk a0 len0 cap0 z0 W w0).mono fun e W' ⟨he, bel⟩ => ?_
  subst he
  exact ⟨_, rfl, _, _, _, [], _, [], hW', trodAll_mk1 (shut_bool Try.underlying4 _), (trodAll_cons_mk (Below.trod laidOut (by kernel_rfl) (of_decide_eq_true (by kernel_rfl)) k0 bel lt0) trodAll_mk0), rfl, bel.frame _, fun h => by cases h⟩

theorem over : Rows.fnNextSizeBoundsRow.holds Try.pinned (OpenSpec.ofChange Rows.fnNextSizeBoundsSpec) :=
  OpenClaim.holds_of_wide 6 Try.f6 rfl rfl rfl rfl rfl rfl rfl ⟨rfl, rfl, rfl, rfl, rfl⟩ rfl rfl rfl rfl rfl (by kernel_rfl) Try.func6 (by kernel_rfl)
    (of_decide_eq_true (by kernel_rfl)) (by unfold Func.isWrapper; first | (rw [if_pos (by decide +kernel)]; kernel_rfl) | (rw [if_neg (by decide +kernel)]; exact ⟨rfl, rfl⟩))
    (fun os started H enc _ => lifted os started H enc)

/-- ████ THE STATEMENT ████ -/
theorem proved : Rows.FnNextSizeBoundsSaid := over
end Go.Proofs.Qxb6600157a.fnNextSizeBounds
