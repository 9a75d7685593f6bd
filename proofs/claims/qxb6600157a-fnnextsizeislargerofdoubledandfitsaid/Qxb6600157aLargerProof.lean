/-
  'Rows.FnNextSizeIsLargerOfDoubledAndFitSaid': for every input the law returns true and leaves its arguments as they were. The frame is the shell that the kit's tool wrote for this function; the walk is ours.
-/
import Derived.Test.Qxb6600157aNext
import Derived.WalkKit
import Derived.ProofKit
import Derived.OpenShut
import Derived.ShutString
import Derived.ChangeOld
import Derived.Below
namespace Go.Proofs.Qxb6600157a.fnNextSizeIsLargerOfDoubledAndFit
open Go.ChangeShapes Go.WideShapes Go.ChangeAt Go.RowKit
open Go.ChangeMaps (open_string shut_string)
set_option linter.unusedVariables false

theorem own : ownKnob Try.prog.godebug = none := by kernel_rfl
theorem laidOut : laidOutB Try.prog = true := by kernel_rfl

/-! ### The walk: it returns true, and writes nothing that was there -/
theorem cell_set {w : World} {b o : Nat} {v : Value} (h : w.cell? ⟨b, o, none⟩ = some v) (u : Value) : (w.setCell ⟨b, o, none⟩ u).cell? ⟨b, o, none⟩ = some u :=
  World.cell?_setCell_same _ _ _ h

theorem pow_step {i j : Nat} (h : i < j) : 2 * (2 : Int) ^ i ≤ 2 ^ j := by
  obtain ⟨d, rfl⟩ := Nat.exists_eq_add_of_le (show i + 1 ≤ j from h)
  rw [Int.pow_add, Int.pow_succ]
  have h1 : (1 : Int) ≤ 2 ^ d := by have : (0 : Int) < 2 ^ d := Int.pow_pos (by decide); omega
  have h2 : (0 : Int) ≤ 2 ^ i * 2 := by have : (0 : Int) < 2 ^ i := Int.pow_pos (by decide); omega
  calc 2 * (2 : Int) ^ i = 2 ^ i * 2 * 1 := by omega
    _ ≤ 2 ^ i * 2 * 2 ^ d := Int.mul_le_mul_of_nonneg_left h1 h2

theorem pow_apart {i j : Nat} {x y : Int} (hx : x = 2 ^ i) (hy : y = 2 ^ j) (h : x < y) : 2 * x ≤ y := by
  subst hx hy
  rcases Nat.lt_or_ge i j with h1 | h1
  · exact pow_step h1
  · rcases Nat.eq_or_lt_of_le h1 with h2 | h2
    · subst h2; omega
    · have := pow_step h2
      have h3 : (0 : Int) < 2 ^ j := Int.pow_pos (by decide)
      omega

/-- The size that nextSize gives is the larger of the base and the least power of two that holds the request. -/
theorem larger {g B n x p : Int} (hg : GOk g B) (hf : Fit B n x) (hp : Pow2 n p) (hn : n ≤ 536870912) : 512 ≤ x ∧ x ≤ 1073741824 ∧ 1 ≤ p ∧ p ≤ 1073741824 ∧ ((p < B ∧ x = B) ∨ (B ≤ p ∧ x = p)) := by
  obtain ⟨e, he⟩ := fit_pow hg hf
  obtain ⟨_, hB1, hB2, b, hb⟩ := hg
  obtain ⟨k, _, h1, h2, h3⟩ := hf
  obtain ⟨i, hi, h4, h5, h6⟩ := hp
  refine ⟨by omega, by omega, h6, by omega, ?_⟩
  rcases Int.lt_or_le p B with hlt | hge
  · refine .inl ⟨hlt, ?_⟩
    rcases Int.lt_or_le B x with h7 | h7
    · have := pow_apart hb he h7
      omega
    · omega
  · refine .inr ⟨hge, ?_⟩
    rcases Int.lt_or_le x p with h7 | h7
    · have := pow_apart he hi h7
      omega
    · rcases Int.lt_or_le p x with h8 | h8
      · have := pow_apart hi he h8
        rcases h1 with h1 | h1
        · omega
        · omega
      · omega

set_option maxRecDepth 100000 in
set_option maxHeartbeats 1000000 in
theorem main (a : Option Addr) (len cap : Nat) (z : Nat → Int) (w : World) (h : InF w a len (fun j => .int .i64 (z j))) (h0 : a = none → len = 0) (hl : len ≤ 65536) :
    Calls Try.prog 7 #[.slice a len cap] w fun e w' => e = .returned (.bool true) ∧ Below w.heap.size w w' := by
  go_enter Try.func7, Try.ntmps7
  go_wp2_with fail
  refine (zz27_any a len cap w hl).mono ?_
  rintro e w ⟨rfl, rfl⟩
  go_wp2_with fail
  go_loop [3] (fun i => ∃ k : Nat, k ≤ len ∧ i = .int .i64 k ∧ ∀ j, j < k → z j ≤ 536870912) (fun i => len - (intOf i).toNat)
  case atStart => exact ⟨0, Nat.zero_le _, rfl, fun j hj => by omega⟩
  case round =>
  obtain ⟨k, hk, rfl, hall⟩ := hrel
  have HA : Hid (∀ j, j < k → z j ≤ 536870912) := hall
  clear hall
  by_cases hlt : k < len
  · obtain ⟨b, off, rfl, hbl, hc⟩ := h.resolve_left (by omega)
    have x0 := hc k hlt
    clear hc
    by_cases hz : z k ≤ 536870912
    · go_wp2
      go_round
      case rel => exact ⟨k + 1, by omega, by go_num, fun j hj => if e : j = k then by subst e; exact hz else HA.out j (by omega)⟩
      case measure => simp [intOf]; omega
    · go_wp2
      go_ret
      exact ⟨rfl, Below.refl _ _⟩
  have hkl : k = len := by omega
  subst hkl
  clear hk hlt
  go_wp2_with fail
  refine (cloneI a k cap z w h h0 hl).mono ?_
  rintro e v ⟨A, C, rfl, i1, b1⟩
  have s1 := b1.size
  clear h h0
  go_wp2_with fail
  go_loopw [5, 6] (fun bv i wr => ∃ (j : Nat) (g B : Int), j ≤ k ∧ i = .int .i64 j ∧ bv = .int .i64 B ∧ Below v.heap.size v wr ∧ wr.cell? ⟨v.heap.size, 4, none⟩ = some (.int .i64 g) ∧ wr.frozen? ⟨v.heap.size, 4, none⟩ = false ∧ GOk g B) (fun _ i _ => k - (intOf i).toNat)
  case atStart => exact ⟨0, 0, 512, Nat.zero_le _, rfl, rfl, (Below.refl _ _).alloc (Nat.le_refl _) _, by simp, by simp, .inl ⟨by omega, rfl⟩, by omega, by omega, 9, rfl⟩
  case round =>
  obtain ⟨j, g, B, hj, rfl, rfl, hb, hc, hf, hg⟩ := hrel
  have HG : Hid (GOk g B) := hg
  have hB1 := hg.2.1
  have hB2 := hg.2.2.1
  clear hg
  by_cases hlt : j < k
  · obtain ⟨b, off, rfl, hbl, hcc⟩ := i1.resolve_left (by omega)
    have x0 : wr.cell? ⟨b, off + j, none⟩ = some (.int .i64 (z j)) := (hb.cell (by exact hbl)).trans (hcc j hlt)
    have hzj := HA.out j hlt
    clear hcc
    go_wp2_with fail
    refine (pow_any (z j) wr hzj).mono ?_
    rintro e w2 ⟨p, rfl, hp, rfl⟩
    have HP : Hid (Pow2 (z j) p) := hp
    clear hp
    by_cases hpb : p < B
    · go_wp2_with fail
      refine (znext_any v.heap.size g (z j) B w2 hc hf HG.out.1 HG.out.2.1 hzj).mono ?_
      rintro e w3 ⟨x, rfl, hx, rfl⟩
      obtain ⟨y1, y2, y3, y4, y5⟩ := larger HG.out hx HP.out hzj
      have GN := gok_next HG.out hx
      have hxB : x = B := by omega
      clear hx y5
      subst hxB
      have hne : (x != x) = false := by simp
      by_cases h2 : 2 * x ≤ 262144
      · have hcap : capd x = 2 * x := by unfold capd; rw [if_pos h2]
        rw [hcap] at GN ⊢
        have HGN : Hid (GOk (2 * x) (2 * x)) := GN
        clear GN hcap
        go_wp2
        go_roundw
        case rel => exact ⟨j + 1, 2 * x, 2 * x, by omega, by go_num, rfl, hb.setCell (Nat.le_refl _) _, cell_set hc _, by rw [World.frozen?_setCell]; exact hf, HGN.out⟩
        case measure => simp [intOf]; omega
      · have hcap : capd x = 262144 := by unfold capd; rw [if_neg h2]
        rw [hcap] at GN ⊢
        have HGN : Hid (GOk 262144 262144) := GN
        clear GN hcap
        go_wp2
        go_roundw
        case rel => exact ⟨j + 1, 262144, 262144, by omega, by go_num, rfl, hb.setCell (Nat.le_refl _) _, cell_set hc _, by rw [World.frozen?_setCell]; exact hf, HGN.out⟩
        case measure => simp [intOf]; omega
    · go_wp2_with fail
      refine (znext_any v.heap.size g (z j) B w2 hc hf HG.out.1 HG.out.2.1 hzj).mono ?_
      rintro e w3 ⟨x, rfl, hx, rfl⟩
      obtain ⟨y1, y2, y3, y4, y5⟩ := larger HG.out hx HP.out hzj
      have GN := gok_next HG.out hx
      have hxB : x = p := by omega
      clear hx y5
      subst hxB
      have hne : (x != x) = false := by simp
      by_cases h2 : 2 * x ≤ 262144
      · have hcap : capd x = 2 * x := by unfold capd; rw [if_pos h2]
        rw [hcap] at GN ⊢
        have HGN : Hid (GOk (2 * x) (2 * x)) := GN
        clear GN hcap
        go_wp2
        go_roundw
        case rel => exact ⟨j + 1, 2 * x, 2 * x, by omega, by go_num, rfl, hb.setCell (Nat.le_refl _) _, cell_set hc _, by rw [World.frozen?_setCell]; exact hf, HGN.out⟩
        case measure => simp [intOf]; omega
      · have hcap : capd x = 262144 := by unfold capd; rw [if_neg h2]
        rw [hcap] at GN ⊢
        have HGN : Hid (GOk 262144 262144) := GN
        clear GN hcap
        go_wp2
        go_roundw
        case rel => exact ⟨j + 1, 262144, 262144, by omega, by go_num, rfl, hb.setCell (Nat.le_refl _) _, cell_set hc _, by rw [World.frozen?_setCell]; exact hf, HGN.out⟩
        case measure => simp [intOf]; omega
  go_wp2
  go_ret
  exact ⟨rfl, b1.trans (hb.mono s1)⟩

set_option maxHeartbeats 400000 in
theorem early (a : Option Addr) (len cap : Nat) (w : World) (hm : len ≤ 9223372036854775807) (hl : ¬ len ≤ 65536) :
    Calls Try.prog 7 #[.slice a len cap] w fun e w' => e = .returned (.bool true) ∧ Below w.heap.size w w' := by
  go_enter Try.func7, Try.ntmps7
  go_wp2_with fail
  refine (zz27_else a len cap w hm).mono ?_
  rintro e w ⟨he, rfl⟩
  rcases he with rfl | rfl
  all_goals
    go_wp2
    go_ret
    exact ⟨rfl, Below.refl _ _⟩

theorem walk (a0 : Option Addr) (len0 cap0 : Nat) (z0 : List Int) (w : World) (w0 : IsRow .i64 w a0 len0 cap0 z0) :
    Calls Try.prog 7 #[.slice a0 len0 cap0] w fun e w' => e = .returned (.bool true) ∧ Below w.heap.size w w' := by
  obtain ⟨i0, m0, n0, f0⟩ := w0.ins
  by_cases hl : len0 ≤ 65536
  · exact main a0 len0 cap0 _ w i0 n0 hl
  · exact early a0 len0 cap0 w m0 hl

/-! ### The row's step -/
set_option maxRecDepth 100000 in
theorem lifted (os : Os) (started : os.Started) (H : Type) (enc : TypeId × Value → H) :
    ReturnsInHanded {} Try.checked os 7 .any (Rows.fnNextSizeIsLargerOfDoubledAndFitSpec.pre6 enc Try.prog Try.f7 Rows.fnNextSizeIsLargerOfDoubledAndFitRow.domain false) (Rows.fnNextSizeIsLargerOfDoubledAndFitSpec.post enc Try.prog Try.f7 false true false false) := by
  refine returnsInHanded_of_change (C := Try.checked) own started (by kernel_rfl) Try.func7
    (ChangeSpec.witness6 (enc := enc) (C := Try.checked) false ⟨#[], #[.slice none 0 0], []⟩ 8 (by kernel_rfl) (by kernel_rfl) (by kernel_rfl) (by kernel_rfl)) ?_
  intro W base args ds gs before hval0 hW hcnd _
  have hval : ∀ (j : Nat) t v, Try.f7.params[j]? = some t → args[j]? = some v → Value.okWide Try.prog W .any base t v := hval0
  have hW' := hW
  obtain ⟨p, q, hA0, hV, rfl, hfz, hnd⟩ := hW
  have hA : DataW.TrodAll enc Try.prog W 0 (fun _ => true) true Try.f7.params.toList args.toList ds p := hA0
  rw [Try.params7] at hA hval
  obtain ⟨v0, vs0, d0, ds0, p0, q0, hargs, rfl, rfl, h0, r0⟩ := trodAll_cons hA
  obtain ⟨rfl, rfl, rfl⟩ := trodAll_nil r0
  obtain rfl : args = #[v0] := by cases args; simp_all
  obtain ⟨rfl, rfl⟩ := trodVars_none hV
  obtain ⟨a0, len0, cap0, rfl⟩ := okWide_slice Try.underlying22 (hval 0 22 v0 rfl rfl)
  have k0 := h0
  have lt0 : ∀ x ∈ p0, x.block < W.heap.size := by obtain ⟨m, hm⟩ := k0; exact DataW.trod_lt m _ _ _ hm
  obtain ⟨z0, w0⟩ : ∃ zs, IsRow .i64 W a0 len0 cap0 zs := by
    obtain ⟨fuel, hf⟩ := h0
    rcases open_ints Try.underlying22 Try.underlying3 (by kernel_rfl) hf with ⟨hcs, _⟩ | ⟨x, l, c, zs, hcs, _, hl, hm, hz, _, hcell, hwz⟩
    · simp [Value.cells] at hcs
      obtain ⟨rfl, rfl, rfl⟩ := hcs
      exact ⟨[], .inl ⟨rfl, rfl, rfl, rfl⟩⟩
    · simp [Value.cells] at hcs
      obtain ⟨rfl, rfl, rfl⟩ := hcs
      exact ⟨zs, .inr ⟨_, rfl, hl, hm, by simpa using hz, hcell, hwz⟩⟩
  clear hA0 hval0
  refine (walk a0 len0 cap0 z0 W w0).mono fun e W' ⟨he, bel⟩ => ?_
  subst he
  exact ⟨_, rfl, _, _, _, [], _, [], hW', trodAll_mk1 (shut_bool Try.underlying4 _), (trodAll_cons_mk (Below.trod laidOut (by kernel_rfl) (of_decide_eq_true (by kernel_rfl)) k0 bel lt0) trodAll_mk0), rfl, bel.frame _, fun h => by cases h⟩

theorem over : Rows.fnNextSizeIsLargerOfDoubledAndFitRow.holds Try.pinned (OpenSpec.ofChange Rows.fnNextSizeIsLargerOfDoubledAndFitSpec) :=
  OpenClaim.holds_of_wide 7 Try.f7 rfl rfl rfl rfl rfl rfl rfl ⟨rfl, rfl, rfl, rfl, rfl⟩ rfl rfl rfl rfl rfl (by kernel_rfl) Try.func7 (by kernel_rfl)
    (of_decide_eq_true (by kernel_rfl)) (by unfold Func.isWrapper; first | (rw [if_pos (by decide +kernel)]; kernel_rfl) | (rw [if_neg (by decide +kernel)]; exact ⟨rfl, rfl⟩))
    (fun os started H enc _ => lifted os started H enc)

/-- ████ THE STATEMENT ████ -/
theorem proved : Rows.FnNextSizeIsLargerOfDoubledAndFitSaid := over
end Go.Proofs.Qxb6600157a.fnNextSizeIsLargerOfDoubledAndFit
