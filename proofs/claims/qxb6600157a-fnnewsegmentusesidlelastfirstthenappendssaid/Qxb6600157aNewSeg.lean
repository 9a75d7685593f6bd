import Derived.Test.Qxb6600157aGuard
namespace Go.Proofs.Qxb6600157a
open Go.RowKit
set_option linter.unusedVariables false

/-- The arena after j segments were opened. -/
def Opened (w : World) (B A I ic s n : Nat) (id : Nat → Int) (j : Nat) : Prop :=
  ∃ S sc f, Arena w B A S sc I ic (s + (j - n)) f (n - j) id 0 false

theorem opened_next {w w' : World} {B A I ic s n : Nat} {id : Nat → Int} {j : Nat} {f : Nat → Seg} {size : Nat} {p : Nat}
    (h : NewPost w w' B A I ic (s + (j - n)) f (n - j) id 0 false size false p) :
    ∃ S sc f, Arena w' B A S sc I ic (s + (j + 1 - n)) f (n - (j + 1)) id 0 false ∧ (f p).a.isNone = false ∧ (f p).c = size ∧ (f p).live = 0 ∧ (f p).large = false ∧ Below B w w' := by
  obtain ⟨S', sc', g, H, b⟩ := h
  have e1 : (if n - j = 0 then s + (j - n) + 1 else s + (j - n)) = s + (j + 1 - n) := by split <;> omega
  have e2 : n - j - 1 = n - (j + 1) := by omega
  rw [e1, e2] at H
  exact ⟨S', sc', _, H, by simp [upd], by simp [upd], by simp [upd], by simp [upd], b⟩

set_option maxRecDepth 100000 in
set_option maxHeartbeats 2000000 in
theorem newseg_main (a0 : Option Addr) (s c0 : Nat) (lv : Nat → Int) (a1 : Option Addr) (kn c1 : Nat) (kd : Nat → Int) (a2 : Option Addr) (n c2 : Nat) (id : Nat → Int) (a3 : Option Addr) (m c3 : Nat) (sz : Nat → Int) (w : World)
    (h0 : InF w a0 s (fun j => .int .i64 (lv j))) (h1 : InF w a1 kn (fun j => .int .u8 (kd j))) (h2 : InF w a2 n (fun j => .int .u32 (id j))) (h3 : InF w a3 m (fun j => .int .i64 (sz j)))
    (g0 : a0 = none → s = 0) (g1 : a1 = none → kn = 0) (g2 : a2 = none → n = 0) (g3 : a3 = none → m = 0) (m0 : s ≤ 65536) (m1 : kn ≤ 65536) (m2 : n ≤ 65536) (m3 : m ≤ 65536) (hid : ∀ j, j < n → 0 ≤ id j) :
    Calls Try.prog 5 #[.slice a0 s c0, .slice a1 kn c1, .slice a2 n c2, .slice a3 m c3] w fun e w' => e = .returned (.bool true) ∧ Below w.heap.size w w' := by
  have HID : Hid (∀ j, j < n → 0 ≤ id j) := hid
  have G0 : Hid (a0 = none → s = 0) := g0
  have G1 : Hid (a1 = none → kn = 0) := g1
  have G2 : Hid (a2 = none → n = 0) := g2
  have G3 : Hid (a3 = none → m = 0) := g3
  clear hid g0 g1 g2 g3
  go_enter Try.func5, Try.ntmps5
  go_wp2_with fail
  refine (zz22_any a0 a1 a2 a3 s kn n m c0 c1 c2 c3 w m0 m1 m2 m3).mono ?_
  rintro e w ⟨rfl, rfl⟩
  go_upto_if 64 with fail
  have hz0 : 0 ≤ 8 * (s : Int) + (kn : Int) + 8 * (n : Int) + 8 * (m : Int) := by omega
  have hz1 : 8 * (s : Int) + (kn : Int) + 8 * (n : Int) + 8 * (m : Int) ≤ 8388608 := by omega
  generalize 8 * (s : Int) + (kn : Int) + 8 * (n : Int) + 8 * (m : Int) = z at hz0 hz1 ⊢
  go_wp2_with fail
  · go_ret
    exact ⟨rfl, Below.refl _ _⟩
  clear hz0 hz1
  go_loop [9, 10] (fun t i => ∃ (k : Nat) (y : Int), k ≤ m ∧ i = .int .i64 k ∧ t = .int .i64 y ∧ 0 ≤ y ∧ y ≤ 1048576 ∧ ∀ j, j < k → 0 ≤ sz j ∧ sz j ≤ 65536) (fun _ i => m - (intOf i).toNat)
  case atStart => exact ⟨0, _, Nat.zero_le _, rfl, rfl, by omega, by omega, fun j hj => by omega⟩
  case round =>
  obtain ⟨k, y, hk, rfl, rfl, hy0, hy1, hall⟩ := hrel
  have HA : Hid (∀ j, j < k → 0 ≤ sz j ∧ sz j ≤ 65536) := hall
  clear hall
  by_cases hlt : k < m
  · obtain ⟨b, off, rfl, hbl, hc⟩ := h3.resolve_left (by omega)
    have x0 := hc k hlt
    clear hc
    by_cases p0 : 0 ≤ sz k
    · by_cases p1 : sz k ≤ 65536
      · by_cases p2 : y + sz k ≤ 1048576
        · go_wp2
          go_round
          case rel => exact ⟨k + 1, _, by omega, by go_num, rfl, by omega, by omega, fun j hj => if e : j = k then by subst e; exact ⟨p0, p1⟩ else HA.out j (by omega)⟩
          case measure => simp [intOf]; omega
        · go_wp2
          go_ret
          exact ⟨rfl, Below.refl _ _⟩
      · go_wp2
        go_ret
        exact ⟨rfl, Below.refl _ _⟩
    · go_wp2
      go_ret
      exact ⟨rfl, Below.refl _ _⟩
  have hkl : k = m := by omega
  subst hkl
  clear hk hlt hy0 hy1
  go_wp2_with fail
  refine (inRange_any a2 n c2 id s w h2 m2 m0 HID.out).mono ?_
  rintro e w ⟨he, rfl⟩
  rcases he with ⟨rfl, hr⟩ | rfl
  case inr =>
    go_wp2
    go_ret
    exact ⟨rfl, Below.refl _ _⟩
  have HR : Hid (∀ j, j < n → id j < s) := hr
  clear hr
  go_wp2_with fail
  refine (cloneI a0 s c0 lv w h0 G0.out m0).mono ?_
  rintro e v0 ⟨A0, C0, rfl, i0, b0⟩
  have i1 := h1.below b0
  have i2 := h2.below b0
  have i3 := h3.below b0
  clear h0 h1 h2 h3
  have z0 := b0.size
  go_wp2_with fail
  refine (cloneU8 a1 kn c1 kd v0 i1 G1.out m1).mono ?_
  rintro e v1 ⟨A1, C1, rfl, j1, b1⟩
  have j0 := i0.below b1
  have j2 := i2.below b1
  have j3 := i3.below b1
  clear i0 i1 i2 i3
  have z1 := b1.size
  go_wp2_with fail
  refine (cloneU32 a2 n c2 id v1 j2 G2.out m2).mono ?_
  rintro e v2 ⟨A2, C2, rfl, k2, b2⟩
  have k0 := j0.below b2
  have k1 := j1.below b2
  have k3 := j3.below b2
  clear j0 j1 j2 j3
  have z2 := b2.size
  go_wp2_with fail
  refine (cloneI a3 k c3 sz v2 k3 G3.out m3).mono ?_
  rintro e v3 ⟨A3, C3, rfl, l3, b3⟩
  have l0 := k0.below b3
  have l1 := k1.below b3
  have l2 := k2.below b3
  clear k0 k1 k2 k3
  have z3 := b3.size
  go_wp2_with fail
  refine (make_any A0 s C0 lv A1 kn C1 kd A2 n C2 id 0 false v3 l0 l1 l2 m0 m1 m2).mono ?_
  rintro e v4 ⟨S, I, f, rfl, ar, hok, b4⟩
  have z4 := b4.size
  obtain ⟨B, hB⟩ : ∃ B, v3.heap.size = B := ⟨_, rfl⟩
  have BW : Hid (Below w.heap.size w v3) := ((b0.trans (b1.mono z0)).trans (b2.mono (by omega))).trans (b3.mono (by omega))
  clear b0 b1 b2 b3
  rw [hB] at ar b4 z4 z3 ⊢
  have HB : Hid (v3.heap.size = B) := hB
  have OP : Opened v4 B B I n s n id 0 := ⟨S, s, f, by simpa using ar⟩
  clear hB ar hok z0 z1 z2 z3 l0 l1
  go_wp2_with fail
  go_loopw [14] (fun i wr => ∃ j : Nat, j ≤ k ∧ i = .int .i64 j ∧ Opened wr B B I n s n id j ∧ Below B v3 wr ∧ B ≤ wr.heap.size) (fun i _ => k - (intOf i).toNat)
  case atStart => exact ⟨0, Nat.zero_le _, rfl, OP, b4, z4⟩
  case round =>
  obtain ⟨j, hj, rfl, op, hb, hz⟩ := hrel
  clear OP b4 z4
  by_cases hlt : j < k
  · obtain ⟨b3, o3, rfl, hb3, hc3⟩ := l3.resolve_left (by omega)
    obtain ⟨q0, q1⟩ := HA.out j hlt
    obtain ⟨t, ht⟩ := Int.eq_ofNat_of_zero_le q0
    have x3 : wr.cell? ⟨b3, o3 + j, none⟩ = some (.int .i64 (t : Int)) := by rw [← ht]; exact (hb.cell (by show b3 < B; rw [← HB.out]; exact hb3)).trans (hc3 j hlt)
    have qt : t ≤ 65536 := by omega
    have L3 : Hid (b3 < B ∧ v3.cell? ⟨b3, o3 + j, none⟩ = some (.int .i64 (t : Int))) := ⟨by rw [← HB.out]; exact hb3, by rw [← ht]; exact hc3 j hlt⟩
    clear hc3 q0 q1 ht
    obtain ⟨S1, sc1, f1, ar1⟩ := op
    have htt : ((t : Int) != (t : Int)) = false := by simp
    by_cases hjn : j < n
    · obtain ⟨b2, o2, rfl, hb2, hc2⟩ := l2.resolve_left (by omega)
      obtain ⟨pp, hpp⟩ := Int.eq_ofNat_of_zero_le (HID.out (n - 1 - j) (by omega))
      have hps := HR.out (n - 1 - j) (by omega)
      have L2 : Hid (b2 < B ∧ v3.cell? ⟨b2, o2 + (n - 1 - j), none⟩ = some (.int .u32 (pp : Int))) := ⟨by rw [← HB.out]; exact hb2, by rw [← hpp]; exact hc2 _ (by omega)⟩
      have hpl : pp < s := by omega
      have PP : Hid ((∃ k, n - j = k + 1 ∧ id k = pp ∧ pp < s + (j - n)) ∨ (n - j = 0 ∧ pp = s + (j - n))) := .inl ⟨n - 1 - j, by omega, hpp, by omega⟩
      clear hc2 hpp hps
      go_wp2_with fail
      refine (znew_any wr B B S1 sc1 I n (s + (j - n)) f1 (n - j) id 0 false t false pp ar1 PP.out qt (by omega) (by omega) hz).mono ?_
      rintro e w5 ⟨rfl, np⟩
      obtain ⟨S2, sc2, f2, ar2, t0, t1, t2, t3, b5⟩ := opened_next np
      clear np ar1
      have z5 := b5.size
      have hb5 := hb.trans b5
      have x2 := (hb5.cell (p := ⟨b2, o2 + (n - 1 - j), none⟩) L2.out.1).trans L2.out.2
      have hpe : ((pp : Int) != (pp : Int)) = false := by simp
      go_wp2_with fail
      refine (segAt_any w5 B B S2 sc2 I n (s + (j + 1 - n)) f2 (n - (j + 1)) id 0 false pp ar2 (by omega) (by omega)).mono ?_
      rintro e w6 ⟨rfl, ar6, b6⟩
      rw [t0, t1, t2, t3]
      have hb6 := hb5.trans b6
      have z6 := b6.size
      have x6 := (hb6.cell (p := ⟨b3, o3 + j, none⟩) L3.out.1).trans L3.out.2
      clear x2 x3 b5 b6 t0 t1 t2 t3 ar2 hb hb5
      go_wp2
      go_roundw
      case rel => exact ⟨j + 1, by omega, by go_num, ⟨_, _, _, ar6⟩, hb6, by omega⟩
      case measure => simp [intOf]; omega
    · go_wp2_with fail
      refine (znew_any wr B B S1 sc1 I n (s + (j - n)) f1 (n - j) id 0 false t false (s + (j - n)) ar1 (.inr ⟨by omega, rfl⟩) qt (by omega) (by omega) hz).mono ?_
      rintro e w5 ⟨rfl, np⟩
      obtain ⟨S2, sc2, f2, ar2, t0, t1, t2, t3, b5⟩ := opened_next np
      clear np ar1
      have z5 := b5.size
      have hb5 := hb.trans b5
      have hpc : (s : Int) + ((j : Int) - (n : Int)) = ((s + (j - n) : Nat) : Int) := by omega
      have hpn : n ≤ j := by omega
      have hpb : s + (j - n) ≤ 131072 := by omega
      have hpl : s + (j - n) < s + (j + 1 - n) := by omega
      generalize hPP : s + (j - n) = pp at *
      have hpe : ((pp : Int) != (pp : Int)) = false := by simp
      go_wp2_with fail
      refine (segAt_any w5 B B S2 sc2 I n (s + (j + 1 - n)) f2 (n - (j + 1)) id 0 false pp ar2 (by omega) (by omega)).mono ?_
      rintro e w6 ⟨rfl, ar6, b6⟩
      rw [t0, t1, t2, t3]
      have hb6 := hb5.trans b6
      have z6 := b6.size
      have x6 := (hb6.cell (p := ⟨b3, o3 + j, none⟩) L3.out.1).trans L3.out.2
      clear x3 b5 b6 t0 t1 t2 t3 ar2 hb hb5
      go_wp2
      go_roundw
      case rel => exact ⟨j + 1, by omega, by go_num, ⟨_, _, _, ar6⟩, hb6, by omega⟩
      case measure => simp [intOf]; omega
  have hjk : j = k := by omega
  subst hjk
  clear hj hlt
  obtain ⟨S1, sc1, f1, ar1⟩ := op
  have HBB : Hid (Below w.heap.size w wr) := BW.out.trans (hb.mono (by rw [← HB.out]; exact BW.out.size))
  have hne : ((s : Int) != (s : Int)) = false := by simp
  by_cases hjn : j ≤ n
  · have e1 : s + (j - n) = s := by omega
    rw [e1] at ar1
    clear e1
    have hpc : (n : Int) - (j : Int) = ((n - j : Nat) : Int) := by omega
    have hrn : n - j ≤ n := by omega
    generalize n - j = r at hpc ar1 hrn
    have hre : ((r : Int) != (r : Int)) = false := by simp
    go_wp2_with fail
    refine (segCount_any wr B B S1 sc1 I n s f1 r id 0 false ar1).mono ?_
    rintro e w5 ⟨rfl, rfl⟩
    go_wp2_with fail
    refine (idleCount_any w5 B B S1 sc1 I n s f1 r id 0 false ar1).mono ?_
    rintro e w6 ⟨rfl, rfl⟩
    go_wp2_with fail
    go_loopw [25] (fun i wr => ∃ q : Nat, q ≤ r ∧ i = .int .i64 q ∧ Arena wr B B S1 sc1 I n s f1 r id 0 false ∧ Below B v3 wr) (fun i _ => r - (intOf i).toNat)
    case atStart => exact ⟨0, Nat.zero_le _, rfl, ar1, hb⟩
    case round =>
    clear ar1 hb hz HBB
    obtain ⟨q, hq, rfl, ar, hb⟩ := hrel
    by_cases hlt : q < r
    · obtain ⟨b2, o2, rfl, hb2, hc2⟩ := l2.resolve_left (by omega)
      have x2 : wr.cell? ⟨b2, o2 + q, none⟩ = some (.int .u32 (id q)) := (hb.cell (by show b2 < B; rw [← HB.out]; exact hb2)).trans (hc2 q (by omega))
      have hie : (id q != id q) = false := by simp
      clear hc2
      go_wp2_with fail
      go_quiet ((go_at_call 24; refine Calls.quiet_of_same (idleAt_any _ B B S1 sc1 I n s f1 r id 0 false q (ar.drewN _) hlt)))
      go_wp2
      go_roundw
      case rel => exact ⟨q + 1, by omega, by go_num, ar.drewN _, bel_drewN hb _⟩
      case measure => simp [intOf]; omega
    · go_wp2
      go_ret
      exact ⟨rfl, BW.out.trans (hb.mono (by rw [← HB.out]; exact BW.out.size))⟩
  · have hpc : (s : Int) + ((j : Int) - (n : Int)) = ((s + (j - n) : Nat) : Int) := by omega
    have e2 : n - j = 0 := by omega
    rw [e2] at ar1
    generalize s + (j - n) = pp at hpc ar1
    have hpe : ((pp : Int) != (pp : Int)) = false := by simp
    go_wp2_with fail
    refine (segCount_any wr B B S1 sc1 I n pp f1 0 id 0 false ar1).mono ?_
    rintro e w5 ⟨rfl, rfl⟩
    go_wp2_with fail
    refine (idleCount_any w5 B B S1 sc1 I n pp f1 0 id 0 false ar1).mono ?_
    rintro e w6 ⟨rfl, rfl⟩
    go_wp2_with fail
    go_loop [25] (fun i => i = .int .i64 0) (fun _ => 0)
    case atStart => rfl
    case round =>
    obtain rfl := hrel
    go_wp2
    go_ret
    exact ⟨rfl, HBB.out⟩
end Go.Proofs.Qxb6600157a
