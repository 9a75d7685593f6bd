import Derived.Test.Qxb6600157aSparse
namespace Go.Proofs.Qxb6600157a
open Go.RowKit
set_option linter.unusedVariables false

set_option maxRecDepth 100000 in
set_option maxHeartbeats 2000000 in
theorem sparse_main (a0 : Option Addr) (s c0 : Nat) (lv : Nat → Int) (a1 : Option Addr) (kn c1 : Nat) (kd : Nat → Int) (a2 : Option Addr) (n c2 : Nat) (id : Nat → Int) (hd : Nat) (hh : Bool) (sz : Int) (w : World)
    (h0 : InF w a0 s (fun j => .int .i64 (lv j))) (h1 : InF w a1 kn (fun j => .int .u8 (kd j))) (h2 : InF w a2 n (fun j => .int .u32 (id j)))
    (g0 : a0 = none → s = 0) (g1 : a1 = none → kn = 0) (g2 : a2 = none → n = 0) (m0 : s ≤ 65536) (m1 : kn ≤ 65536) (m2 : n ≤ 65536) (hid : ∀ j, j < n → 0 ≤ id j) (hhd : hd ≤ 4294967295) :
    Calls Try.prog 4 #[.slice a0 s c0, .slice a1 kn c1, .slice a2 n c2, .int .u32 (hd : Int), .bool hh, .int .i64 sz] w fun e w' => e = .returned (.bool true) ∧ Below w.heap.size w w' := by
  have HID : Hid (∀ j, j < n → 0 ≤ id j) := hid
  have G0 : Hid (a0 = none → s = 0) := g0
  have G1 : Hid (a1 = none → kn = 0) := g1
  have G2 : Hid (a2 = none → n = 0) := g2
  clear hid g0 g1 g2
  go_enter Try.func4, Try.ntmps4
  go_wp2_with fail
  refine (zz17_any a0 a1 a2 s kn n c0 c1 c2 hd hh sz w m0 m1 m2).mono ?_
  rintro e w ⟨rfl, rfl⟩
  go_upto_if 53 with fail
  have hz0 : 0 ≤ 8 * (s : Int) + (kn : Int) + 8 * (n : Int) := by omega
  have hz1 : 8 * (s : Int) + (kn : Int) + 8 * (n : Int) ≤ 8388608 := by omega
  generalize 8 * (s : Int) + (kn : Int) + 8 * (n : Int) = z at hz0 hz1 ⊢
  by_cases q0 : 0 ≤ sz
  case neg =>
    go_wp2
    all_goals
      go_ret
      exact ⟨rfl, Below.refl _ _⟩
  by_cases q1 : sz ≤ 65536
  case neg =>
    go_wp2
    all_goals
      go_ret
      exact ⟨rfl, Below.refl _ _⟩
  obtain ⟨size, rfl⟩ := Int.eq_ofNat_of_zero_le q0
  have qs : size ≤ 65536 := by omega
  go_wp2_with fail
  · go_ret
    exact ⟨rfl, Below.refl _ _⟩
  clear hz0 hz1 q0 q1
  refine (inRange_any a2 n c2 id s w h2 m2 m0 HID.out).mono ?_
  rintro e w ⟨he, rfl⟩
  rcases he with ⟨rfl, hr⟩ | rfl
  case inr =>
    go_wp2
    go_ret
    exact ⟨rfl, Below.refl _ _⟩
  have HR : Hid (∀ j, j < n → id j < s) := hr
  clear hr
  go_wp2_with fail
  refine (givenBack_any a2 n c2 id a1 kn c1 kd w h2 h1 m2 m1 (fun j hj => ⟨HID.out j hj, by have := HR.out j hj; omega⟩)).mono ?_
  rintro e w ⟨he, rfl⟩
  rcases he with ⟨rfl, hr⟩ | rfl
  case inr =>
    go_wp2
    go_ret
    exact ⟨rfl, Below.refl _ _⟩
  have HBK : Hid (∀ j, j < n → Back kd kn (id j).toNat) := hr
  clear hr
  go_wp2_with fail
  refine (nonNeg_any a0 s c0 lv w h0 m0).mono ?_
  rintro e w ⟨he, rfl⟩
  rcases he with ⟨rfl, hr⟩ | rfl
  case inr =>
    go_wp2
    go_ret
    exact ⟨rfl, Below.refl _ _⟩
  have HLV : Hid (∀ j, j < s → 0 ≤ lv j) := hr
  clear hr
  go_wp2_with fail
  refine (headHeld_any s a1 kn c1 kd hd hh w h1 m0 m1 hhd).mono ?_
  rintro e w ⟨he, rfl⟩
  rcases he with ⟨rfl, hr⟩ | rfl
  case inr =>
    go_wp2
    go_ret
    exact ⟨rfl, Below.refl _ _⟩
  have HHD : Hid (HeadOk kd kn s hd hh) := hr
  clear hr
  go_wp2_with fail
  refine (cloneI a0 s c0 lv w h0 G0.out m0).mono ?_
  rintro e v0 ⟨A0, C0, rfl, i0, b0⟩
  have i1 := h1.below b0
  have i2 := h2.below b0
  clear h0 h1 h2
  have z0 := b0.size
  go_wp2_with fail
  refine (cloneU8 a1 kn c1 kd v0 i1 G1.out m1).mono ?_
  rintro e v1 ⟨A1, C1, rfl, j1, b1⟩
  have j0 := i0.below b1
  have j2 := i2.below b1
  clear i0 i1 i2
  have z1 := b1.size
  go_wp2_with fail
  refine (cloneU32 a2 n c2 id v1 j2 G2.out m2).mono ?_
  rintro e v2 ⟨A2, C2, rfl, k2, b2⟩
  have k0 := j0.below b2
  have k1 := j1.below b2
  clear j0 j1 j2
  have z2 := b2.size
  go_wp2_with fail
  refine (make_any A0 s C0 lv A1 kn C1 kd A2 n C2 id hd hh v2 k0 k1 k2 m0 m1 m2).mono ?_
  rintro e v4 ⟨S, I, f, rfl, ar, hok, b4⟩
  have z4 := b4.size
  have BW : Hid (Below w.heap.size w v2) := (b0.trans (b1.mono z0)).trans (b2.mono (by omega))
  have HOK : Hid (∀ i, i < s → SegOk lv kd kn f i) := hok
  clear b0 b1 b2 hok k0 k1 k2
  obtain ⟨B, hB⟩ : ∃ B, v2.heap.size = B := ⟨_, rfl⟩
  rw [hB] at ar b4 z4 ⊢
  have HB : Hid (v2.heap.size = B) := hB
  clear hB
  have hpx : ∃ p : Nat, (∃ k, n = k + 1 ∧ id k = p ∧ p < s) ∨ (n = 0 ∧ p = s) := by
    rcases Nat.eq_zero_or_pos n with h | h
    · exact ⟨s, .inr ⟨h, rfl⟩⟩
    · obtain ⟨p, hp⟩ := Int.eq_ofNat_of_zero_le (HID.out (n - 1) (by omega))
      have := HR.out (n - 1) (by omega)
      exact ⟨p, .inl ⟨n - 1, by omega, hp, by omega⟩⟩
  obtain ⟨p, hp⟩ := hpx
  have HP : Hid ((∃ k, n = k + 1 ∧ id k = p ∧ p < s) ∨ (n = 0 ∧ p = s)) := hp
  clear hp
  go_wp2_with fail
  refine (znew_any v4 B B S s I n s f n id hd hh size false p ar HP.out qs m2 (by omega) z4).mono ?_
  rintro e v5 ⟨rfl, np⟩
  obtain ⟨S5, sc5, g, ar5, b5⟩ := np
  obtain ⟨y1, y2, y3, y4, y5⟩ := fresh (g := g) (size := size) HOK.out HLV.out HHD.out HBK.out HP.out
  have hsn : (if n = 0 then s + 1 else s) ≤ 65537 := by split <;> omega
  clear ar
  generalize (if n = 0 then s + 1 else s) = sn at hsn ar5 y1 y5
  generalize (upd f p ⟨some ⟨g, 0, none⟩, size, 0, false⟩) = f5 at ar5 y2 y3 y5
  have z5 := b5.size
  have Y2 : Hid (Fine f5 p) := y2
  have Y3 : Hid ((f5 p).live = 0) := y3
  have Y4 : Hid (hh = true → hd ≠ p) := y4
  have Y5 : Hid (∀ i, i < sn → 0 ≤ (f5 i).live) := y5
  clear y2 y3 y4 y5
  go_wp2_with fail
  refine (zsparsest_any v5 B B S5 sc5 I n sn f5 (n - 1) id hd hh p ar5 (by omega) (by omega) y1 Y2.out Y3.out Y4.out Y5.out).mono ?_
  rintro e v6 ⟨b, rfl, hbp, ⟨x1, x2⟩, x3, ar6, b6⟩
  have z6 := b6.size
  have hbs : b < sn := by omega
  clear ar5
  go_wp2_with fail
  refine (segCount_any v6 B B S5 sc5 I n sn f5 (n - 1) id hd hh ar6).mono ?_
  rintro e v7 ⟨rfl, rfl⟩
  go_wp2_with fail
  refine (segAt_any v7 B B S5 sc5 I n sn f5 (n - 1) id hd hh b ar6 hbs (by omega)).mono ?_
  rintro e v8 ⟨rfl, ar8, b8⟩
  rw [x1, x2, x3]
  clear x1 x2 x3
  go_wp2
  go_ret
  exact ⟨rfl, BW.out.trans ((((b4.trans b5).trans b6).trans b8).mono (by rw [← HB.out]; exact BW.out.size))⟩
end Go.Proofs.Qxb6600157a
