import Derived.Test.Qxb6600092aDdl
import Derived.Test.Qxb6600092aParseWalk
import Derived.Test.Qxb6600092aGuard
namespace Go.Proofs.Qxb6600092a
open Go.RowKit
set_option linter.unusedVariables false

theorem keyL_ok {nm : Nat → ByteArray} {ci : Nat → Int} {ds : Nat → Bool} {l m : Nat} (h : ∀ x, x < m → NameOk (nm x).data.toList) (hr : ∀ j, j < l → 0 ≤ ci j ∧ ci j < m) : ∀ p ∈ keyL nm ci ds l, NameOk p.1 := by
  intro p hp
  simp only [keyL, List.mem_map, List.mem_range] at hp
  obtain ⟨j, hj, rfl⟩ := hp
  have := hr j hj
  exact h _ (by omega)

theorem ddl_len (u : Bool) (n t : List UInt8) (K S : List (List UInt8 × Bool)) : (ddl u n t K S).length ≤ n.length + t.length + (items K).length + (items S).length + 100 := by
  have h1 : ((if u then uniqueL else []) : List UInt8).length ≤ 7 := by split <;> simp [uniqueL]
  have h2 : (tailS S).length ≤ (items S).length + 11 := by unfold tailS; split <;> simp [storingL]
  simp only [ddl, headS, createL, indexL, onL, openL, List.length_append, List.length_cons, List.length_nil]
  omega

theorem keyL_flag (nm : Nat → ByteArray) (ci : Nat → Int) (l : Nat) : ∀ p ∈ keyL nm ci (fun _ => false) l, p.2 = false := by
  intro p hp
  simp only [keyL, List.mem_map, List.mem_range] at hp
  obtain ⟨j, hj, rfl⟩ := hp
  rfl

theorem toA_toL (n : ByteArray) : (⟨n.data.toList.toArray⟩ : ByteArray) = n := by cases n; rfl

theorem owns_in {w : World} {B e n c : Nat} {a : Option Addr} {xs : List Value} {f : Nat → Value} (h : w.ownsRow B e 1 (.slice a n c) n xs) (hf : ∀ j, j < n → xs[j]? = some (f j)) : InF w a n f := by
  rcases h.2 with ⟨hv, h0⟩ | ⟨g, cap, cur, hv, hg, hh, hn, hc, hs, ht⟩
  · exact .inl h0
  · injection hv with hv _ _
    subst hv
    refine .inr ⟨g, 0, rfl, (Array.getElem?_eq_some_iff.1 hh).1, fun j hj => ?_⟩
    rw [Nat.zero_add, Lib.cell_of_heap hh, ← hf j hj, ← ht, ← Array.getElem?_toList, List.getElem?_take, if_pos (by omega)]

theorem owns_key {w : World} {B l c : Nat} {a : Option Addr} {nm : Nat → ByteArray} {ci : Nat → Int} {ds : Nat → Bool} (h : w.ownsRow B 9 1 (.slice a l c) l ((keyL nm ci ds l).map nmV)) : InF w a l (fun j => .string (nm (ci j).toNat)) :=
  owns_in h (fun j hj => by simp [keyL, nmV, hj])

theorem owns_flag {w : World} {B l c : Nat} {a : Option Addr} {nm : Nat → ByteArray} {ci : Nat → Int} {ds : Nat → Bool} (h : w.ownsRow B 4 1 (.slice a l c) l ((keyL nm ci ds l).map flV)) : InF w a l (fun j => .bool (ds j)) :=
  owns_in h (fun j hj => by simp [keyL, flV, hj])

set_option maxRecDepth 100000 in
set_option maxHeartbeats 4000000 in
theorem law_main (n t : ByteArray) (a : Option Addr) (m cap : Nat) (nm : Nat → ByteArray) (u : Bool) (a4 : Option Addr) (l4 c4 : Nat) (a5 : Option Addr) (l5 c5 : Nat) (a6 : Option Addr) (l6 c6 : Nat) (ci si : Nat → Int) (ds : Nat → Bool) (w : World)
    (h : InF w a m (fun j => .string (nm j))) (h4 : InF w a4 l4 (fun j => .int .i64 (ci j))) (h5 : InF w a5 l5 (fun j => .bool (ds j))) (h6 : InF w a6 l6 (fun j => .int .i64 (si j)))
    (e4 : a4 = none → l4 = 0) (e5 : a5 = none → l5 = 0) (e6 : a6 = none → l6 = 0) (mm : m ≤ 65536) (m4 : l4 ≤ 65536) (m5 : l5 ≤ 65536) (m6 : l6 ≤ 65536) (bn : n.size ≤ 1048576) (bt : t.size ≤ 1048576) :
    Calls Try.prog 6 #[.string n, .string t, .slice a m cap, .bool u, .slice a4 l4 c4, .slice a5 l5 c5, .slice a6 l6 c6] w fun e w' => e = .returned (.bool true) ∧ Below w.heap.size w w' := by
  go_enter Try.func6, Try.ntmps6
  go_wp2_with fail
  refine (zz14_any n t a m cap nm u a4 l4 c4 a5 l5 c5 a6 l6 c6 w h (by omega)).mono ?_
  rintro e w ⟨⟨r, rfl, _⟩, rfl⟩
  cases r with
  | false =>
    go_wp2_with fail
    go_ret
    exact ⟨rfl, Below.refl _ _⟩
  | true =>
  go_upto_if 87 with fail
  have hz0 : 0 ≤ (n.size : Int) + (t.size : Int) + 16 * (m : Int) + 8 * (l4 : Int) + (l5 : Int) + 8 * (l6 : Int) := by omega
  have hz1 : (n.size : Int) + (t.size : Int) + 16 * (m : Int) + 8 * (l4 : Int) + (l5 : Int) + 8 * (l6 : Int) ≤ 8388608 := by omega
  generalize (n.size : Int) + (t.size : Int) + 16 * (m : Int) + 8 * (l4 : Int) + (l5 : Int) + 8 * (l6 : Int) = z at hz0 hz1 ⊢
  go_wp2_with fail
  · go_ret
    exact ⟨rfl, Below.refl _ _⟩
  go_loop [15, 16] (fun z i => ∃ (k : Nat) (y : Int), k ≤ m ∧ i = .int .i64 k ∧ z = .int .i64 y ∧ 0 ≤ y ∧ y ≤ 1048576 ∧ ∀ j, j < k → (nm j).size ≤ 1048576) (fun _ i => m - (intOf i).toNat)
  case atStart => exact ⟨0, _, Nat.zero_le _, rfl, rfl, by omega, by omega, fun j hj => by omega⟩
  case round =>
  obtain ⟨k, y, hk, rfl, rfl, hy0, hy1, hall⟩ := hrel
  have HA : Hid (∀ j, j < k → (nm j).size ≤ 1048576) := hall
  clear hall
  by_cases hlt : k < m
  · obtain ⟨b, off, rfl, hbl, hc⟩ := h.resolve_left (by omega)
    have x0 := hc k hlt
    clear hc
    by_cases hz : (nm k).size ≤ 1048576
    · go_wp2
      · go_ret
        exact ⟨rfl, Below.refl _ _⟩
      · go_round
        case rel => exact ⟨k + 1, _, by omega, by go_num, rfl, by omega, by omega, fun j hj => if e : j = k then by subst e; exact hz else HA.out j (by omega)⟩
        case measure => simp [intOf]; omega
    · go_wp2
      go_ret
      exact ⟨rfl, Below.refl _ _⟩
  have hkm : k = m := by omega
  subst hkm
  go_wp2_with fail
  refine (range_any a k cap a4 l4 c4 a5 l5 c5 a6 l6 c6 ci si w h4 h6 m4 m6 mm).mono ?_
  rintro e w ⟨⟨r, rfl, hR⟩, rfl⟩
  cases r with
  | false =>
    go_wp2_with fail
    go_ret
    exact ⟨rfl, Below.refl _ _⟩
  | true =>
  have HR : Hid (RangeOk l4 l5 l6 k ci si) := hR rfl
  clear hR
  go_wp2_with fail
  refine (fits_any n t a k cap nm a4 l4 c4 a6 l6 c6 ci si w h h4 h6 m4 m6 mm HR.out.2.1 HR.out.2.2 bn bt HA.out).mono ?_
  rintro e w ⟨⟨r, rfl, _⟩, rfl⟩
  cases r with
  | false =>
    go_wp2_with fail
    go_ret
    exact ⟨rfl, Below.refl _ _⟩
  | true =>
  go_wp2_with fail
  refine (ok_any n w bn).mono ?_
  rintro e w ⟨⟨r, rfl, hn⟩, rfl⟩
  cases r with
  | false =>
    go_wp2_with fail
    go_ret
    exact ⟨rfl, Below.refl _ _⟩
  | true =>
  have HN : Hid (NameOk n.data.toList) := hn rfl
  clear hn
  go_wp2_with fail
  refine (ok_any t w bt).mono ?_
  rintro e w ⟨⟨r, rfl, ht⟩, rfl⟩
  cases r with
  | false =>
    go_wp2_with fail
    go_ret
    exact ⟨rfl, Below.refl _ _⟩
  | true =>
  have HT : Hid (NameOk t.data.toList) := ht rfl
  clear ht
  go_wp2_with fail
  go_loop [17] (fun i => ∃ j : Nat, j ≤ k ∧ i = .int .i64 j ∧ ∀ x, x < j → NameOk (nm x).data.toList) (fun i => k - (intOf i).toNat)
  case atStart => exact ⟨0, Nat.zero_le _, rfl, fun j hj => by omega⟩
  case round =>
  obtain ⟨j, hj, rfl, hall⟩ := hrel
  have HO : Hid (∀ x, x < j → NameOk (nm x).data.toList) := hall
  clear hall
  by_cases hlt2 : j < k
  · obtain ⟨b, off, rfl, hbl, hc⟩ := h.resolve_left (by omega)
    have x0 := hc j hlt2
    clear hc
    go_wp2_with fail
    refine (ok_any (nm j) w (HA.out j hlt2)).mono ?_
    rintro e w ⟨⟨r, rfl, ht⟩, rfl⟩
    cases r with
    | false =>
      go_wp2_with fail
      go_ret
      exact ⟨rfl, Below.refl _ _⟩
    | true =>
      have HQ : Hid (NameOk (nm j).data.toList) := ht rfl
      clear ht
      go_wp2
      go_round
      case rel => exact ⟨j + 1, by omega, by go_num, fun x hx => if e : x = j then by subst e; exact HQ.out else HO.out x (by omega)⟩
      case measure => simp [intOf]; omega
  have hjk : j = k := by omega
  subst hjk
  clear hk hlt hj hlt2
  go_wp2_with fail
  refine (cloneI a4 l4 c4 ci w h4 e4 m4).mono ?_
  rintro e v1 ⟨A4, C4, rfl, i4, b1⟩
  have s1 := b1.size
  go_wp2_with fail
  refine (cloneB a5 l5 c5 ds v1 (h5.below b1) e5 m5).mono ?_
  rintro e v2 ⟨A5, C5, rfl, i5, b2⟩
  have s2 := b2.size
  have B2 : Below w.heap.size w v2 := b1.trans (b2.mono s1)
  replace i4 := i4.below b2
  go_wp2_with fail
  refine (cloneI a6 l6 c6 si v2 (h6.below B2) e6 m6).mono ?_
  rintro e v3 ⟨A6, C6, rfl, i6, b3⟩
  have s3 := b3.size
  have B3 : Below w.heap.size w v3 := B2.trans (b3.mono (by omega))
  replace i4 := i4.below b3
  replace i5 := i5.below b3
  clear b1 b2 b3 B2 e4 e5 e6 h4 h5 h6
  go_wp2_with fail
  refine (build_any n t a j cap nm u A4 l4 C4 A5 l5 C5 A6 l6 C6 v3 (h.below B3) mm).mono ?_
  rintro e v4 ⟨p, q, T, rfl, I, b4⟩
  have s4 := b4.size
  have B4 : Below w.heap.size w v4 := B3.trans (b4.mono (by omega))
  replace i4 := i4.below b4
  replace i5 := i5.below b4
  replace i6 := i6.below b4
  clear b4 B3
  go_wp2_with fail
  refine (ddl_any p q T j n t u A4 l4 C4 A5 l5 C5 A6 l6 C6 nm ci ds si v4 I i4 i5 i6 HR.out.1 HR.out.2.1 HR.out.2.2 bn bt HA.out m4 m6 mm).mono ?_
  rintro e v5 ⟨rfl, b5⟩
  have s5 := b5.size
  have B5 : Below w.heap.size w v5 := B4.trans (b5.mono (by omega))
  replace i4 := i4.below b5
  replace i5 := i5.below b5
  replace i6 := i6.below b5
  clear b5 B4 I
  obtain ⟨S, hS⟩ : ∃ S : ByteArray, S = ⟨(ddl u n.data.toList t.data.toList (keyL nm ci ds l4) (keyL nm si (fun _ => false) l6)).toArray⟩ := ⟨_, rfl⟩
  have hSd : S.data.toList = ddl u n.data.toList t.data.toList (keyL nm ci ds l4) (keyL nm si (fun _ => false) l6) := by rw [hS]
  rw [← hS]
  have hSs : S.size ≤ 1099511627776 := by
    rw [← size_toList S, hSd]
    have q4 := keyL_bound (ds := ds) HA.out l4 HR.out.2.1
    have q6 := keyL_bound (ds := fun _ => false) HA.out l6 HR.out.2.2
    have q7 := ddl_len u n.data.toList t.data.toList (keyL nm ci ds l4) (keyL nm si (fun _ => false) l6)
    rw [size_toList, size_toList] at q7
    omega
  have HS : Hid (S.data.toList = ddl u n.data.toList t.data.toList (keyL nm ci ds l4) (keyL nm si (fun _ => false) l6)) := hSd
  clear hS hSd
  go_wp2_with fail
  refine (parse_any S u n.data.toList t.data.toList (keyL nm ci ds l4) (keyL nm si (fun _ => false) l6) v5 hSs HS.out HN.out HT.out (by rw [keyL_len]; exact m4) (by rw [keyL_len]; exact m6) (keyL_ok HO.out HR.out.2.1) (keyL_ok HO.out HR.out.2.2) (keyL_flag nm si l6)).mono ?_
  rintro e v6 ⟨a1, d1, a2, d2, a3, d3, rfl, o1, o2, o3, b6⟩
  simp only [keyL_len] at o1 o2 o3 ⊢
  have s6 := b6.size
  have B6 : Below w.heap.size w v6 := B5.trans (b6.mono (by omega))
  replace i4 := i4.below b6
  replace i5 := i5.below b6
  replace i6 := i6.below b6
  have h' := h.below B6
  have j1 := owns_key o1
  have j2 := owns_flag o2
  have j3 := owns_key o3
  rw [toA_toL n, toA_toL t, show decide (keyL nm si (fun _ => false) l6 ≠ []) = decide (0 < l6) from decide_eq_decide.2 (by rw [ne_eq, keyL_nil]; omega)]
  clear b6 B5 o1 o2 o3 h HS HN HT HO HA
  go_wp2_with fail
  go_loopw [27] (fun i wr => ∃ k : Nat, k ≤ l4 ∧ i = .int .i64 k ∧ ∃ nq, wr = v6.drewN nq) (fun i _ => l4 - (intOf i).toNat)
  case atStart => exact ⟨0, Nat.zero_le _, rfl, 0, rfl⟩
  case round =>
  obtain ⟨k, hk, rfl, nq, rfl⟩ := hrel
  by_cases hlt : k < l4
  · obtain ⟨b1, f1, rfl, hb1, c1⟩ := j1.resolve_left (by omega)
    obtain ⟨b2, f2, rfl, hb2, c2⟩ := j2.resolve_left (by omega)
    obtain ⟨b4, f4, rfl, hb4, g4⟩ := i4.resolve_left (by omega)
    obtain ⟨b5, f5, rfl, hb5, g5⟩ := i5.resolve_left (by have := HR.out.1; omega)
    have hr := HR.out.2.1 k hlt
    obtain ⟨b0, f0, rfl, hb0, g0⟩ := h'.resolve_left (by omega)
    obtain ⟨x, hx⟩ := Int.eq_ofNat_of_zero_le hr.1
    have hxm : x < j := by omega
    have x1 : v6.cell? ⟨b1, f1 + k, none⟩ = some (.string (nm x)) := by have h2 : v6.cell? ⟨b1, f1 + k, none⟩ = some (.string (nm (ci k).toNat)) := c1 k hlt; rwa [hx, Int.toNat_natCast] at h2
    have x2 := c2 k hlt
    have x4 : v6.cell? ⟨b4, f4 + k, none⟩ = some (.int .i64 (x : Int)) := by rw [← hx]; exact g4 k hlt
    have x5 := g5 k (by have := HR.out.1; omega)
    have x0 := g0 x hxm
    have q5 : (k : Int) < (l5 : Int) := by have := HR.out.1; omega
    have q0 : (x : Int) < (j : Int) := by omega
    clear c1 c2 g4 g5 g0 hx hr j1 j2 i4 i5 h'
    go_wp2_with fail
    go_quiet (fail)
    go_wp2
    go_roundw
    case rel => exact ⟨k + 1, by omega, by go_num, _, rfl⟩
    case measure => simp [intOf]; omega
  have hkl : k = l4 := by omega
  subst hkl
  go_wp2_with fail
  go_loopw [28] (fun i wr => ∃ k : Nat, k ≤ l6 ∧ i = .int .i64 k ∧ ∃ nq, wr = v6.drewN nq) (fun i _ => l6 - (intOf i).toNat)
  case atStart => exact ⟨0, Nat.zero_le _, rfl, nq, rfl⟩
  case round =>
  obtain ⟨i, hi, rfl, nr, rfl⟩ := hrel
  by_cases hlt6 : i < l6
  · obtain ⟨b1, f1, rfl, hb1, c1⟩ := j3.resolve_left (by omega)
    obtain ⟨b4, f4, rfl, hb4, g4⟩ := i6.resolve_left (by omega)
    have hr := HR.out.2.2 i hlt6
    obtain ⟨b0, f0, rfl, hb0, g0⟩ := h'.resolve_left (by omega)
    obtain ⟨x, hx⟩ := Int.eq_ofNat_of_zero_le hr.1
    have hxm : x < j := by omega
    have x1 : v6.cell? ⟨b1, f1 + i, none⟩ = some (.string (nm x)) := by have h2 : v6.cell? ⟨b1, f1 + i, none⟩ = some (.string (nm (si i).toNat)) := c1 i hlt6; rwa [hx, Int.toNat_natCast] at h2
    have x4 : v6.cell? ⟨b4, f4 + i, none⟩ = some (.int .i64 (x : Int)) := by rw [← hx]; exact g4 i hlt6
    have x0 := g0 x hxm
    have q0 : (x : Int) < (j : Int) := by omega
    clear c1 g4 g0 hx hr j1 j2 j3 i4 i5 i6 h'
    go_wp2_with fail
    go_quiet (fail)
    go_wp2
    go_roundw
    case rel => exact ⟨i + 1, by omega, by go_num, _, rfl⟩
    case measure => simp [intOf]; omega
  go_wp2
  go_ret
  exact ⟨rfl, bel_drewN B6 _⟩
end Go.Proofs.Qxb6600092a
