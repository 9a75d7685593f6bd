import Derived.Test.Qxb6600092aList
namespace Go.Proofs.Qxb6600092a
open Go.RowKit
set_option linter.unusedVariables false

/-- The two worlds part in draws alone. -/
structure Same (w w' : World) : Prop where
  heap : w'.heap = w.heap
  os : w'.os = w.os
  tape : w'.tape = w.tape
  output : w'.output = w.output

theorem Same.owns {w w' : World} (h : Same w w') {B e size n : Nat} {v : Value} {xs : List Value} (o : w.ownsRow B e size v n xs) : w'.ownsRow B e size v n xs := by
  unfold World.ownsRow at o ⊢; rw [h.heap]; exact o
theorem Same.below {w w' a : World} (h : Same w w') {B : Nat} (o : Below B a w) : Below B a w' :=
  o.trans ⟨h.os, h.tape, h.output, by rw [h.heap]; exact Nat.le_refl _, fun k _ => by rw [h.heap]⟩
theorem Same.drewN (w : World) (n : Nat) : Same w (w.drewN n) := ⟨rfl, rfl, rfl, rfl⟩

theorem lit_same (s t : ByteArray) (iz : Int) (i : Nat) (b : Bool) (w : World) (hs : s.size ≤ 1152921504606846976) (ht : t.size ≤ 1152921504606846976) (hz : iz = (i : Int)) (hi : i ≤ s.size) (hb : litB s.data.toList i t.data.toList = b) :
    Calls Try.prog 28 #[.string s, .int .i64 iz, .string t] w fun e w' => e = .returned (.bool b) ∧ Same w w' := by
  refine (lit_int s t iz i b w hs ht hz hi hb).mono ?_
  rintro e w' ⟨rfl, n, rfl⟩
  exact ⟨rfl, Same.drewN w n⟩

theorem list_end {L done : List (List UInt8 × Bool)} {p : List UInt8 × Bool} {b1 b2 : Option Addr} {e1 e2 : Nat} {x y : Int} (h : L = done ++ [p]) (hxy : x = y) :
    Ending.returned (.tuple #[.int .i64 x, .slice b1 (done.length + 1) e1, .slice b2 (done.length + 1) e2, .bool true]) = .returned (.tuple #[.int .i64 y, .slice b1 L.length e1, .slice b2 L.length e2, .bool true]) := by
  subst h hxy; simp

theorem list_own {L done : List (List UInt8 × Bool)} {p : List UInt8 × Bool} {w : World} {B e c : Nat} {a : Option Addr} (h : L = done ++ [p]) (f : List UInt8 × Bool → Value) (q : w.ownsRow B e 1 (.slice a (done.length + 1) c) (done.length + 1) (done.map f ++ [f p])) :
    w.ownsRow B e 1 (.slice a L.length c) L.length (L.map f) := by
  subst h; simpa using q

set_option maxRecDepth 100000 in
set_option maxHeartbeats 4000000 in
theorem list_some (s : ByteArray) (A0 post : List UInt8) (L : List (List UInt8 × Bool)) (i0 : Nat) (wd : Bool) (w : World) (hs : s.size ≤ 1099511627776) (hL : L.length ≤ 65536) (hd : s.data.toList = A0 ++ (items L ++ 41 :: post)) (hi0 : A0.length = i0)
    (hok : ∀ p ∈ L, NameOk p.1) (hwd : wd = false → ∀ p ∈ L, p.2 = false) (hne : L ≠ []) :
    Calls Try.prog 30 #[.string s, .int .i64 i0, .bool wd] w fun e w' => ∃ a1 c1 a2 c2, e = .returned (.tuple #[.int .i64 ((i0 + (items L).length + 1 : Nat) : Int), .slice a1 L.length c1, .slice a2 L.length c2, .bool true]) ∧
      w'.ownsRow w.heap.size 9 1 (.slice a1 L.length c1) L.length (L.map nmV) ∧ w'.ownsRow w.heap.size 4 1 (.slice a2 L.length c2) L.length (L.map flV) ∧ Below w.heap.size w w' := by
  obtain ⟨f0, gi, gz0, gz1, gz2⟩ := info_parts Try.info9
  obtain ⟨f1, ki, kz0, kz1, kz2⟩ := info_parts Try.info4
  have hsz := size_toList s
  rw [hd] at hsz
  simp only [List.length_append, List.length_cons] at hsz
  have h41 : litB s.data.toList i0 (⟨#[41]⟩ : ByteArray).data.toList = false := by
    obtain ⟨⟨n, d⟩, T, rfl⟩ : ∃ p T, L = p :: T := by cases L with | nil => exact absurd rfl hne | cons p T => exact ⟨p, T, rfl⟩
    have hn := hok (n, d) (by simp)
    obtain ⟨y, R, hy, hm⟩ := items_head (d := d) (T := T) hn.1 (41 :: post)
    refine litN (A := A0) (R := R) (x := 41) (y := y) (by rw [hd, hy]) hi0 rfl ?_
    intro e
    have := hn.2 y hm
    rw [← e] at this
    exact absurd this (by decide)
  go_enter Try.func30, Try.ntmps30
  go_wp2_with fail
  refine (lit_at s ⟨#[41]⟩ i0 false _ (by omega) (by decide) (by omega) h41).mono ?_
  rintro e w1 ⟨rfl, n1, rfl⟩
  go_wp2_with fail
  go_loopw [1, 10, 11] (fun iv v1 v2 wr => ∃ done todo A i, L = done ++ todo ∧ todo ≠ [] ∧ s.data.toList = A ++ (items todo ++ 41 :: post) ∧ A.length = i ∧ iv = .int .i64 (i : Int) ∧ i + (items todo).length = i0 + (items L).length ∧
      (∃ a1 c1, v1 = .slice a1 done.length c1) ∧ (∃ a2 c2, v2 = .slice a2 done.length c2) ∧ wr.ownsRow w.heap.size 9 1 v1 done.length (done.map nmV) ∧ wr.ownsRow w.heap.size 4 1 v2 done.length (done.map flV) ∧ Below w.heap.size w wr)
    (fun iv _ _ _ => s.size - (intOf iv).toNat)
  case atStart => exact ⟨[], L, A0, i0, rfl, hne, hd, hi0, rfl, rfl, ⟨_, _, rfl⟩, ⟨_, _, rfl⟩, World.ownsRow_nil _ _ _ _, World.ownsRow_nil _ _ _ _, bel_drewN (Below.refl _ _) _⟩
  case round =>
    obtain ⟨done, todo, A, i, eL, hne', eT, hAi, rfl, hpos, ⟨a1, c1, rfl⟩, ⟨a2, c2, rfl⟩, o1, o2, hb⟩ := hrel
    obtain ⟨⟨n, d⟩, T, rfl⟩ : ∃ p T, todo = p :: T := by cases todo with | nil => exact absurd rfl hne' | cons p T => exact ⟨p, T, rfl⟩
    have hokn : NameOk n := hok (n, d) (by rw [eL]; simp)
    have hdd : wd = false → d = false := fun h => hwd h (n, d) (by rw [eL]; simp)
    have hn0 : 0 < n.length := List.length_pos_iff.2 hokn.1
    obtain ⟨j, hj⟩ : ∃ j, i + n.length = j := ⟨_, rfl⟩
    obtain ⟨⟨x, R, hX, hx⟩, hlD, k, hk, hks, hfin⟩ := item_facts eT hAi hj
    have hdl : done.length + 1 ≤ L.length := by rw [eL]; simp
    have hjk : j ≤ k := by rw [hk]; split <;> omega
    rw [size_toList] at hks hfin
    have hij : i < j := by omega
    have HL : Hid (L = done ++ (n, d) :: T) := eL
    have HJ : Hid (i + n.length = j) := hj
    have HAi : Hid (A.length = i) := hAi
    have HX : Hid (s.data.toList = A ++ (n ++ x :: R)) := hX
    have HN : Hid (NameOk n) := hokn
    have HD : Hid (litB s.data.toList j descL = d) := hlD
    have HK : Hid (k = (if d then j + 5 else j)) := hk
    have HF := hfin
    have HFh : Hid (_) := hfin
    have Hdd : Hid (wd = false → d = false) := hdd
    have Hpos : Hid (i + (items ((n, d) :: T)).length = i0 + (items L).length) := hpos
    clear HF hfin eT hj hAi hd h41 hi0 hokn eL hne' hok hsz hpos hwd hX hlD hk hdd
    have hne1 : ((j : Int) == (i : Int)) = false := by simp; omega
    have hsl := slice_name s A n (x :: R) i j HX.out HAi.out HJ.out
    have hkk : d = true → k = j + 5 := fun h => by have := HK.out; simpa [h] using this
    have hkj : d = false → k = j := fun h => by have := HK.out; simpa [h] using this
    rcases HFh.out with ⟨hT, hs1, hs2, hk1⟩ | ⟨hT, hs1, hk2, hA', hk1⟩
    · have HS : Hid (litB s.data.toList k sepL = false) := hs1
      have HS2 : Hid (litB s.data.toList k [41] = true) := hs2
      have HK2 : Hid (k = i + (items ((n, d) :: T)).length) := hk1
      subst hT
      clear hs1 hs2 hk1 HFh
      cases d with
      | true =>
        have g1 : k ≤ j + 5 := by have := hkk rfl; omega
        have g2 : j + 5 ≤ k := by have := hkk rfl; omega
        cases wd with
        | false => exact absurd (Hdd.out rfl) (by simp)
        | true =>
          clear hkk hkj Hdd HK
          go_wp2_with fail
          refine (ident_end s A n R x i j _ (by omega) HX.out HN.out.2 hx HAi.out HJ.out).mono ?_
          rintro e w2 ⟨rfl, rfl⟩
          go_wp2_with (first
            | (at_builtin; refine wpList_append_own _ rfl _ _ 37 rfl w.heap.size 9 f0 (.string ByteArray.empty) 1 16 Try.underlying37 gi gz0 gz1 gz2 rfl (by decide) _ _ _ rfl (o1.alloc _) ⟨w2.heap.size, 0, none⟩ 1 1 [.string ⟨n.toArray⟩] rfl rfl (cell_one_new _ _ _) (by intro u hu; simp at hu; subst hu; rfl) (by unfold maxLen; omega) (by omega) (by have := hb.size; simp; omega) ?_; intro v1 w3 p1 hg1 hv1; obtain ⟨p2, hb3⟩ := app_step o1 o2 (by decide) hb (Nat.le_refl _) hg1; obtain ⟨b1, e1, rfl⟩ := owns_shape p1; clear hg1 o1 o2 hb hsl hv1))
          refine (lit_same s ⟨#[32, 68, 69, 83, 67]⟩ _ j true _ (by omega) (by decide) (by omega) (by omega) HD.out).mono ?_
          rintro e w4 ⟨rfl, hq⟩
          replace p1 := hq.owns p1
          replace p2 := hq.owns p2
          replace hb3 := hq.below hb3
          clear hq
          go_wp2_with (first
            | (at_builtin; refine wpList_append_own _ rfl _ _ 27 rfl w.heap.size 4 f1 (.bool false) 1 1 Try.underlying27 ki kz0 kz1 kz2 rfl (by decide) _ _ _ rfl (p2.alloc _) ⟨w4.heap.size, 0, none⟩ 1 1 [.bool true] rfl rfl (cell_one_new _ _ _) (by intro u hu; simp at hu; subst hu; rfl) (by unfold maxLen; omega) (by omega) (by have := hb3.size; simp; omega) ?_; intro v2 w5 q2 hg2 hv2; obtain ⟨q1, hb5⟩ := app_step p2 p1 (by decide) hb3 (Nat.le_refl _) hg2; obtain ⟨b2, e2, rfl⟩ := owns_shape q2; clear hg2 p1 p2 hb3 hv2))
          refine (lit_same s ⟨#[44, 32]⟩ _ k false _ (by omega) (by decide) (by omega) (by omega) HS.out).mono ?_
          rintro e w6 ⟨rfl, hq⟩
          replace q1 := hq.owns q1
          replace q2 := hq.owns q2
          replace hb5 := hq.below hb5
          clear hq
          go_wp2_with fail
          refine (lit_same s ⟨#[41]⟩ _ k true _ (by omega) (by decide) (by omega) (by omega) HS2.out).mono ?_
          rintro e w7 ⟨rfl, hq⟩
          replace q1 := hq.owns q1
          replace q2 := hq.owns q2
          replace hb5 := hq.below hb5
          clear hq
          go_wp2
          have el := HL.out
          refine bodyPost_ret (v := .tuple #[.int .i64 ((j : Int) + 5 + 1), .slice b1 (done.length + 1) e1, .slice b2 (done.length + 1) e2, .bool true]) (by simp [results, Try.results30, go_sem]) rfl ⟨b1, e1, b2, e2, ?_, ?_, ?_, hb5⟩
          · exact list_end el (by have := HK2.out; have := Hpos.out; omega)
          · exact list_own el nmV q1
          · exact list_own el flV q2
      | false =>
        have g1 : k ≤ j := by have := hkj rfl; omega
        cases wd with
        | false =>
          clear hkk hkj Hdd HK
          go_wp2_with fail
          refine (ident_end s A n R x i j _ (by omega) HX.out HN.out.2 hx HAi.out HJ.out).mono ?_
          rintro e w2 ⟨rfl, rfl⟩
          go_wp2_with (first
            | (at_builtin; refine wpList_append_own _ rfl _ _ 37 rfl w.heap.size 9 f0 (.string ByteArray.empty) 1 16 Try.underlying37 gi gz0 gz1 gz2 rfl (by decide) _ _ _ rfl (o1.alloc _) ⟨w2.heap.size, 0, none⟩ 1 1 [.string ⟨n.toArray⟩] rfl rfl (cell_one_new _ _ _) (by intro u hu; simp at hu; subst hu; rfl) (by unfold maxLen; omega) (by omega) (by have := hb.size; simp; omega) ?_; intro v1 w3 p1 hg1 hv1; obtain ⟨p2, hb3⟩ := app_step o1 o2 (by decide) hb (Nat.le_refl _) hg1; obtain ⟨b1, e1, rfl⟩ := owns_shape p1; clear hg1 o1 o2 hb hsl hv1)
            | (at_builtin; refine wpList_append_own _ rfl _ _ 27 rfl w.heap.size 4 f1 (.bool false) 1 1 Try.underlying27 ki kz0 kz1 kz2 rfl (by decide) _ _ _ rfl (p2.alloc _) ⟨w3.heap.size, 0, none⟩ 1 1 [.bool false] rfl rfl (cell_one_new _ _ _) (by intro u hu; simp at hu; subst hu; rfl) (by unfold maxLen; omega) (by omega) (by have := hb3.size; simp; omega) ?_; intro v2 w5 q2 hg2 hv2; obtain ⟨q1, hb5⟩ := app_step p2 p1 (by decide) hb3 (Nat.le_refl _) hg2; obtain ⟨b2, e2, rfl⟩ := owns_shape q2; clear hg2 p1 p2 hb3 hv2))
          refine (lit_same s ⟨#[44, 32]⟩ _ k false _ (by omega) (by decide) (by omega) (by omega) HS.out).mono ?_
          rintro e w6 ⟨rfl, hq⟩
          replace q1 := hq.owns q1
          replace q2 := hq.owns q2
          replace hb5 := hq.below hb5
          clear hq
          go_wp2_with fail
          refine (lit_same s ⟨#[41]⟩ _ k true _ (by omega) (by decide) (by omega) (by omega) HS2.out).mono ?_
          rintro e w7 ⟨rfl, hq⟩
          replace q1 := hq.owns q1
          replace q2 := hq.owns q2
          replace hb5 := hq.below hb5
          clear hq
          go_wp2
          have el := HL.out
          refine bodyPost_ret (v := .tuple #[.int .i64 ((j : Int) + 1), .slice b1 (done.length + 1) e1, .slice b2 (done.length + 1) e2, .bool true]) (by simp [results, Try.results30, go_sem]) rfl ⟨b1, e1, b2, e2, ?_, ?_, ?_, hb5⟩
          · exact list_end el (by have := HK2.out; have := Hpos.out; omega)
          · exact list_own el nmV q1
          · exact list_own el flV q2
        | true =>
          clear hkk hkj Hdd HK
          go_wp2_with fail
          refine (ident_end s A n R x i j _ (by omega) HX.out HN.out.2 hx HAi.out HJ.out).mono ?_
          rintro e w2 ⟨rfl, rfl⟩
          go_wp2_with (first
            | (at_builtin; refine wpList_append_own _ rfl _ _ 37 rfl w.heap.size 9 f0 (.string ByteArray.empty) 1 16 Try.underlying37 gi gz0 gz1 gz2 rfl (by decide) _ _ _ rfl (o1.alloc _) ⟨w2.heap.size, 0, none⟩ 1 1 [.string ⟨n.toArray⟩] rfl rfl (cell_one_new _ _ _) (by intro u hu; simp at hu; subst hu; rfl) (by unfold maxLen; omega) (by omega) (by have := hb.size; simp; omega) ?_; intro v1 w3 p1 hg1 hv1; obtain ⟨p2, hb3⟩ := app_step o1 o2 (by decide) hb (Nat.le_refl _) hg1; obtain ⟨b1, e1, rfl⟩ := owns_shape p1; clear hg1 o1 o2 hb hsl hv1))
          refine (lit_same s ⟨#[32, 68, 69, 83, 67]⟩ _ j false _ (by omega) (by decide) (by omega) (by omega) HD.out).mono ?_
          rintro e w4 ⟨rfl, hq⟩
          replace p1 := hq.owns p1
          replace p2 := hq.owns p2
          replace hb3 := hq.below hb3
          clear hq
          go_wp2_with (first
            | (at_builtin; refine wpList_append_own _ rfl _ _ 27 rfl w.heap.size 4 f1 (.bool false) 1 1 Try.underlying27 ki kz0 kz1 kz2 rfl (by decide) _ _ _ rfl (p2.alloc _) ⟨w4.heap.size, 0, none⟩ 1 1 [.bool false] rfl rfl (cell_one_new _ _ _) (by intro u hu; simp at hu; subst hu; rfl) (by unfold maxLen; omega) (by omega) (by have := hb3.size; simp; omega) ?_; intro v2 w5 q2 hg2 hv2; obtain ⟨q1, hb5⟩ := app_step p2 p1 (by decide) hb3 (Nat.le_refl _) hg2; obtain ⟨b2, e2, rfl⟩ := owns_shape q2; clear hg2 p1 p2 hb3 hv2))
          refine (lit_same s ⟨#[44, 32]⟩ _ k false _ (by omega) (by decide) (by omega) (by omega) HS.out).mono ?_
          rintro e w6 ⟨rfl, hq⟩
          replace q1 := hq.owns q1
          replace q2 := hq.owns q2
          replace hb5 := hq.below hb5
          clear hq
          go_wp2_with fail
          refine (lit_same s ⟨#[41]⟩ _ k true _ (by omega) (by decide) (by omega) (by omega) HS2.out).mono ?_
          rintro e w7 ⟨rfl, hq⟩
          replace q1 := hq.owns q1
          replace q2 := hq.owns q2
          replace hb5 := hq.below hb5
          clear hq
          go_wp2
          have el := HL.out
          refine bodyPost_ret (v := .tuple #[.int .i64 ((j : Int) + 1), .slice b1 (done.length + 1) e1, .slice b2 (done.length + 1) e2, .bool true]) (by simp [results, Try.results30, go_sem]) rfl ⟨b1, e1, b2, e2, ?_, ?_, ?_, hb5⟩
          · exact list_end el (by have := HK2.out; have := Hpos.out; omega)
          · exact list_own el nmV q1
          · exact list_own el flV q2
    · have HS : Hid (litB s.data.toList k sepL = true) := hs1
      have HA' : Hid (∃ A', s.data.toList = A' ++ (items T ++ 41 :: post) ∧ A'.length = k + 2) := hA'
      have HK2 : Hid (k + 2 + (items T).length = i + (items ((n, d) :: T)).length) := hk1
      have HT : Hid (T ≠ []) := hT
      clear hs1 hA' hk1 hT HFh
      cases d with
      | true =>
        have g1 : k ≤ j + 5 := by have := hkk rfl; omega
        have g2 : j + 5 ≤ k := by have := hkk rfl; omega
        cases wd with
        | false => exact absurd (Hdd.out rfl) (by simp)
        | true =>
          clear hkk hkj Hdd HK
          go_wp2_with fail
          refine (ident_end s A n R x i j _ (by omega) HX.out HN.out.2 hx HAi.out HJ.out).mono ?_
          rintro e w2 ⟨rfl, rfl⟩
          go_wp2_with (first
            | (at_builtin; refine wpList_append_own _ rfl _ _ 37 rfl w.heap.size 9 f0 (.string ByteArray.empty) 1 16 Try.underlying37 gi gz0 gz1 gz2 rfl (by decide) _ _ _ rfl (o1.alloc _) ⟨w2.heap.size, 0, none⟩ 1 1 [.string ⟨n.toArray⟩] rfl rfl (cell_one_new _ _ _) (by intro u hu; simp at hu; subst hu; rfl) (by unfold maxLen; omega) (by omega) (by have := hb.size; simp; omega) ?_; intro v1 w3 p1 hg1 hv1; obtain ⟨p2, hb3⟩ := app_step o1 o2 (by decide) hb (Nat.le_refl _) hg1; obtain ⟨b1, e1, rfl⟩ := owns_shape p1; clear hg1 o1 o2 hb hsl hv1))
          refine (lit_same s ⟨#[32, 68, 69, 83, 67]⟩ _ j true _ (by omega) (by decide) (by omega) (by omega) HD.out).mono ?_
          rintro e w4 ⟨rfl, hq⟩
          replace p1 := hq.owns p1
          replace p2 := hq.owns p2
          replace hb3 := hq.below hb3
          clear hq
          go_wp2_with (first
            | (at_builtin; refine wpList_append_own _ rfl _ _ 27 rfl w.heap.size 4 f1 (.bool false) 1 1 Try.underlying27 ki kz0 kz1 kz2 rfl (by decide) _ _ _ rfl (p2.alloc _) ⟨w4.heap.size, 0, none⟩ 1 1 [.bool true] rfl rfl (cell_one_new _ _ _) (by intro u hu; simp at hu; subst hu; rfl) (by unfold maxLen; omega) (by omega) (by have := hb3.size; simp; omega) ?_; intro v2 w5 q2 hg2 hv2; obtain ⟨q1, hb5⟩ := app_step p2 p1 (by decide) hb3 (Nat.le_refl _) hg2; obtain ⟨b2, e2, rfl⟩ := owns_shape q2; clear hg2 p1 p2 hb3 hv2))
          refine (lit_same s ⟨#[44, 32]⟩ _ k true _ (by omega) (by decide) (by omega) (by omega) HS.out).mono ?_
          rintro e w6 ⟨rfl, hq⟩
          replace q1 := hq.owns q1
          replace q2 := hq.owns q2
          replace hb5 := hq.below hb5
          clear hq
          go_wp2_with fail
          obtain ⟨A', hA1, hA2⟩ := HA'.out
          go_roundw
          case rel => exact ⟨done ++ [(n, true)], T, A', k + 2, by rw [HL.out]; simp, HT.out, hA1, hA2, congrArg (Value.int .i64) (by omega), by have := HK2.out; have := Hpos.out; omega, ⟨b1, e1, by simp⟩, ⟨b2, e2, by simp⟩, by simpa [nmV] using q1, by simpa [flV] using q2, hb5⟩
          case measure => simp [intOf]; omega
      | false =>
        have g1 : k ≤ j := by have := hkj rfl; omega
        cases wd with
        | false =>
          clear hkk hkj Hdd HK
          go_wp2_with fail
          refine (ident_end s A n R x i j _ (by omega) HX.out HN.out.2 hx HAi.out HJ.out).mono ?_
          rintro e w2 ⟨rfl, rfl⟩
          go_wp2_with (first
            | (at_builtin; refine wpList_append_own _ rfl _ _ 37 rfl w.heap.size 9 f0 (.string ByteArray.empty) 1 16 Try.underlying37 gi gz0 gz1 gz2 rfl (by decide) _ _ _ rfl (o1.alloc _) ⟨w2.heap.size, 0, none⟩ 1 1 [.string ⟨n.toArray⟩] rfl rfl (cell_one_new _ _ _) (by intro u hu; simp at hu; subst hu; rfl) (by unfold maxLen; omega) (by omega) (by have := hb.size; simp; omega) ?_; intro v1 w3 p1 hg1 hv1; obtain ⟨p2, hb3⟩ := app_step o1 o2 (by decide) hb (Nat.le_refl _) hg1; obtain ⟨b1, e1, rfl⟩ := owns_shape p1; clear hg1 o1 o2 hb hsl hv1)
            | (at_builtin; refine wpList_append_own _ rfl _ _ 27 rfl w.heap.size 4 f1 (.bool false) 1 1 Try.underlying27 ki kz0 kz1 kz2 rfl (by decide) _ _ _ rfl (p2.alloc _) ⟨w3.heap.size, 0, none⟩ 1 1 [.bool false] rfl rfl (cell_one_new _ _ _) (by intro u hu; simp at hu; subst hu; rfl) (by unfold maxLen; omega) (by omega) (by have := hb3.size; simp; omega) ?_; intro v2 w5 q2 hg2 hv2; obtain ⟨q1, hb5⟩ := app_step p2 p1 (by decide) hb3 (Nat.le_refl _) hg2; obtain ⟨b2, e2, rfl⟩ := owns_shape q2; clear hg2 p1 p2 hb3 hv2))
          refine (lit_same s ⟨#[44, 32]⟩ _ k true _ (by omega) (by decide) (by omega) (by omega) HS.out).mono ?_
          rintro e w6 ⟨rfl, hq⟩
          replace q1 := hq.owns q1
          replace q2 := hq.owns q2
          replace hb5 := hq.below hb5
          clear hq
          go_wp2_with fail
          obtain ⟨A', hA1, hA2⟩ := HA'.out
          go_roundw
          case rel => exact ⟨done ++ [(n, false)], T, A', k + 2, by rw [HL.out]; simp, HT.out, hA1, hA2, congrArg (Value.int .i64) (by omega), by have := HK2.out; have := Hpos.out; omega, ⟨b1, e1, by simp⟩, ⟨b2, e2, by simp⟩, by simpa [nmV] using q1, by simpa [flV] using q2, hb5⟩
          case measure => simp [intOf]; omega
        | true =>
          clear hkk hkj Hdd HK
          go_wp2_with fail
          refine (ident_end s A n R x i j _ (by omega) HX.out HN.out.2 hx HAi.out HJ.out).mono ?_
          rintro e w2 ⟨rfl, rfl⟩
          go_wp2_with (first
            | (at_builtin; refine wpList_append_own _ rfl _ _ 37 rfl w.heap.size 9 f0 (.string ByteArray.empty) 1 16 Try.underlying37 gi gz0 gz1 gz2 rfl (by decide) _ _ _ rfl (o1.alloc _) ⟨w2.heap.size, 0, none⟩ 1 1 [.string ⟨n.toArray⟩] rfl rfl (cell_one_new _ _ _) (by intro u hu; simp at hu; subst hu; rfl) (by unfold maxLen; omega) (by omega) (by have := hb.size; simp; omega) ?_; intro v1 w3 p1 hg1 hv1; obtain ⟨p2, hb3⟩ := app_step o1 o2 (by decide) hb (Nat.le_refl _) hg1; obtain ⟨b1, e1, rfl⟩ := owns_shape p1; clear hg1 o1 o2 hb hsl hv1))
          refine (lit_same s ⟨#[32, 68, 69, 83, 67]⟩ _ j false _ (by omega) (by decide) (by omega) (by omega) HD.out).mono ?_
          rintro e w4 ⟨rfl, hq⟩
          replace p1 := hq.owns p1
          replace p2 := hq.owns p2
          replace hb3 := hq.below hb3
          clear hq
          go_wp2_with (first
            | (at_builtin; refine wpList_append_own _ rfl _ _ 27 rfl w.heap.size 4 f1 (.bool false) 1 1 Try.underlying27 ki kz0 kz1 kz2 rfl (by decide) _ _ _ rfl (p2.alloc _) ⟨w4.heap.size, 0, none⟩ 1 1 [.bool false] rfl rfl (cell_one_new _ _ _) (by intro u hu; simp at hu; subst hu; rfl) (by unfold maxLen; omega) (by omega) (by have := hb3.size; simp; omega) ?_; intro v2 w5 q2 hg2 hv2; obtain ⟨q1, hb5⟩ := app_step p2 p1 (by decide) hb3 (Nat.le_refl _) hg2; obtain ⟨b2, e2, rfl⟩ := owns_shape q2; clear hg2 p1 p2 hb3 hv2))
          refine (lit_same s ⟨#[44, 32]⟩ _ k true _ (by omega) (by decide) (by omega) (by omega) HS.out).mono ?_
          rintro e w6 ⟨rfl, hq⟩
          replace q1 := hq.owns q1
          replace q2 := hq.owns q2
          replace hb5 := hq.below hb5
          clear hq
          go_wp2_with fail
          obtain ⟨A', hA1, hA2⟩ := HA'.out
          go_roundw
          case rel => exact ⟨done ++ [(n, false)], T, A', k + 2, by rw [HL.out]; simp, HT.out, hA1, hA2, congrArg (Value.int .i64) (by omega), by have := HK2.out; have := Hpos.out; omega, ⟨b1, e1, by simp⟩, ⟨b2, e2, by simp⟩, by simpa [nmV] using q1, by simpa [flV] using q2, hb5⟩
          case measure => simp [intOf]; omega

set_option maxRecDepth 100000 in
set_option maxHeartbeats 400000 in
theorem list_none (s : ByteArray) (A0 post : List UInt8) (i0 : Nat) (wd : Bool) (w : World) (hs : s.size ≤ 1099511627776) (hd : s.data.toList = A0 ++ 41 :: post) (hi0 : A0.length = i0) :
    Calls Try.prog 30 #[.string s, .int .i64 i0, .bool wd] w fun e w' => e = .returned (.tuple #[.int .i64 ((i0 : Int) + 1), .slice none 0 0, .slice none 0 0, .bool true]) ∧ Below w.heap.size w w' := by
  have hsz := size_toList s
  rw [hd] at hsz
  simp only [List.length_append, List.length_cons] at hsz
  have h41 : litB s.data.toList i0 (⟨#[41]⟩ : ByteArray).data.toList = true := litY (A := A0) (t := [41]) (R := post) (by rw [hd]; rfl) hi0
  have h1 : i0 ≤ 1099511627776 := by omega
  go_enter Try.func30, Try.ntmps30
  go_wp2_with fail
  refine (lit_at s ⟨#[41]⟩ i0 true _ (by omega) (by decide) (by omega) h41).mono ?_
  rintro e w1 ⟨rfl, n1, rfl⟩
  go_wp2
  exact bodyPost_ret (v := .tuple #[.int .i64 ((i0 : Int) + 1), .slice none 0 0, .slice none 0 0, .bool true]) (by simp [results, Try.results30, go_sem]) rfl ⟨rfl, bel_drewN (Below.refl _ _) _⟩

/-- parseNameList at a list of names, whatever follows the bracket. -/
theorem list_any (s : ByteArray) (A0 post : List UInt8) (L : List (List UInt8 × Bool)) (i0 j0 : Nat) (wd : Bool) (w : World) (hs : s.size ≤ 1099511627776) (hL : L.length ≤ 65536) (hd : s.data.toList = A0 ++ (items L ++ 41 :: post)) (hi0 : A0.length = i0) (hj0 : j0 = i0 + (items L).length + 1)
    (hok : ∀ p ∈ L, NameOk p.1) (hwd : wd = false → ∀ p ∈ L, p.2 = false) :
    Calls Try.prog 30 #[.string s, .int .i64 i0, .bool wd] w fun e w' => ∃ a1 c1 a2 c2, e = .returned (.tuple #[.int .i64 (j0 : Int), .slice a1 L.length c1, .slice a2 L.length c2, .bool true]) ∧
      w'.ownsRow w.heap.size 9 1 (.slice a1 L.length c1) L.length (L.map nmV) ∧ w'.ownsRow w.heap.size 4 1 (.slice a2 L.length c2) L.length (L.map flV) ∧ Below w.heap.size w w' := by
  by_cases hne : L = []
  · subst hne
    refine (list_none s A0 post i0 wd w hs (by simpa [items] using hd) hi0).mono ?_
    rintro e w' ⟨rfl, hb⟩
    subst hj0
    exact ⟨none, 0, none, 0, by simp [items], World.ownsRow_nil _ _ _ _, World.ownsRow_nil _ _ _ _, hb⟩
  · refine (list_some s A0 post L i0 wd w hs hL hd hi0 hok hwd hne).mono ?_
    rintro e w' ⟨a1, c1, a2, c2, rfl, h⟩
    subst hj0
    exact ⟨a1, c1, a2, c2, rfl, h⟩
end Go.Proofs.Qxb6600092a
