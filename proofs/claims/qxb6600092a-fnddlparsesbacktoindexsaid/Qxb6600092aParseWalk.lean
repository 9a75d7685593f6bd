import Derived.Test.Qxb6600092aDdlText
namespace Go.Proofs.Qxb6600092a
open Go.RowKit
set_option linter.unusedVariables false

theorem owns_mono {w : World} {B B' e n : Nat} {v : Value} {x : List Value} (h : w.ownsRow B e 1 v n x) (hB : B' ≤ B) : w.ownsRow B' e 1 v n x := by
  refine ⟨h.1, ?_⟩
  rcases h.2 with h | ⟨g, cap, cur, hv, hg, r⟩
  · exact .inl h
  · exact .inr ⟨g, cap, cur, hv, Nat.le_trans hB hg, r⟩

theorem owns_below {w w' : World} {B e n : Nat} {v : Value} {x : List Value} (h : w.ownsRow B e 1 v n x) (hb : Below w.heap.size w w') : w'.ownsRow B e 1 v n x := by
  refine ⟨h.1, ?_⟩
  rcases h.2 with h | ⟨g, cap, cur, hv, hg, hh, r⟩
  · exact .inl h
  · exact .inr ⟨g, cap, cur, hv, hg, by rw [hb.block g (Array.getElem?_eq_some_iff.1 hh).1]; exact hh, r⟩


set_option maxRecDepth 100000 in
set_option maxHeartbeats 2000000 in
theorem parse_true_some (s : ByteArray) (n t : List UInt8) (K S : List (List UInt8 × Bool)) (w : World) (hs : s.size ≤ 1099511627776) (h : s.data.toList = ddl true n t K S) (hn : NameOk n) (ht : NameOk t) (hK : K.length ≤ 65536) (hS : S.length ≤ 65536)
    (hoK : ∀ p ∈ K, NameOk p.1) (hoS : ∀ p ∈ S, NameOk p.1) (hfS : ∀ p ∈ S, p.2 = false) (hSn : S ≠ []) :
    Calls Try.prog 22 #[.string s] w fun e w' => ∃ a1 c1 a2 c2 a3 c3, e = .returned (.tuple #[.bool true, .bool true, .string ⟨n.toArray⟩, .string ⟨t.toArray⟩, .slice a1 K.length c1, .slice a2 K.length c2, .bool true, .slice a3 S.length c3]) ∧
      w'.ownsRow w.heap.size 9 1 (.slice a1 K.length c1) K.length (K.map nmV) ∧ w'.ownsRow w.heap.size 4 1 (.slice a2 K.length c2) K.length (K.map flV) ∧ w'.ownsRow w.heap.size 9 1 (.slice a3 S.length c3) S.length (S.map nmV) ∧ Below w.heap.size w w' := by
  obtain ⟨f1, f2, f3, ⟨A2, R2, e2, l2⟩, f4, ⟨A4, R4, e4, l4⟩, f5, ⟨A6, e6, l6⟩, f7, f8⟩ := ddl_facts (q := 14) h rfl
  have hz := size_toList s
  obtain ⟨p3, h3⟩ : ∃ p3, 14 + 6 + n.length = p3 := ⟨_, rfl⟩
  obtain ⟨p5, h5⟩ : ∃ p5, p3 + 4 + t.length = p5 := ⟨_, rfl⟩
  obtain ⟨p7, h7⟩ : ∃ p7, p7 = p5 + 2 + (items K).length + 1 := ⟨_, rfl⟩
  rw [h3] at f4 l4 f5 l6 f7 f8
  rw [h5] at f5 l6 f7 f8
  rw [← h7] at f7 f8
  obtain ⟨f9, ⟨A8, e8, l8⟩, f10⟩ := f8 hSn
  obtain ⟨p9, h9⟩ : ∃ p9, p9 = p7 + 10 + (items S).length + 1 := ⟨_, rfl⟩
  rw [← h9, hz] at f10
  have G9 : Hid (litB s.data.toList p7 storingL = true) := f9
  have E8 : Hid (s.data.toList = A8 ++ (items S ++ 41 :: [])) := e8
  have L8 : Hid (A8.length = p7 + 10) := l8
  have H9 : Hid (p9 = p7 + 10 + (items S).length + 1) := h9
  have b9 : p7 + 11 ≤ p9 := by omega
  have b9a : p9 ≤ s.size := by omega
  have b9b : s.size ≤ p9 := by omega
  have G1 : Hid (litB s.data.toList 0 createL = true) := f1
  have G2 : Hid (litB s.data.toList 7 uniqueL = true) := f2
  have G3 : Hid (litB s.data.toList 14 indexL = true) := f3
  have G4 : Hid (litB s.data.toList p3 onL = true) := f4
  have G5 : Hid (litB s.data.toList p5 openL = true) := f5
  have E2 : Hid (s.data.toList = A2 ++ (n ++ 32 :: R2)) := e2
  have L2 : Hid (A2.length = 20) := l2
  have E4 : Hid (s.data.toList = A4 ++ (t ++ 32 :: R4)) := e4
  have L4 : Hid (A4.length = p3 + 4) := l4
  have E6 : Hid (s.data.toList = A6 ++ (items K ++ 41 :: tailS S)) := e6
  have L6 : Hid (A6.length = p5 + 2) := l6
  have H3 : Hid (20 + n.length = p3) := by rw [← h3]; exact rfl
  have H5 : Hid (p3 + 4 + t.length = p5) := h5
  have H7 : Hid (p7 = p5 + 2 + (items K).length + 1) := h7
  have b3 : 20 + 1 ≤ p3 := by have := List.length_pos_iff.2 hn.1; omega
  have b5 : p3 + 5 ≤ p5 := by have := List.length_pos_iff.2 ht.1; omega
  have b7 : p5 + 3 ≤ p7 := by omega
  have N1 : Hid (NameOk n) := hn
  have N2 : Hid (NameOk t) := ht
  have O1 : Hid (∀ p ∈ K, NameOk p.1) := hoK
  have O2 : Hid (∀ p ∈ S, NameOk p.1) := hoS
  have O3 : Hid (∀ p ∈ S, p.2 = false) := hfS
  have sl1 := slice_int s A2 n (32 :: R2) 20 20 p3 e2 rfl l2 (by rw [← h3])
  have sl2 := slice_int s A4 t (32 :: R4) ((p3 : Int) + 4) (p3 + 4) p5 e4 (by omega) l4 h5
  have t1 : ((p3 : Int) == 20) = false := by simp; omega
  have t2 : ((p5 : Int) == (p3 : Int) + 4) = false := by simp; omega
  clear f1 f2 f3 f4 f5 e2 l2 e4 l4 e6 l6 f7 f8 h3 h5 h7 f10 hn ht hoK hoS hfS h hz hSn f9 e8 l8 h9
  go_enter Try.func22, Try.ntmps22
  go_wp2_with fail
  refine (lit_same s ⟨#[67, 82, 69, 65, 84, 69, 32]⟩ _ 0 true _ (by omega) (by decide) (by omega) (by omega) G1.out).mono ?_
  rintro e w1 ⟨rfl, q1⟩
  go_wp2_with fail
  refine (lit_same s ⟨#[85, 78, 73, 81, 85, 69, 32]⟩ _ 7 true _ (by omega) (by decide) (by omega) (by omega) G2.out).mono ?_
  rintro e w2 ⟨rfl, q2⟩
  have B2 : Below w.heap.size w w2 := q2.below (q1.below (Below.refl _ _))
  clear q1 q2
  go_wp2_with fail
  refine (lit_same s ⟨#[73, 78, 68, 69, 88, 32]⟩ _ 14 true _ (by omega) (by decide) (by omega) (by omega) G3.out).mono ?_
  rintro e w3 ⟨rfl, q3⟩
  go_wp2_with fail
  refine (ident_int s A2 n R2 32 _ 20 p3 _ (by omega) (by omega) E2.out N1.out.2 (by decide) L2.out H3.out).mono ?_
  rintro e w3 ⟨rfl, rfl⟩
  have B3 : Below w.heap.size w w3 := q3.below B2
  clear q3 B2
  go_wp2_with fail
  refine (lit_same s ⟨#[32, 79, 78, 32]⟩ _ p3 true _ (by omega) (by decide) (by omega) (by omega) G4.out).mono ?_
  rintro e w4 ⟨rfl, q4⟩
  go_wp2_with fail
  refine (ident_int s A4 t R4 32 _ (p3 + 4) p5 _ (by omega) (by omega) E4.out N2.out.2 (by decide) L4.out H5.out).mono ?_
  rintro e w4 ⟨rfl, rfl⟩
  have B4 : Below w.heap.size w w4 := q4.below B3
  clear q4 B3
  go_wp2_with fail
  refine (lit_same s ⟨#[32, 40]⟩ _ p5 true _ (by omega) (by decide) (by omega) (by omega) G5.out).mono ?_
  rintro e w5 ⟨rfl, q5⟩
  have B5 : Below w.heap.size w w5 := q5.below B4
  have z5 := B5.size
  clear q5 B4 sl1 sl2
  go_wp2_with fail
  refine (list_int s A6 (tailS S) K _ (p5 + 2) p7 true _ (by omega) hs hK E6.out L6.out H7.out O1.out (by simp)).mono ?_
  rintro e w6 ⟨a1, c1, a2, c2, rfl, o1, o2, b6⟩
  have B6 : Below w.heap.size w w6 := B5.trans (b6.mono z5)
  have r1 := owns_mono o1 z5
  have r2 := owns_mono o2 z5
  have z6 := B6.size
  clear B5 b6 o1 o2
  have t3 : ((p7 : Int) == (s.size : Int)) = false := by simp; omega
  go_wp2_with fail
  refine (lit_same s ⟨#[32, 83, 84, 79, 82, 73, 78, 71, 32, 40]⟩ _ p7 true _ (by omega) (by decide) (by omega) (by omega) G9.out).mono ?_
  rintro e w7 ⟨rfl, q7⟩
  have B7 : Below w.heap.size w w7 := q7.below B6
  replace r1 := q7.owns r1
  replace r2 := q7.owns r2
  have z7 := B7.size
  clear q7 B6
  go_wp2_with fail
  refine (list_int s A8 [] S _ (p7 + 10) p9 false _ (by omega) hs hS E8.out L8.out H9.out O2.out (fun _ => O3.out)).mono ?_
  rintro e w8 ⟨a3, c3, a4, c4, rfl, o3, o4, b8⟩
  have B8 : Below w.heap.size w w8 := B7.trans (b8.mono z7)
  have s1 := owns_below r1 b8
  have s2 := owns_below r2 b8
  have s3 := owns_mono o3 z7
  have t4 : ((p9 : Int) != (s.size : Int)) = false := by simp; omega
  clear B7 b8 r1 r2 o3 o4
  go_wp2
  exact bodyPost_ret (v := .tuple #[.bool true, .bool true, .string ⟨n.toArray⟩, .string ⟨t.toArray⟩, .slice a1 K.length c1, .slice a2 K.length c2, .bool true, .slice a3 S.length c3]) (by simp [results, Try.results22, go_sem]) rfl ⟨a1, c1, a2, c2, a3, c3, rfl, s1, s2, s3, B8⟩

set_option maxRecDepth 100000 in
set_option maxHeartbeats 2000000 in
theorem parse_true_none (s : ByteArray) (n t : List UInt8) (K S : List (List UInt8 × Bool)) (w : World) (hs : s.size ≤ 1099511627776) (h : s.data.toList = ddl true n t K S) (hn : NameOk n) (ht : NameOk t) (hK : K.length ≤ 65536) (hS : S.length ≤ 65536)
    (hoK : ∀ p ∈ K, NameOk p.1) (hoS : ∀ p ∈ S, NameOk p.1) (hfS : ∀ p ∈ S, p.2 = false) (hSn : S = []) :
    Calls Try.prog 22 #[.string s] w fun e w' => ∃ a1 c1 a2 c2 a3 c3, e = .returned (.tuple #[.bool true, .bool true, .string ⟨n.toArray⟩, .string ⟨t.toArray⟩, .slice a1 K.length c1, .slice a2 K.length c2, .bool false, .slice a3 S.length c3]) ∧
      w'.ownsRow w.heap.size 9 1 (.slice a1 K.length c1) K.length (K.map nmV) ∧ w'.ownsRow w.heap.size 4 1 (.slice a2 K.length c2) K.length (K.map flV) ∧ w'.ownsRow w.heap.size 9 1 (.slice a3 S.length c3) S.length (S.map nmV) ∧ Below w.heap.size w w' := by
  obtain ⟨f1, f2, f3, ⟨A2, R2, e2, l2⟩, f4, ⟨A4, R4, e4, l4⟩, f5, ⟨A6, e6, l6⟩, f7, f8⟩ := ddl_facts (q := 14) h rfl
  have hz := size_toList s
  obtain ⟨p3, h3⟩ : ∃ p3, 14 + 6 + n.length = p3 := ⟨_, rfl⟩
  obtain ⟨p5, h5⟩ : ∃ p5, p3 + 4 + t.length = p5 := ⟨_, rfl⟩
  obtain ⟨p7, h7⟩ : ∃ p7, p7 = p5 + 2 + (items K).length + 1 := ⟨_, rfl⟩
  rw [h3] at f4 l4 f5 l6 f7 f8
  rw [h5] at f5 l6 f7 f8
  rw [← h7] at f7 f8
  have f10 := f7 hSn
  rw [hz] at f10
  have b9a : p7 ≤ s.size := by omega
  have b9b : s.size ≤ p7 := by omega
  have G1 : Hid (litB s.data.toList 0 createL = true) := f1
  have G2 : Hid (litB s.data.toList 7 uniqueL = true) := f2
  have G3 : Hid (litB s.data.toList 14 indexL = true) := f3
  have G4 : Hid (litB s.data.toList p3 onL = true) := f4
  have G5 : Hid (litB s.data.toList p5 openL = true) := f5
  have E2 : Hid (s.data.toList = A2 ++ (n ++ 32 :: R2)) := e2
  have L2 : Hid (A2.length = 20) := l2
  have E4 : Hid (s.data.toList = A4 ++ (t ++ 32 :: R4)) := e4
  have L4 : Hid (A4.length = p3 + 4) := l4
  have E6 : Hid (s.data.toList = A6 ++ (items K ++ 41 :: tailS S)) := e6
  have L6 : Hid (A6.length = p5 + 2) := l6
  have H3 : Hid (20 + n.length = p3) := by rw [← h3]; exact rfl
  have H5 : Hid (p3 + 4 + t.length = p5) := h5
  have H7 : Hid (p7 = p5 + 2 + (items K).length + 1) := h7
  have b3 : 20 + 1 ≤ p3 := by have := List.length_pos_iff.2 hn.1; omega
  have b5 : p3 + 5 ≤ p5 := by have := List.length_pos_iff.2 ht.1; omega
  have b7 : p5 + 3 ≤ p7 := by omega
  have N1 : Hid (NameOk n) := hn
  have N2 : Hid (NameOk t) := ht
  have O1 : Hid (∀ p ∈ K, NameOk p.1) := hoK
  have O2 : Hid (∀ p ∈ S, NameOk p.1) := hoS
  have O3 : Hid (∀ p ∈ S, p.2 = false) := hfS
  have sl1 := slice_int s A2 n (32 :: R2) 20 20 p3 e2 rfl l2 (by rw [← h3])
  have sl2 := slice_int s A4 t (32 :: R4) ((p3 : Int) + 4) (p3 + 4) p5 e4 (by omega) l4 h5
  have t1 : ((p3 : Int) == 20) = false := by simp; omega
  have t2 : ((p5 : Int) == (p3 : Int) + 4) = false := by simp; omega
  have HSn : Hid (S = []) := hSn
  clear hSn f1 f2 f3 f4 f5 e2 l2 e4 l4 e6 l6 f7 f8 h3 h5 h7 f10 hn ht hoK hoS hfS h hz
  go_enter Try.func22, Try.ntmps22
  go_wp2_with fail
  refine (lit_same s ⟨#[67, 82, 69, 65, 84, 69, 32]⟩ _ 0 true _ (by omega) (by decide) (by omega) (by omega) G1.out).mono ?_
  rintro e w1 ⟨rfl, q1⟩
  go_wp2_with fail
  refine (lit_same s ⟨#[85, 78, 73, 81, 85, 69, 32]⟩ _ 7 true _ (by omega) (by decide) (by omega) (by omega) G2.out).mono ?_
  rintro e w2 ⟨rfl, q2⟩
  have B2 : Below w.heap.size w w2 := q2.below (q1.below (Below.refl _ _))
  clear q1 q2
  go_wp2_with fail
  refine (lit_same s ⟨#[73, 78, 68, 69, 88, 32]⟩ _ 14 true _ (by omega) (by decide) (by omega) (by omega) G3.out).mono ?_
  rintro e w3 ⟨rfl, q3⟩
  go_wp2_with fail
  refine (ident_int s A2 n R2 32 _ 20 p3 _ (by omega) (by omega) E2.out N1.out.2 (by decide) L2.out H3.out).mono ?_
  rintro e w3 ⟨rfl, rfl⟩
  have B3 : Below w.heap.size w w3 := q3.below B2
  clear q3 B2
  go_wp2_with fail
  refine (lit_same s ⟨#[32, 79, 78, 32]⟩ _ p3 true _ (by omega) (by decide) (by omega) (by omega) G4.out).mono ?_
  rintro e w4 ⟨rfl, q4⟩
  go_wp2_with fail
  refine (ident_int s A4 t R4 32 _ (p3 + 4) p5 _ (by omega) (by omega) E4.out N2.out.2 (by decide) L4.out H5.out).mono ?_
  rintro e w4 ⟨rfl, rfl⟩
  have B4 : Below w.heap.size w w4 := q4.below B3
  clear q4 B3
  go_wp2_with fail
  refine (lit_same s ⟨#[32, 40]⟩ _ p5 true _ (by omega) (by decide) (by omega) (by omega) G5.out).mono ?_
  rintro e w5 ⟨rfl, q5⟩
  have B5 : Below w.heap.size w w5 := q5.below B4
  have z5 := B5.size
  clear q5 B4 sl1 sl2
  go_wp2_with fail
  refine (list_int s A6 (tailS S) K _ (p5 + 2) p7 true _ (by omega) hs hK E6.out L6.out H7.out O1.out (by simp)).mono ?_
  rintro e w6 ⟨a1, c1, a2, c2, rfl, o1, o2, b6⟩
  have B6 : Below w.heap.size w w6 := B5.trans (b6.mono z5)
  have r1 := owns_mono o1 z5
  have r2 := owns_mono o2 z5
  have z6 := B6.size
  clear B5 b6 o1 o2
  have t3 : ((p7 : Int) == (s.size : Int)) = true := by simp; omega
  go_wp2
  have SN := HSn.out
  subst SN
  exact bodyPost_ret (v := .tuple #[.bool true, .bool true, .string ⟨n.toArray⟩, .string ⟨t.toArray⟩, .slice a1 K.length c1, .slice a2 K.length c2, .bool false, .slice none 0 0]) (by simp [results, Try.results22, go_sem]) rfl ⟨a1, c1, a2, c2, none, 0, rfl, r1, r2, World.ownsRow_nil _ _ _ _, B6⟩

set_option maxRecDepth 100000 in
set_option maxHeartbeats 2000000 in
theorem parse_false_some (s : ByteArray) (n t : List UInt8) (K S : List (List UInt8 × Bool)) (w : World) (hs : s.size ≤ 1099511627776) (h : s.data.toList = ddl false n t K S) (hn : NameOk n) (ht : NameOk t) (hK : K.length ≤ 65536) (hS : S.length ≤ 65536)
    (hoK : ∀ p ∈ K, NameOk p.1) (hoS : ∀ p ∈ S, NameOk p.1) (hfS : ∀ p ∈ S, p.2 = false) (hSn : S ≠ []) :
    Calls Try.prog 22 #[.string s] w fun e w' => ∃ a1 c1 a2 c2 a3 c3, e = .returned (.tuple #[.bool true, .bool false, .string ⟨n.toArray⟩, .string ⟨t.toArray⟩, .slice a1 K.length c1, .slice a2 K.length c2, .bool true, .slice a3 S.length c3]) ∧
      w'.ownsRow w.heap.size 9 1 (.slice a1 K.length c1) K.length (K.map nmV) ∧ w'.ownsRow w.heap.size 4 1 (.slice a2 K.length c2) K.length (K.map flV) ∧ w'.ownsRow w.heap.size 9 1 (.slice a3 S.length c3) S.length (S.map nmV) ∧ Below w.heap.size w w' := by
  obtain ⟨f1, f2, f3, ⟨A2, R2, e2, l2⟩, f4, ⟨A4, R4, e4, l4⟩, f5, ⟨A6, e6, l6⟩, f7, f8⟩ := ddl_facts (q := 7) h rfl
  have hz := size_toList s
  obtain ⟨p3, h3⟩ : ∃ p3, 7 + 6 + n.length = p3 := ⟨_, rfl⟩
  obtain ⟨p5, h5⟩ : ∃ p5, p3 + 4 + t.length = p5 := ⟨_, rfl⟩
  obtain ⟨p7, h7⟩ : ∃ p7, p7 = p5 + 2 + (items K).length + 1 := ⟨_, rfl⟩
  rw [h3] at f4 l4 f5 l6 f7 f8
  rw [h5] at f5 l6 f7 f8
  rw [← h7] at f7 f8
  obtain ⟨f9, ⟨A8, e8, l8⟩, f10⟩ := f8 hSn
  obtain ⟨p9, h9⟩ : ∃ p9, p9 = p7 + 10 + (items S).length + 1 := ⟨_, rfl⟩
  rw [← h9, hz] at f10
  have G9 : Hid (litB s.data.toList p7 storingL = true) := f9
  have E8 : Hid (s.data.toList = A8 ++ (items S ++ 41 :: [])) := e8
  have L8 : Hid (A8.length = p7 + 10) := l8
  have H9 : Hid (p9 = p7 + 10 + (items S).length + 1) := h9
  have b9 : p7 + 11 ≤ p9 := by omega
  have b9a : p9 ≤ s.size := by omega
  have b9b : s.size ≤ p9 := by omega
  have G1 : Hid (litB s.data.toList 0 createL = true) := f1
  have G2 : Hid (litB s.data.toList 7 uniqueL = false) := f2
  have G3 : Hid (litB s.data.toList 7 indexL = true) := f3
  have G4 : Hid (litB s.data.toList p3 onL = true) := f4
  have G5 : Hid (litB s.data.toList p5 openL = true) := f5
  have E2 : Hid (s.data.toList = A2 ++ (n ++ 32 :: R2)) := e2
  have L2 : Hid (A2.length = 13) := l2
  have E4 : Hid (s.data.toList = A4 ++ (t ++ 32 :: R4)) := e4
  have L4 : Hid (A4.length = p3 + 4) := l4
  have E6 : Hid (s.data.toList = A6 ++ (items K ++ 41 :: tailS S)) := e6
  have L6 : Hid (A6.length = p5 + 2) := l6
  have H3 : Hid (13 + n.length = p3) := by rw [← h3]; exact rfl
  have H5 : Hid (p3 + 4 + t.length = p5) := h5
  have H7 : Hid (p7 = p5 + 2 + (items K).length + 1) := h7
  have b3 : 13 + 1 ≤ p3 := by have := List.length_pos_iff.2 hn.1; omega
  have b5 : p3 + 5 ≤ p5 := by have := List.length_pos_iff.2 ht.1; omega
  have b7 : p5 + 3 ≤ p7 := by omega
  have N1 : Hid (NameOk n) := hn
  have N2 : Hid (NameOk t) := ht
  have O1 : Hid (∀ p ∈ K, NameOk p.1) := hoK
  have O2 : Hid (∀ p ∈ S, NameOk p.1) := hoS
  have O3 : Hid (∀ p ∈ S, p.2 = false) := hfS
  have sl1 := slice_int s A2 n (32 :: R2) 13 13 p3 e2 rfl l2 (by rw [← h3])
  have sl2 := slice_int s A4 t (32 :: R4) ((p3 : Int) + 4) (p3 + 4) p5 e4 (by omega) l4 h5
  have t1 : ((p3 : Int) == 13) = false := by simp; omega
  have t2 : ((p5 : Int) == (p3 : Int) + 4) = false := by simp; omega
  clear f1 f2 f3 f4 f5 e2 l2 e4 l4 e6 l6 f7 f8 h3 h5 h7 f10 hn ht hoK hoS hfS h hz hSn f9 e8 l8 h9
  go_enter Try.func22, Try.ntmps22
  go_wp2_with fail
  refine (lit_same s ⟨#[67, 82, 69, 65, 84, 69, 32]⟩ _ 0 true _ (by omega) (by decide) (by omega) (by omega) G1.out).mono ?_
  rintro e w1 ⟨rfl, q1⟩
  go_wp2_with fail
  refine (lit_same s ⟨#[85, 78, 73, 81, 85, 69, 32]⟩ _ 7 false _ (by omega) (by decide) (by omega) (by omega) G2.out).mono ?_
  rintro e w2 ⟨rfl, q2⟩
  have B2 : Below w.heap.size w w2 := q2.below (q1.below (Below.refl _ _))
  clear q1 q2
  go_wp2_with fail
  refine (lit_same s ⟨#[73, 78, 68, 69, 88, 32]⟩ _ 7 true _ (by omega) (by decide) (by omega) (by omega) G3.out).mono ?_
  rintro e w3 ⟨rfl, q3⟩
  go_wp2_with fail
  refine (ident_int s A2 n R2 32 _ 13 p3 _ (by omega) (by omega) E2.out N1.out.2 (by decide) L2.out H3.out).mono ?_
  rintro e w3 ⟨rfl, rfl⟩
  have B3 : Below w.heap.size w w3 := q3.below B2
  clear q3 B2
  go_wp2_with fail
  refine (lit_same s ⟨#[32, 79, 78, 32]⟩ _ p3 true _ (by omega) (by decide) (by omega) (by omega) G4.out).mono ?_
  rintro e w4 ⟨rfl, q4⟩
  go_wp2_with fail
  refine (ident_int s A4 t R4 32 _ (p3 + 4) p5 _ (by omega) (by omega) E4.out N2.out.2 (by decide) L4.out H5.out).mono ?_
  rintro e w4 ⟨rfl, rfl⟩
  have B4 : Below w.heap.size w w4 := q4.below B3
  clear q4 B3
  go_wp2_with fail
  refine (lit_same s ⟨#[32, 40]⟩ _ p5 true _ (by omega) (by decide) (by omega) (by omega) G5.out).mono ?_
  rintro e w5 ⟨rfl, q5⟩
  have B5 : Below w.heap.size w w5 := q5.below B4
  have z5 := B5.size
  clear q5 B4 sl1 sl2
  go_wp2_with fail
  refine (list_int s A6 (tailS S) K _ (p5 + 2) p7 true _ (by omega) hs hK E6.out L6.out H7.out O1.out (by simp)).mono ?_
  rintro e w6 ⟨a1, c1, a2, c2, rfl, o1, o2, b6⟩
  have B6 : Below w.heap.size w w6 := B5.trans (b6.mono z5)
  have r1 := owns_mono o1 z5
  have r2 := owns_mono o2 z5
  have z6 := B6.size
  clear B5 b6 o1 o2
  have t3 : ((p7 : Int) == (s.size : Int)) = false := by simp; omega
  go_wp2_with fail
  refine (lit_same s ⟨#[32, 83, 84, 79, 82, 73, 78, 71, 32, 40]⟩ _ p7 true _ (by omega) (by decide) (by omega) (by omega) G9.out).mono ?_
  rintro e w7 ⟨rfl, q7⟩
  have B7 : Below w.heap.size w w7 := q7.below B6
  replace r1 := q7.owns r1
  replace r2 := q7.owns r2
  have z7 := B7.size
  clear q7 B6
  go_wp2_with fail
  refine (list_int s A8 [] S _ (p7 + 10) p9 false _ (by omega) hs hS E8.out L8.out H9.out O2.out (fun _ => O3.out)).mono ?_
  rintro e w8 ⟨a3, c3, a4, c4, rfl, o3, o4, b8⟩
  have B8 : Below w.heap.size w w8 := B7.trans (b8.mono z7)
  have s1 := owns_below r1 b8
  have s2 := owns_below r2 b8
  have s3 := owns_mono o3 z7
  have t4 : ((p9 : Int) != (s.size : Int)) = false := by simp; omega
  clear B7 b8 r1 r2 o3 o4
  go_wp2
  exact bodyPost_ret (v := .tuple #[.bool true, .bool false, .string ⟨n.toArray⟩, .string ⟨t.toArray⟩, .slice a1 K.length c1, .slice a2 K.length c2, .bool true, .slice a3 S.length c3]) (by simp [results, Try.results22, go_sem]) rfl ⟨a1, c1, a2, c2, a3, c3, rfl, s1, s2, s3, B8⟩

set_option maxRecDepth 100000 in
set_option maxHeartbeats 2000000 in
theorem parse_false_none (s : ByteArray) (n t : List UInt8) (K S : List (List UInt8 × Bool)) (w : World) (hs : s.size ≤ 1099511627776) (h : s.data.toList = ddl false n t K S) (hn : NameOk n) (ht : NameOk t) (hK : K.length ≤ 65536) (hS : S.length ≤ 65536)
    (hoK : ∀ p ∈ K, NameOk p.1) (hoS : ∀ p ∈ S, NameOk p.1) (hfS : ∀ p ∈ S, p.2 = false) (hSn : S = []) :
    Calls Try.prog 22 #[.string s] w fun e w' => ∃ a1 c1 a2 c2 a3 c3, e = .returned (.tuple #[.bool true, .bool false, .string ⟨n.toArray⟩, .string ⟨t.toArray⟩, .slice a1 K.length c1, .slice a2 K.length c2, .bool false, .slice a3 S.length c3]) ∧
      w'.ownsRow w.heap.size 9 1 (.slice a1 K.length c1) K.length (K.map nmV) ∧ w'.ownsRow w.heap.size 4 1 (.slice a2 K.length c2) K.length (K.map flV) ∧ w'.ownsRow w.heap.size 9 1 (.slice a3 S.length c3) S.length (S.map nmV) ∧ Below w.heap.size w w' := by
  obtain ⟨f1, f2, f3, ⟨A2, R2, e2, l2⟩, f4, ⟨A4, R4, e4, l4⟩, f5, ⟨A6, e6, l6⟩, f7, f8⟩ := ddl_facts (q := 7) h rfl
  have hz := size_toList s
  obtain ⟨p3, h3⟩ : ∃ p3, 7 + 6 + n.length = p3 := ⟨_, rfl⟩
  obtain ⟨p5, h5⟩ : ∃ p5, p3 + 4 + t.length = p5 := ⟨_, rfl⟩
  obtain ⟨p7, h7⟩ : ∃ p7, p7 = p5 + 2 + (items K).length + 1 := ⟨_, rfl⟩
  rw [h3] at f4 l4 f5 l6 f7 f8
  rw [h5] at f5 l6 f7 f8
  rw [← h7] at f7 f8
  have f10 := f7 hSn
  rw [hz] at f10
  have b9a : p7 ≤ s.size := by omega
  have b9b : s.size ≤ p7 := by omega
  have G1 : Hid (litB s.data.toList 0 createL = true) := f1
  have G2 : Hid (litB s.data.toList 7 uniqueL = false) := f2
  have G3 : Hid (litB s.data.toList 7 indexL = true) := f3
  have G4 : Hid (litB s.data.toList p3 onL = true) := f4
  have G5 : Hid (litB s.data.toList p5 openL = true) := f5
  have E2 : Hid (s.data.toList = A2 ++ (n ++ 32 :: R2)) := e2
  have L2 : Hid (A2.length = 13) := l2
  have E4 : Hid (s.data.toList = A4 ++ (t ++ 32 :: R4)) := e4
  have L4 : Hid (A4.length = p3 + 4) := l4
  have E6 : Hid (s.data.toList = A6 ++ (items K ++ 41 :: tailS S)) := e6
  have L6 : Hid (A6.length = p5 + 2) := l6
  have H3 : Hid (13 + n.length = p3) := by rw [← h3]; exact rfl
  have H5 : Hid (p3 + 4 + t.length = p5) := h5
  have H7 : Hid (p7 = p5 + 2 + (items K).length + 1) := h7
  have b3 : 13 + 1 ≤ p3 := by have := List.length_pos_iff.2 hn.1; omega
  have b5 : p3 + 5 ≤ p5 := by have := List.length_pos_iff.2 ht.1; omega
  have b7 : p5 + 3 ≤ p7 := by omega
  have N1 : Hid (NameOk n) := hn
  have N2 : Hid (NameOk t) := ht
  have O1 : Hid (∀ p ∈ K, NameOk p.1) := hoK
  have O2 : Hid (∀ p ∈ S, NameOk p.1) := hoS
  have O3 : Hid (∀ p ∈ S, p.2 = false) := hfS
  have sl1 := slice_int s A2 n (32 :: R2) 13 13 p3 e2 rfl l2 (by rw [← h3])
  have sl2 := slice_int s A4 t (32 :: R4) ((p3 : Int) + 4) (p3 + 4) p5 e4 (by omega) l4 h5
  have t1 : ((p3 : Int) == 13) = false := by simp; omega
  have t2 : ((p5 : Int) == (p3 : Int) + 4) = false := by simp; omega
  have HSn : Hid (S = []) := hSn
  clear hSn f1 f2 f3 f4 f5 e2 l2 e4 l4 e6 l6 f7 f8 h3 h5 h7 f10 hn ht hoK hoS hfS h hz
  go_enter Try.func22, Try.ntmps22
  go_wp2_with fail
  refine (lit_same s ⟨#[67, 82, 69, 65, 84, 69, 32]⟩ _ 0 true _ (by omega) (by decide) (by omega) (by omega) G1.out).mono ?_
  rintro e w1 ⟨rfl, q1⟩
  go_wp2_with fail
  refine (lit_same s ⟨#[85, 78, 73, 81, 85, 69, 32]⟩ _ 7 false _ (by omega) (by decide) (by omega) (by omega) G2.out).mono ?_
  rintro e w2 ⟨rfl, q2⟩
  have B2 : Below w.heap.size w w2 := q2.below (q1.below (Below.refl _ _))
  clear q1 q2
  go_wp2_with fail
  refine (lit_same s ⟨#[73, 78, 68, 69, 88, 32]⟩ _ 7 true _ (by omega) (by decide) (by omega) (by omega) G3.out).mono ?_
  rintro e w3 ⟨rfl, q3⟩
  go_wp2_with fail
  refine (ident_int s A2 n R2 32 _ 13 p3 _ (by omega) (by omega) E2.out N1.out.2 (by decide) L2.out H3.out).mono ?_
  rintro e w3 ⟨rfl, rfl⟩
  have B3 : Below w.heap.size w w3 := q3.below B2
  clear q3 B2
  go_wp2_with fail
  refine (lit_same s ⟨#[32, 79, 78, 32]⟩ _ p3 true _ (by omega) (by decide) (by omega) (by omega) G4.out).mono ?_
  rintro e w4 ⟨rfl, q4⟩
  go_wp2_with fail
  refine (ident_int s A4 t R4 32 _ (p3 + 4) p5 _ (by omega) (by omega) E4.out N2.out.2 (by decide) L4.out H5.out).mono ?_
  rintro e w4 ⟨rfl, rfl⟩
  have B4 : Below w.heap.size w w4 := q4.below B3
  clear q4 B3
  go_wp2_with fail
  refine (lit_same s ⟨#[32, 40]⟩ _ p5 true _ (by omega) (by decide) (by omega) (by omega) G5.out).mono ?_
  rintro e w5 ⟨rfl, q5⟩
  have B5 : Below w.heap.size w w5 := q5.below B4
  have z5 := B5.size
  clear q5 B4 sl1 sl2
  go_wp2_with fail
  refine (list_int s A6 (tailS S) K _ (p5 + 2) p7 true _ (by omega) hs hK E6.out L6.out H7.out O1.out (by simp)).mono ?_
  rintro e w6 ⟨a1, c1, a2, c2, rfl, o1, o2, b6⟩
  have B6 : Below w.heap.size w w6 := B5.trans (b6.mono z5)
  have r1 := owns_mono o1 z5
  have r2 := owns_mono o2 z5
  have z6 := B6.size
  clear B5 b6 o1 o2
  have t3 : ((p7 : Int) == (s.size : Int)) = true := by simp; omega
  go_wp2
  have SN := HSn.out
  subst SN
  exact bodyPost_ret (v := .tuple #[.bool true, .bool false, .string ⟨n.toArray⟩, .string ⟨t.toArray⟩, .slice a1 K.length c1, .slice a2 K.length c2, .bool false, .slice none 0 0]) (by simp [results, Try.results22, go_sem]) rfl ⟨a1, c1, a2, c2, none, 0, rfl, r1, r2, World.ownsRow_nil _ _ _ _, B6⟩

/-- parseDDL reads a CREATE INDEX statement back. -/
theorem parse_any (s : ByteArray) (u : Bool) (n t : List UInt8) (K S : List (List UInt8 × Bool)) (w : World) (hs : s.size ≤ 1099511627776) (h : s.data.toList = ddl u n t K S) (hn : NameOk n) (ht : NameOk t) (hK : K.length ≤ 65536) (hS : S.length ≤ 65536)
    (hoK : ∀ p ∈ K, NameOk p.1) (hoS : ∀ p ∈ S, NameOk p.1) (hfS : ∀ p ∈ S, p.2 = false) :
    Calls Try.prog 22 #[.string s] w fun e w' => ∃ a1 c1 a2 c2 a3 c3, e = .returned (.tuple #[.bool true, .bool u, .string ⟨n.toArray⟩, .string ⟨t.toArray⟩, .slice a1 K.length c1, .slice a2 K.length c2, .bool (decide (S ≠ [])), .slice a3 S.length c3]) ∧
      w'.ownsRow w.heap.size 9 1 (.slice a1 K.length c1) K.length (K.map nmV) ∧ w'.ownsRow w.heap.size 4 1 (.slice a2 K.length c2) K.length (K.map flV) ∧ w'.ownsRow w.heap.size 9 1 (.slice a3 S.length c3) S.length (S.map nmV) ∧ Below w.heap.size w w' := by
  by_cases hSn : S = []
  · have e : decide (S ≠ []) = false := by simp [hSn]
    rw [e]
    cases u with
    | true => exact parse_true_none s n t K S w hs h hn ht hK hS hoK hoS hfS hSn
    | false => exact parse_false_none s n t K S w hs h hn ht hK hS hoK hoS hfS hSn
  · have e : decide (S ≠ []) = true := by simp [hSn]
    rw [e]
    cases u with
    | true => exact parse_true_some s n t K S w hs h hn ht hK hS hoK hoS hfS hSn
    | false => exact parse_false_some s n t K S w hs h hn ht hK hS hoK hoS hfS hSn
end Go.Proofs.Qxb6600092a
