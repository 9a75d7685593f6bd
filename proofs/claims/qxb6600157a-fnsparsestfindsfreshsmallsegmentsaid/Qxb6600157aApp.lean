import Derived.Test.Qxb6600157aArena
namespace Go.Proofs.Qxb6600157a
open Go.RowKit
set_option linter.unusedVariables false

theorem arena_grow {W1 w1 : World} {B A S sc I ic sn gg cap : Nat} {f : Nat → Seg} {n : Nat} {idl : Nat → Int} {hd : Int} {hh : Bool} {o : Obj} {s : Seg} (H : Arena W1 B A S sc I ic sn f n idl hd hh)
    (hg : (W1.alloc o).drew.grownBy w1 (Value.slice (some ⟨S, 0, none⟩) sn sc).ownBlock)
    (hown : w1.ownsRow B 51 3 (.slice (some ⟨gg, 0, none⟩) (sn + 1) cap) (sn + 1) ((List.range (sn * 3)).map (segCell f) ++ [.slice s.a 0 s.c, .int .i64 s.live, .bool s.large])) :
    Arena (w1.setCell ⟨A, 0, none⟩ (.slice (some ⟨gg, 0, none⟩) (sn + 1) cap)) B A gg cap I ic (sn + 1) (upd f sn s) n idl hd hh := by
  obtain ⟨n1, n2, n3⟩ := H.ne
  obtain ⟨g, u, l, h⟩ := H.blk
  have hA1 : w1.heap[A]? = some (.cells #[.slice (some ⟨S, 0, none⟩) sn sc, .slice (some ⟨I, 0, none⟩) n ic, .int .u32 hd, .bool hh, g, u, l] 46 (0, 0)) := by
    rw [hg.block A (by have := H.ltA; simp; omega) (by simp only [Value.ownBlock]; intro e; injection e with e; exact n1 e)]
    exact (Below.heap_alloc W1 o A H.ltA).trans h
  have hI1 : w1.heap[I]? = W1.heap[I]? := by
    rw [hg.block I (by have := H.idle.lt; simp; omega) (by simp only [Value.ownBlock]; intro e; injection e with e; exact n3 e.symm)]
    exact Below.heap_alloc W1 o I H.idle.lt
  have eA : (w1.setCell ⟨A, 0, none⟩ (.slice (some ⟨gg, 0, none⟩) (sn + 1) cap)).heap[A]? = some (.cells #[.slice (some ⟨gg, 0, none⟩) (sn + 1) cap, .slice (some ⟨I, 0, none⟩) n ic, .int .u32 hd, .bool hh, g, u, l] 46 (0, 0)) := by
    simp [World.setCell, Array.getElem?_modify, hA1]
  have el : (List.range (sn * 3)).map (segCell f) ++ [.slice s.a 0 s.c, .int .i64 s.live, .bool s.large] = (List.range ((sn + 1) * 3)).map (segCell (upd f sn s)) := by
    have e3 : (sn + 1) * 3 = sn * 3 + 1 + 1 + 1 := by omega
    rw [e3, List.range_succ, List.range_succ, List.range_succ]
    simp only [List.map_append, List.map_cons, List.map_nil, List.append_assoc, List.cons_append, List.nil_append]
    have a0 : segCell (upd f sn s) (sn * 3) = .slice s.a 0 s.c := by
      have e1 : (sn * 3) % 3 = 0 := by omega
      have e2 : (sn * 3) / 3 = sn := by omega
      simp [segCell, e1, e2, upd]
    have a1 : segCell (upd f sn s) (sn * 3 + 1) = .int .i64 s.live := by
      have e1 : (sn * 3 + 1) % 3 = 1 := by omega
      have e2 : (sn * 3 + 1) / 3 = sn := by omega
      simp [segCell, e1, e2, upd]
    have a2 : segCell (upd f sn s) (sn * 3 + 1 + 1) = .bool s.large := by
      have e1 : (sn * 3 + 1 + 1) % 3 = 2 := by omega
      have e2 : (sn * 3 + 1 + 1) / 3 = sn := by omega
      simp [segCell, e1, e2, upd]
    rw [a0, a1, a2]
    congr 1
    refine List.map_congr_left fun j hj => ?_
    rw [List.mem_range] at hj
    have : ¬ j / 3 = sn := by omega
    simp [segCell, upd, this]
  rw [el] at hown
  have hgA : gg ≠ A := by
    rintro rfl
    rcases hown.2 with ⟨hv, _⟩ | ⟨g', cap', cur, hv, hg', hh', _⟩
    · cases hv
    · injection hv with hv _ _
      injection hv with hv
      injection hv with hv _ _
      rw [← hv, hA1] at hh'
      simp at hh'
  refine ⟨H.leA, H.leI, ⟨g, u, l, eA⟩, ⟨hown.1, ?_⟩, H.idle.of_block ((Below.heap_setCell _ _ _ _ (fun e => n2 e.symm)).trans hI1), H.nle⟩
  rcases hown.2 with ⟨hv, _⟩ | ⟨g', cap', cur, hv, hg', hh', r⟩
  · cases hv
  · refine .inr ⟨g', cap', cur, hv, hg', ?_, r⟩
    injection hv with hv _ _
    injection hv with hv
    injection hv with hv _ _
    rw [Below.heap_setCell _ _ _ _ (by rw [← hv]; exact hgA)]
    exact hh'

set_option maxRecDepth 100000 in
set_option maxHeartbeats 2000000 in
theorem new_app (w : World) (B A S sc I ic sn : Nat) (f : Nat → Seg) (idl : Nat → Int) (hd : Int) (hh : Bool) (size : Nat) (large : Bool)
    (H : Arena w B A S sc I ic sn f 0 idl hd hh) (hsz : size ≤ 65536) (hsn : sn ≤ 131072) (hB : B ≤ w.heap.size) :
    Calls Try.prog 31 #[.pointer (some ⟨A, 0, none⟩), .int .i64 size, .bool large] w fun e w' => ∃ S' sc', e = .returned (.int .u32 (sn : Int)) ∧ Arena w' B A S' sc' I ic (sn + 1) (upd f sn ⟨some ⟨w.heap.size, 0, none⟩, size, 0, large⟩) 0 idl hd hh ∧ Below B w w' := by
  obtain ⟨i0, hi0, hz0, hz1, hz2⟩ := info_parts Try.info51
  obtain ⟨c0, c1, _, _, fz, _⟩ := H.cells
  have f1 := fz 0
  have hAl := H.ltA
  have hmk := make_bytes size hsz
  clear fz
  go_enter Try.func31, Try.ntmps31
  go_wp2_with fail
  have H1 := (H.alloc (.cells (madeCells #[.int .u8 0] size) 5)).alloc (.cells #[.slice (some ⟨w.heap.size, 0, none⟩) 0 size, .int .i64 0, .bool large] 51)
  have B1 : Below B w ((w.alloc (.cells (madeCells #[.int .u8 0] size) 5)).alloc (.cells #[.slice (some ⟨w.heap.size, 0, none⟩) 0 size, .int .i64 0, .bool large] 51)) :=
    ((Below.refl _ _).alloc hB _).alloc (by simp; omega) _
  have hW : ((w.alloc (.cells (madeCells #[.int .u8 0] size) 5)).alloc (.cells #[.slice (some ⟨w.heap.size, 0, none⟩) 0 size, .int .i64 0, .bool large] 51)).heap.size = w.heap.size + 2 := by simp
  obtain ⟨d0, d1, d2⟩ := new3 (W := (w.alloc (.cells (madeCells #[.int .u8 0] size) 5))) (k := w.heap.size + 1) (by simp) (.slice (some ⟨w.heap.size, 0, none⟩) 0 size) (.int .i64 0) (.bool large) 51
  generalize ((w.alloc (.cells (madeCells #[.int .u8 0] size) 5)).alloc (.cells #[.slice (some ⟨w.heap.size, 0, none⟩) 0 size, .int .i64 0, .bool large] 51)) = W1 at H1 B1 d0 d1 d2 hW ⊢
  have hWB : B ≤ W1.heap.size := by omega
  clear c0 c1 f1 hmk hW
  obtain ⟨c0, c1, _, _, fA, _⟩ := H1.cells
  have f0 := fA 0
  have hAl1 := H1.ltA
  clear fA c1
  have hne : some A ≠ (Value.slice (some ⟨S, 0, none⟩) sn sc).ownBlock := by simp only [Value.ownBlock]; intro e; injection e with e; exact H1.ne.1 e
  go_region_law (refine step_append_lies _ (by rfl) _ _ _ (by rfl) B 51 i0 _ 3 40 Try.underlying44 hi0 hz0 hz1 hz2 rfl (by omega) _ sn _ (by rfl) ((H1.segs.alloc _).drew) ⟨W1.heap.size, 0, none⟩ 1 1 [.slice (some ⟨w.heap.size, 0, none⟩) 0 size, .int .i64 0, .bool large] (by rfl) (by rfl) (World.news_of_block (cs := #[.slice (some ⟨w.heap.size, 0, none⟩) 0 size, .int .i64 0, .bool large]) (t := 51) (fr := (0, 0)) (heap_alloc_new W1 _)) (by simp [Value.oneCell']) (by omega) (by unfold maxLen; omega) (by omega) (by simp; omega) (W1.heap.size + 1) (by simp) ?_; intro gg cap w1 hown1 hgrow hat hlt; have k0 : w1.cell? ⟨A, 0, none⟩ = some (.slice (some ⟨S, 0, none⟩) sn sc) := (hgrow.cell_far ⟨A, 0, none⟩ (by simp; omega) hne).trans ((World.cell?_alloc_lt W1 _ ⟨A, 0, none⟩ hAl1).trans c0); have k1 : w1.frozen? ⟨A, 0, none⟩ = false := (hgrow.frozen_far ⟨A, 0, none⟩ (by simp; omega) hne).trans ((World.frozen?_alloc_old W1 _ ⟨A, 0, none⟩ (Nat.ne_of_lt hAl1)).trans f0))
  all_goals
    have H2 := arena_grow (s := ⟨some ⟨w.heap.size, 0, none⟩, size, 0, large⟩) H1 hgrow hown1
    have B2 : Below B w w1 := ((B1.alloc hWB _).drew).grown hgrow (by simp; omega) (fun k hk => (H1.segs.lt k hk).1)
    have B3 : Below B w (w1.setCell ⟨A, 0, none⟩ (.slice (some ⟨gg, 0, none⟩) (sn + 1) cap)) := B2.setCell H1.leA _
    generalize w1.setCell ⟨A, 0, none⟩ (.slice (some ⟨gg, 0, none⟩) (sn + 1) cap) = W2 at H2 B3 ⊢
    obtain ⟨e0, _⟩ := H2.cells
    clear k0 k1 hown1 hgrow hat hlt d0 d1 d2 c0 f0
    go_wp2
    go_ret
    exact ⟨gg, cap, rfl, H2, B3⟩

/-- newSegment, whichever way: the place is the last idle one, or the count. -/
theorem new_any (w : World) (B A S sc I ic sn : Nat) (f : Nat → Seg) (n : Nat) (idl : Nat → Int) (hd : Int) (hh : Bool) (size : Nat) (large : Bool) (p : Nat)
    (H : Arena w B A S sc I ic sn f n idl hd hh) (hp : (∃ k, n = k + 1 ∧ idl k = p ∧ p < sn) ∨ (n = 0 ∧ p = sn)) (hsz : size ≤ 65536) (hn : n ≤ 65536) (hsn : sn ≤ 131072) (hB : B ≤ w.heap.size) :
    Calls Try.prog 31 #[.pointer (some ⟨A, 0, none⟩), .int .i64 size, .bool large] w fun e w' => ∃ S' sc' g, e = .returned (.int .u32 (p : Int)) ∧ Arena w' B A S' sc' I ic (if n = 0 then sn + 1 else sn) (upd f p ⟨some ⟨g, 0, none⟩, size, 0, large⟩) (n - 1) idl hd hh ∧ Below B w w' := by
  rcases hp with ⟨k, rfl, h1, h2⟩ | ⟨rfl, rfl⟩
  · refine (new_idle w B A S sc I ic sn f k idl hd hh size large p H h1 h2 hsz (by omega) hsn hB).mono ?_
    rintro e w' ⟨rfl, H', b⟩
    exact ⟨S, sc, w.heap.size, rfl, by rw [if_neg (by omega)]; exact H', b⟩
  · refine (new_app w B A S sc I ic p f idl hd hh size large H hsz hsn hB).mono ?_
    rintro e w' ⟨S', sc', rfl, H', b⟩
    exact ⟨S', sc', w.heap.size, rfl, H', b⟩

/-- What newSegment leaves: the arena with a fresh segment at place p; nothing below B has turned. -/
def NewPost (w w' : World) (B A I ic sn : Nat) (f : Nat → Seg) (n : Nat) (idl : Nat → Int) (hd : Int) (hh : Bool) (size : Nat) (large : Bool) (p : Nat) : Prop :=
  ∃ S' sc' g, Arena w' B A S' sc' I ic (if n = 0 then sn + 1 else sn) (upd f p ⟨some ⟨g, 0, none⟩, size, 0, large⟩) (n - 1) idl hd hh ∧ Below B w w'

set_option maxHeartbeats 400000 in
theorem znew_any (w : World) (B A S sc I ic sn : Nat) (f : Nat → Seg) (n : Nat) (idl : Nat → Int) (hd : Int) (hh : Bool) (size : Nat) (large : Bool) (p : Nat)
    (H : Arena w B A S sc I ic sn f n idl hd hh) (hp : (∃ k, n = k + 1 ∧ idl k = p ∧ p < sn) ∨ (n = 0 ∧ p = sn)) (hsz : size ≤ 65536) (hn : n ≤ 65536) (hsn : sn ≤ 131072) (hB : B ≤ w.heap.size) :
    Calls Try.prog 16 #[.pointer (some ⟨A, 0, none⟩), .int .i64 size, .bool large] w fun e w' => e = .returned (.int .u32 (p : Int)) ∧ NewPost w w' B A I ic sn f n idl hd hh size large p := by
  have HP : Hid ((∃ k, n = k + 1 ∧ idl k = p ∧ p < sn) ∨ (n = 0 ∧ p = sn)) := hp
  clear hp
  go_enter Try.func16, Try.ntmps16
  go_wp2_with fail
  refine (new_any w B A S sc I ic sn f n idl hd hh size large p H HP.out hsz hn hsn hB).mono ?_
  rintro e w' ⟨S', sc', g, rfl, H', b⟩
  have HH : NewPost w w' B A I ic sn f n idl hd hh size large p := ⟨S', sc', g, H', b⟩
  clear H' b
  go_wp2
  go_ret
  exact ⟨rfl, HH⟩

set_option maxHeartbeats 400000 in
theorem segCount_any (w : World) (B A S sc I ic sn : Nat) (f : Nat → Seg) (n : Nat) (idl : Nat → Int) (hd : Int) (hh : Bool) (H : Arena w B A S sc I ic sn f n idl hd hh) :
    Calls Try.prog 20 #[.pointer (some ⟨A, 0, none⟩)] w fun e w' => e = .returned (.int .i64 (sn : Int)) ∧ w' = w := by
  obtain ⟨c0, _⟩ := H.cells
  go_enter Try.func20, Try.ntmps20
  go_wp2
  go_ret
  exact ⟨rfl, rfl⟩

set_option maxHeartbeats 400000 in
theorem idleCount_any (w : World) (B A S sc I ic sn : Nat) (f : Nat → Seg) (n : Nat) (idl : Nat → Int) (hd : Int) (hh : Bool) (H : Arena w B A S sc I ic sn f n idl hd hh) :
    Calls Try.prog 23 #[.pointer (some ⟨A, 0, none⟩)] w fun e w' => e = .returned (.int .i64 (n : Int)) ∧ w' = w := by
  obtain ⟨_, c1, _⟩ := H.cells
  go_enter Try.func23, Try.ntmps23
  go_wp2
  go_ret
  exact ⟨rfl, rfl⟩

set_option maxHeartbeats 400000 in
theorem idleAt_any (w : World) (B A S sc I ic sn : Nat) (f : Nat → Seg) (n : Nat) (idl : Nat → Int) (hd : Int) (hh : Bool) (i : Nat) (H : Arena w B A S sc I ic sn f n idl hd hh) (hi : i < n) :
    Calls Try.prog 24 #[.pointer (some ⟨A, 0, none⟩), .int .i64 (i : Int)] w fun e w' => e = .returned (.int .u32 (idl i)) ∧ w' = w := by
  obtain ⟨_, c1, _⟩ := H.cells
  have ci := H.idle.cell (i := i) (by have := H.nle; omega)
  go_enter Try.func24, Try.ntmps24
  go_wp2
  go_ret
  exact ⟨rfl, rfl⟩

set_option maxRecDepth 100000 in
set_option maxHeartbeats 400000 in
theorem segAt_any (w : World) (B A S sc I ic sn : Nat) (f : Nat → Seg) (n : Nat) (idl : Nat → Int) (hd : Int) (hh : Bool) (i : Nat) (H : Arena w B A S sc I ic sn f n idl hd hh) (hi : i < sn) (hB : B ≤ w.heap.size) :
    Calls Try.prog 21 #[.pointer (some ⟨A, 0, none⟩), .int .i64 (i : Int)] w fun e w' => e = .returned (.tuple #[.bool (f i).a.isNone, .int .i64 0, .int .i64 ((f i).c : Int), .int .i64 (f i).live, .bool (f i).large]) ∧ Arena w' B A S sc I ic sn f n idl hd hh ∧ Below B w w' := by
  obtain ⟨c0, _⟩ := H.cells
  obtain ⟨s0, s1, s2⟩ := H.seg hi
  have heq : ∀ wx, (binOp .eql 23 (.slice (f i).a 0 (f i).c) (.slice none 0 0)).run Try.prog wx = _ := fun wx => Lib.run_eql_slice_nil (P := Try.prog) wx 23 5 (f i).a 0 (f i).c 0 0 Try.underlying23
  go_enter Try.func21, Try.ntmps21
  go_wp2_with fail
  go_quiet (fail)
  go_wp2
  exact bodyPost_ret (v := .tuple #[.bool (f i).a.isNone, .int .i64 0, .int .i64 ((f i).c : Int), .int .i64 (f i).live, .bool (f i).large]) (by simp [results, Try.results21, go_sem]) rfl ⟨rfl, (H.alloc _).drewN _, bel_drewN ((Below.refl _ _).alloc hB _) _⟩
end Go.Proofs.Qxb6600157a
