import Derived.Test.Qxb6600157aApp
namespace Go.Proofs.Qxb6600157a
open Go.RowKit
set_option linter.unusedVariables false

/-- The kind of segment i: 0 where none is given. -/
def kAt (kd : Nat → Int) (kn i : Nat) : Int := if i < kn then kd i else 0

/-- Segment i as ZZArena lays it. -/
structure SegOk (lv kd : Nat → Int) (kn : Nat) (f : Nat → Seg) (i : Nat) : Prop where
  live : (f i).live = lv i
  large : (f i).large = (bits BinOp.and IntKind.u8 (kAt kd kn i) 2 != 0)
  gone : (f i).a.isNone = !(bits BinOp.and IntKind.u8 (kAt kd kn i) 1 == 0)

def zseg : Seg := ⟨none, 0, 0, false⟩

theorem make_segs (s : Nat) (hs : s ≤ 65536) (wx : World) :
    (Instr.makeSlice 44 (.int .i64 (s : Int)) (.int .i64 (s : Int))).run Try.prog wx = .ok (.slice (some ⟨wx.heap.size, 0, none⟩) s s) (wx.alloc (.cells (madeCells #[.slice none 0 0, .int .i64 0, .bool false] (s * 3)) 51)) := by
  obtain ⟨i0, hi, hz0, hz1, hz2⟩ := info_parts Try.info51
  have hr := run_make (P := Try.prog) wx 44 51 i0 _ Try.underlying44 hi hz0 .i64 .i64 s s (by omega) (by omega) (by rw [hz2]; omega) (by omega)
  simp only [Int.toNat_natCast, hz1] at hr
  exact hr

theorem made_segs {w : World} {s : Nat} : (w.alloc (.cells (madeCells #[.slice none 0 0, .int .i64 0, .bool false] (s * 3)) 51)).rowIs w.heap.size 51 (s * 3) (segCell (fun _ => zseg)) := by
  refine ⟨_, Go.Deep.blk_alloc_new _ _, size_madeCells _ _, fun i hi => ?_⟩
  have h3 : i % 3 = 0 ∨ i % 3 = 1 ∨ i % 3 = 2 := by omega
  rcases h3 with h | h | h <;> simp [madeCells, hi, segCell, h, zseg]

theorem seg_cells {w : World} {S s : Nat} {f : Nat → Seg} (H : w.rowIs S 51 (s * 3) (segCell f)) {i : Nat} (hi : i < s) :
    w.cell? ⟨S, i * 3, none⟩ = some (.slice (f i).a 0 (f i).c) ∧ w.cell? ⟨S, i * 3 + 1, none⟩ = some (.int .i64 (f i).live) ∧ w.cell? ⟨S, i * 3 + 2, none⟩ = some (.bool (f i).large) := by
  refine ⟨?_, ?_, ?_⟩ <;> rw [H.cell (by omega)] <;> unfold segCell
  · have e1 : (i * 3) % 3 = 0 := by omega
    have e2 : (i * 3) / 3 = i := by omega
    simp [e1, e2]
  · have e1 : (i * 3 + 1) % 3 = 1 := by omega
    have e2 : (i * 3 + 1) / 3 = i := by omega
    simp [e1, e2]
  · have e1 : (i * 3 + 2) % 3 = 2 := by omega
    have e2 : (i * 3 + 2) / 3 = i := by omega
    simp [e1, e2]

/-- The arena half built: its segments lie in row S; its idle list is v. -/
def Half (w : World) (A S s : Nat) (v : Value) (hd : Int) (hh : Bool) (f : Nat → Seg) : Prop :=
  w.heap[A]? = some (.cells #[.slice (some ⟨S, 0, none⟩) s s, v, .int .u32 hd, .bool hh, .int .i64 0, .int .i64 0, .int .i64 0] 46 (0, 0)) ∧ w.rowIs S 51 (s * 3) (segCell f)

theorem half_new (w : World) (s : Nat) (hd : Int) (hh : Bool) : Half ((w.alloc (.cells #[.slice (some ⟨w.heap.size + 1, 0, none⟩) s s, .slice none 0 0, .int .u32 hd, .bool hh, .int .i64 0, .int .i64 0, .int .i64 0] 46)).alloc (.cells (madeCells #[.slice none 0 0, .int .i64 0, .bool false] (s * 3)) 51)) w.heap.size (w.heap.size + 1) s (.slice none 0 0) hd hh (fun _ => zseg) := by
  refine ⟨?_, ?_⟩
  · rw [Below.heap_alloc _ _ _ (by simp)]
    exact Go.Deep.blk_alloc_new _ _
  · have := made_segs (w := w.alloc (.cells #[.slice (some ⟨w.heap.size + 1, 0, none⟩) s s, .slice none 0 0, .int .u32 hd, .bool hh, .int .i64 0, .int .i64 0, .int .i64 0] 46)) (s := s)
    simpa using this

theorem Half.cells {w : World} {A S s : Nat} {v : Value} {hd : Int} {hh : Bool} {f : Nat → Seg} (H : Half w A S s v hd hh f) :
    w.cell? ⟨A, 0, none⟩ = some (.slice (some ⟨S, 0, none⟩) s s) ∧ w.cell? ⟨A, 1, none⟩ = some v ∧ ∀ k, w.frozen? ⟨A, k, none⟩ = false :=
  ⟨by rw [Lib.cell_of_heap H.1]; rfl, by rw [Lib.cell_of_heap H.1]; rfl, fun k => Lib.frozen_of_heap H.1 k⟩

theorem Half.ne {w : World} {A S s : Nat} {v : Value} {hd : Int} {hh : Bool} {f : Nat → Seg} (H : Half w A S s v hd hh f) : A ≠ S := by
  rintro rfl
  obtain ⟨c, h2, _⟩ := H.2
  rw [H.1] at h2
  simp at h2

theorem Half.lt {w : World} {A S s : Nat} {v : Value} {hd : Int} {hh : Bool} {f : Nat → Seg} (H : Half w A S s v hd hh f) : A < w.heap.size := (Array.getElem?_eq_some_iff.1 H.1).1

theorem Half.alloc {w : World} {A S s : Nat} {v : Value} {hd : Int} {hh : Bool} {f : Nat → Seg} (H : Half w A S s v hd hh f) (o : Obj) : Half (w.alloc o) A S s v hd hh f :=
  ⟨(Below.heap_alloc _ _ _ H.lt).trans H.1, H.2.alloc o⟩

theorem Half.drew {w : World} {A S s : Nat} {v : Value} {hd : Int} {hh : Bool} {f : Nat → Seg} (H : Half w A S s v hd hh f) : Half w.drew A S s v hd hh f := H

theorem half_put2 {w : World} {A S s : Nat} {v : Value} {hd : Int} {hh : Bool} {f : Nat → Seg} (H : Half w A S s v hd hh f) (k : Nat) (l : Int) (g : Bool) :
    Half ((w.setCell ⟨S, k * 3 + 1, none⟩ (.int .i64 l)).setCell ⟨S, k * 3 + 2, none⟩ (.bool g)) A S s v hd hh (upd f k ⟨(f k).a, (f k).c, l, g⟩) := by
  refine ⟨by rw [Below.heap_setCell _ _ _ _ H.ne, Below.heap_setCell _ _ _ _ H.ne]; exact H.1, ((H.2.set (k * 3 + 1) _).set (k * 3 + 2) _).congr fun j hj => ?_⟩
  have hm : j % 3 = 0 ∨ j % 3 = 1 ∨ j % 3 = 2 := by omega
  unfold segCell upd
  by_cases e2 : j = k * 3 + 2
  · subst e2
    have a1 : (k * 3 + 2) % 3 = 2 := by omega
    have a2 : (k * 3 + 2) / 3 = k := by omega
    simp [a1, a2]
  · by_cases e1 : j = k * 3 + 1
    · subst e1
      have a1 : (k * 3 + 1) % 3 = 1 := by omega
      have a2 : (k * 3 + 1) / 3 = k := by omega
      simp [a1, a2]
    · rw [if_neg e2, if_neg e1]
      by_cases e0 : j / 3 = k
      · have a0 : j % 3 = 0 := by omega
        simp [e0, a0]
      · simp [e0]

theorem half_put0 {w : World} {A S s : Nat} {v : Value} {hd : Int} {hh : Bool} {f : Nat → Seg} (H : Half w A S s v hd hh f) (k : Nat) (a : Option Addr) (c : Nat) :
    Half (w.setCell ⟨S, k * 3, none⟩ (.slice a 0 c)) A S s v hd hh (upd f k ⟨a, c, (f k).live, (f k).large⟩) := by
  refine ⟨by rw [Below.heap_setCell _ _ _ _ H.ne]; exact H.1, (H.2.set (k * 3) _).congr fun j hj => ?_⟩
  have hm : j % 3 = 0 ∨ j % 3 = 1 ∨ j % 3 = 2 := by omega
  unfold segCell upd
  by_cases e2 : j = k * 3
  · subst e2
    have a1 : (k * 3) % 3 = 0 := by omega
    have a2 : (k * 3) / 3 = k := by omega
    simp [a1, a2]
  · rw [if_neg e2]
    by_cases e0 : j / 3 = k
    · rcases hm with a0 | a0 | a0
      · omega
      · simp [e0, a0]
      · simp [e0, a0]
    · simp [e0]

theorem half_made {w : World} {A S s : Nat} {v : Value} {hd : Int} {hh : Bool} {f : Nat → Seg} (H : Half w A S s v hd hh f) (k : Nat) (l : Int) (g : Bool) (a : Option Addr) (o : Obj) :
    Half ((((((w.setCell ⟨S, k * 3 + 1, none⟩ (.int .i64 l)).setCell ⟨S, k * 3 + 2, none⟩ (.bool g)).setCell ⟨S, k * 3, none⟩ (.slice a 0 0)).alloc o).drew).drew) A S s v hd hh (upd (upd f k ⟨(f k).a, (f k).c, l, g⟩) k ⟨a, 0, l, g⟩) := by
  have h := (half_put0 (half_put2 H k l g) k a 0).alloc o
  have e : (upd f k ⟨(f k).a, (f k).c, l, g⟩) k = ⟨(f k).a, (f k).c, l, g⟩ := by simp [upd]
  rw [e] at h
  exact h

theorem half_idle {w : World} {A S s : Nat} {v : Value} {hd : Int} {hh : Bool} {f : Nat → Seg} (H : Half w A S s v hd hh f) (v' : Value) : Half (w.setCell ⟨A, 1, none⟩ v') A S s v' hd hh f := by
  refine ⟨?_, H.2.of_block (Below.heap_setCell _ _ _ _ (fun e => H.ne e.symm))⟩
  simp [World.setCell, Array.getElem?_modify, H.1]

theorem half_other {w : World} {A S s : Nat} {v : Value} {hd : Int} {hh : Bool} {f : Nat → Seg} (H : Half w A S s v hd hh f) (I k : Nat) (x : Value) (h1 : A ≠ I) (h2 : S ≠ I) : Half (w.setCell ⟨I, k, none⟩ x) A S s v hd hh f :=
  ⟨by rw [Below.heap_setCell _ _ _ _ h1]; exact H.1, H.2.of_block (Below.heap_setCell _ _ _ _ h2)⟩

theorem arena_half {w : World} {A S s I n : Nat} {hd : Int} {hh : Bool} {f : Nat → Seg} {id : Nat → Int} (H : Half w A S s (.slice (some ⟨I, 0, none⟩) n n) hd hh f) (h : w.rowIs I 25 n (fun j => .int .u32 (id j))) (h1 : A ≤ S) (h2 : A ≤ I) (hs : s ≤ 65536) : Arena w A A S s I n s f n id hd hh := by
  obtain ⟨cur, c1, c2, c3⟩ := H.2
  refine ⟨Nat.le_refl _, h2, ⟨_, _, _, H.1⟩, ⟨by simp, .inr ⟨S, s, cur, rfl, h1, c1, Nat.le_refl _, by unfold maxLen; omega, c2, ?_⟩⟩, h, Nat.le_refl _⟩
  refine List.ext_getElem? fun j => ?_
  rw [List.getElem?_take]
  by_cases hj : j < s * 3
  · rw [if_pos hj, Array.getElem?_toList, c3 j hj]
    simp [hj]
  · rw [if_neg hj]
    simp [hj]

/-- The segments behind one more round. -/
theorem ok_step {lv kd : Nat → Int} {kn k : Nat} {f g : Nat → Seg} (h : ∀ i, i < k → SegOk lv kd kn f i) (hg : ∀ i, i ≠ k → g i = f i) (hk : SegOk lv kd kn g k) : ∀ i, i < k + 1 → SegOk lv kd kn g i := by
  intro i hi
  by_cases e : i = k
  · subst e; exact hk
  · have := h i (by omega)
    exact ⟨by rw [hg i e]; exact this.live, by rw [hg i e]; exact this.large, by rw [hg i e]; exact this.gone⟩

set_option maxRecDepth 100000 in
set_option maxHeartbeats 2000000 in
theorem make_any (a0 : Option Addr) (s c0 : Nat) (lv : Nat → Int) (a1 : Option Addr) (kn c1 : Nat) (kd : Nat → Int) (a2 : Option Addr) (n c2 : Nat) (id : Nat → Int) (hd : Int) (hh : Bool) (w : World)
    (h0 : InF w a0 s (fun j => .int .i64 (lv j))) (h1 : InF w a1 kn (fun j => .int .u8 (kd j))) (h2 : InF w a2 n (fun j => .int .u32 (id j))) (m0 : s ≤ 65536) (m1 : kn ≤ 65536) (m2 : n ≤ 65536) :
    Calls Try.prog 14 #[.slice a0 s c0, .slice a1 kn c1, .slice a2 n c2, .int .u32 hd, .bool hh] w fun e w' => ∃ S I f, e = .returned (.pointer (some ⟨w.heap.size, 0, none⟩)) ∧ Arena w' w.heap.size w.heap.size S s I n s f n id hd hh ∧ (∀ i, i < s → SegOk lv kd kn f i) ∧ Below w.heap.size w w' := by
  have hmk := make_segs s m0
  go_enter Try.func14, Try.ntmps14
  go_wp2_with fail
  have S0 : Half ((w.alloc (.cells #[.slice (some ⟨w.heap.size + 1, 0, none⟩) s s, .slice none 0 0, .int .u32 hd, .bool hh, .int .i64 0, .int .i64 0, .int .i64 0] 46)).alloc (.cells (madeCells #[.slice none 0 0, .int .i64 0, .bool false] (s * 3)) 51)) w.heap.size (w.heap.size + 1) s (.slice none 0 0) hd hh (fun _ => zseg) := half_new w s hd hh
  have B0 : Below w.heap.size w ((w.alloc (.cells #[.slice (some ⟨w.heap.size + 1, 0, none⟩) s s, .slice none 0 0, .int .u32 hd, .bool hh, .int .i64 0, .int .i64 0, .int .i64 0] 46)).alloc (.cells (madeCells #[.slice none 0 0, .int .i64 0, .bool false] (s * 3)) 51)) :=
    ((Below.refl _ _).alloc (Nat.le_refl _) _).alloc (by simp) _
  have Z0 : w.heap.size + 2 ≤ ((w.alloc (.cells #[.slice (some ⟨w.heap.size + 1, 0, none⟩) s s, .slice none 0 0, .int .u32 hd, .bool hh, .int .i64 0, .int .i64 0, .int .i64 0] 46)).alloc (.cells (madeCells #[.slice none 0 0, .int .i64 0, .bool false] (s * 3)) 51)).heap.size := by simp
  obtain ⟨A, hA⟩ : ∃ A, w.heap.size = A := ⟨_, rfl⟩
  obtain ⟨S, hS⟩ : ∃ S, A + 1 = S := ⟨_, rfl⟩
  rw [hA] at S0 B0 Z0 ⊢
  rw [hS] at S0 B0 Z0 ⊢
  generalize ((w.alloc (.cells #[.slice (some ⟨S, 0, none⟩) s s, .slice none 0 0, .int .u32 hd, .bool hh, .int .i64 0, .int .i64 0, .int .i64 0] 46)).alloc (.cells (madeCells #[.slice none 0 0, .int .i64 0, .bool false] (s * 3)) 51)) = W0 at S0 B0 Z0 ⊢
  clear hmk
  go_loopw [12] (fun i wr => ∃ (k : Nat) (f : Nat → Seg), k ≤ s ∧ i = .int .i64 k ∧ Half wr A S s (.slice none 0 0) hd hh f ∧ (∀ i, i < k → SegOk lv kd kn f i) ∧ (∀ i, k ≤ i → (f i).a = none) ∧ Below A w wr ∧ A + 2 ≤ wr.heap.size) (fun i _ => s - (intOf i).toNat)
  case atStart => exact ⟨0, _, Nat.zero_le _, rfl, S0, fun i hi => by omega, fun i hi => rfl, B0, Z0⟩
  case round =>
  obtain ⟨k, f, hk, rfl, hs, hok, hno, hb, hz⟩ := hrel
  clear S0 B0 Z0
  have HOK : Hid (∀ i, i < k → SegOk lv kd kn f i) := hok
  have HNO : Hid (∀ i, k ≤ i → (f i).a = none) := hno
  clear hno
  have HA : Hid (w.heap.size = A) := hA
  have HS : Hid (A + 1 = S) := hS
  clear hok
  by_cases hlt : k < s
  · obtain ⟨b0, o0, rfl, hb0, hc0⟩ := h0.resolve_left (by omega)
    have x0 : wr.cell? ⟨b0, o0 + k, none⟩ = some (.int .i64 (lv k)) := (hb.cell (by show b0 < A; omega)).trans (hc0 k hlt)
    obtain ⟨y0, yv, yf⟩ := hs.cells
    obtain ⟨z0, z1, z2⟩ := seg_cells hs.2 hlt
    have q0 := hs.2.frozen (k * 3)
    have q1 := hs.2.frozen (k * 3 + 1)
    have q2 := hs.2.frozen (k * 3 + 2)
    have ab : b0 ≠ S := by omega
    have as' : A ≠ S := by omega
    have asz : S < wr.heap.size := by omega
    have aaz : A < wr.heap.size := by omega
    have hAS : A ≤ S := by omega
    have hmb : ∀ wx : World, (Instr.makeSlice 23 (.int .i64 0) (.int .i64 0)).run Try.prog wx = .ok (.slice (some ⟨wx.heap.size, 0, none⟩) 0 0) (wx.alloc (.cells (madeCells #[.int .u8 0] 0) 5)) := make_bytes 0 (by omega)
    clear hc0 hA hS
    by_cases hkn : k < kn
    · obtain ⟨b1, o1, rfl, hb1, hc1⟩ := h1.resolve_left (by omega)
      have x1 : wr.cell? ⟨b1, o1 + k, none⟩ = some (.int .u8 (kd k)) := (hb.cell (by show b1 < A; have := HA.out; omega)).trans (hc1 k hkn)
      clear hc1
      by_cases hbt : (bits BinOp.and IntKind.u8 (kd k) 1 == 0) = true
      · go_wp2_with fail
        go_region
        go_wp2_with fail
        go_region
        all_goals
          go_wp2
          go_roundw
          case rel => exact ⟨k + 1, upd (upd f k ⟨(f k).a, (f k).c, lv k, bits BinOp.and IntKind.u8 (kd k) 2 != 0⟩) k ⟨some ⟨wr.heap.size, 0, none⟩, 0, lv k, bits BinOp.and IntKind.u8 (kd k) 2 != 0⟩, by omega, by go_num, half_made hs k _ _ _ _, ok_step HOK.out (fun i hi => by simp [upd, hi]) ⟨by simp [upd], by simp [upd, kAt, if_pos hkn], by simp only [upd, if_true, kAt, if_pos hkn]; rw [hbt]; rfl⟩, fun i hi => by simp only [upd]; rw [if_neg (by omega), if_neg (by omega)]; exact HNO.out i (by omega), (((((hb.setCell hAS _).setCell hAS _).setCell hAS _).alloc (by simp; omega) _).drew).drew, by simp; omega⟩
          case measure => simp [intOf]; omega
      · replace hbt : (bits BinOp.and IntKind.u8 (kd k) 1 == 0) = false := by simpa using hbt
        go_wp2_with fail
        go_region
        go_wp2
        go_roundw
        case rel => exact ⟨k + 1, _, by omega, by go_num, (half_put2 hs k _ _).drew, ok_step HOK.out (fun i hi => by simp [upd, hi]) ⟨by simp [upd], by simp [upd, kAt, if_pos hkn], by simp only [upd, if_true, HNO.out k (Nat.le_refl _), kAt, if_pos hkn]; rw [hbt]; rfl⟩, fun i hi => by simp only [upd]; rw [if_neg (by omega)]; exact HNO.out i (by omega), ((hb.setCell (by show A ≤ S; omega) _).setCell (by show A ≤ S; omega) _).drew, by simpa using hz⟩
        case measure => simp [intOf]; omega
    · have hbt : (bits BinOp.and IntKind.u8 0 1 == 0) = true := by decide
      go_wp2_with fail
      go_region
      go_wp2_with fail
      go_region
      all_goals
        go_wp2
        go_roundw
        case rel => exact ⟨k + 1, upd (upd f k ⟨(f k).a, (f k).c, lv k, bits BinOp.and IntKind.u8 0 2 != 0⟩) k ⟨some ⟨wr.heap.size, 0, none⟩, 0, lv k, bits BinOp.and IntKind.u8 0 2 != 0⟩, by omega, by go_num, half_made hs k _ _ _ _, ok_step HOK.out (fun i hi => by simp [upd, hi]) ⟨by simp [upd], by simp only [upd, if_true, kAt, if_neg hkn], by simp only [upd, if_true, kAt, if_neg hkn]; rw [hbt]; rfl⟩, fun i hi => by simp only [upd]; rw [if_neg (by omega), if_neg (by omega)]; exact HNO.out i (by omega), (((((hb.setCell hAS _).setCell hAS _).setCell hAS _).alloc (by simp; omega) _).drew).drew, by simp; omega⟩
        case measure => simp [intOf]; omega
  · have : k = s := by omega
    subst this
    have hmk := run_make_row' (P := Try.prog) 24 25 (.int .u32 0) 4 Try.underlying24 Try.info25 rfl .i64 .i64 n (by omega) (by omega)
    obtain ⟨y0, yv, yf⟩ := hs.cells
    have y1 := yf 1
    have asz : S < wr.heap.size := by omega
    have aaz : A < wr.heap.size := by omega
    have hAS : A ≤ S := by omega
    clear yf
    go_wp2_with fail
    have S1 : Half ((wr.setCell ⟨A, 1, none⟩ (.slice (some ⟨wr.heap.size, 0, none⟩) n n)).alloc (.cells (madeCells #[.int .u32 0] n) 25)) A S k (.slice (some ⟨wr.heap.size, 0, none⟩) n n) hd hh f := (half_idle hs _).alloc _
    have R1 : ((wr.setCell ⟨A, 1, none⟩ (.slice (some ⟨wr.heap.size, 0, none⟩) n n)).alloc (.cells (madeCells #[.int .u32 0] n) 25)).rowIs wr.heap.size 25 n (half (fun j => .int .u32 (id j)) (.int .u32 0) 0) := by
      have := World.rowIs_made (wr.setCell ⟨A, 1, none⟩ (.slice (some ⟨wr.heap.size, 0, none⟩) n n)) (.int .u32 0) n 25
      simp only [World.size_setCell] at this
      exact this.congr (fun i _ => by simp [half])
    have B1 : Below A w ((wr.setCell ⟨A, 1, none⟩ (.slice (some ⟨wr.heap.size, 0, none⟩) n n)).alloc (.cells (madeCells #[.int .u32 0] n) 25)) := (hb.setCell (Nat.le_refl _) _).alloc (by simp; omega) _
    clear hmk y0 yv y1 hb hs
    obtain ⟨I, hI⟩ : ∃ I, wr.heap.size = I := ⟨_, rfl⟩
    rw [hI] at asz aaz
    have hAI : A ≤ I := by omega
    have HI : Hid (wr.heap.size = I) := hI
    rw [hI] at S1 R1 B1 ⊢
    clear hI hz
    generalize ((wr.setCell ⟨A, 1, none⟩ (.slice (some ⟨I, 0, none⟩) n n)).alloc (.cells (madeCells #[.int .u32 0] n) 25)) = W1 at S1 R1 B1 ⊢
    clear HI hA hS
    go_loopw [14] (fun i wr => ∃ j : Nat, j ≤ n ∧ i = .int .i64 j ∧ Half wr A S k (.slice (some ⟨I, 0, none⟩) n n) hd hh f ∧ wr.rowIs I 25 n (half (fun j => .int .u32 (id j)) (.int .u32 0) j) ∧ Below A w wr) (fun i _ => n - (intOf i).toNat)
    case atStart => exact ⟨0, Nat.zero_le _, rfl, S1, R1, B1⟩
    case round =>
    obtain ⟨j, hj, rfl, hs, hr, hb⟩ := hrel
    clear S1 R1 B1
    by_cases hlt : j < n
    · obtain ⟨b2, o2, rfl, hb2, hc2⟩ := h2.resolve_left (by omega)
      have x0 : wr.cell? ⟨b2, o2 + j, none⟩ = some (.int .u32 (id j)) := (hb.cell (by show b2 < A; rw [← HA.out]; exact hb2)).trans (hc2 j hlt)
      obtain ⟨y0, yv, yf⟩ := hs.cells
      have x1 := hr.cell hlt
      have x2 := hr.frozen j
      clear hc2 y0 yf
      go_wp2_with fail
      go_region
      go_wp2
      go_roundw
      case rel => exact ⟨j + 1, by omega, by go_num, (half_other hs I j _ (by omega) (by omega)).drew, half_step hr rfl, (hb.setCell hAI _).drew⟩
      case measure => simp [intOf]; omega
    · have : j = n := by omega
      subst this
      go_wp2
      go_ret
      have e := HA.out
      subst e
      exact ⟨S, I, f, rfl, arena_half hs (hr.congr (fun i hi => by simp [half, hi])) hAS hAI m0, HOK.out, hb⟩
end Go.Proofs.Qxb6600157a
