import Derived.Test.Qxb6600157aBase
import Derived.Deep.RegionHeld3
import Derived.Deep.AppendLies
import Derived.Deep.RegionLaw
namespace Go.Proofs.Qxb6600157a
open Go.RowKit
set_option linter.unusedVariables false

/-- A segment as the laws see it: its bytes' address (nil: given back) and capacity (their length is 0), its live bytes, whether it is large. -/
structure Seg where
  a : Option Addr
  c : Nat
  live : Int
  large : Bool

/-- The cells of a row of segments, three each. -/
def segCell (f : Nat → Seg) (j : Nat) : Value := if j % 3 = 0 then .slice (f (j / 3)).a 0 (f (j / 3)).c else if j % 3 = 1 then .int .i64 (f (j / 3)).live else .bool (f (j / 3)).large

/-- AN ARENA IN MEMORY, all of it from block B on: sn segments f, the idle places idl 0 .. idl (n-1), a head. -/
structure Arena (w : World) (B A S sc I ic sn : Nat) (f : Nat → Seg) (n : Nat) (idl : Nat → Int) (hd : Int) (hh : Bool) : Prop where
  leA : B ≤ A
  leI : B ≤ I
  blk : ∃ g u l, w.heap[A]? = some (.cells #[.slice (some ⟨S, 0, none⟩) sn sc, .slice (some ⟨I, 0, none⟩) n ic, .int .u32 hd, .bool hh, g, u, l] 46 (0, 0))
  segs : w.ownsRow B 51 3 (.slice (some ⟨S, 0, none⟩) sn sc) sn ((List.range (sn * 3)).map (segCell f))
  idle : w.rowIs I 25 ic (fun j => .int .u32 (idl j))
  nle : n ≤ ic

theorem Try.info51 : (Try.prog.info? 51).map (fun i => (i.zero, i.size, i.bytes)) = some (some (.agg #[.slice none 0 0, .int .i64 0, .bool false]), 3, 40) := by kernel_rfl

theorem arena_of {w w' : World} {B A S sc I ic sn : Nat} {f : Nat → Seg} {n : Nat} {idl : Nat → Int} {hd : Int} {hh : Bool} (H : Arena w B A S sc I ic sn f n idl hd hh)
    (hA : w'.heap[A]? = w.heap[A]?) (hS : w'.heap[S]? = w.heap[S]?) (hI : w'.heap[I]? = w.heap[I]?) : Arena w' B A S sc I ic sn f n idl hd hh := by
  obtain ⟨g, u, l, h⟩ := H.blk
  refine ⟨H.leA, H.leI, ⟨g, u, l, by rw [hA]; exact h⟩, ⟨H.segs.1, ?_⟩, H.idle.of_block hI, H.nle⟩
  rcases H.segs.2 with ⟨hv, _⟩ | ⟨g', cap, cur, hv, hg, hh', r⟩
  · cases hv
  · refine .inr ⟨g', cap, cur, hv, hg, ?_, r⟩
    injection hv with hv _ _
    injection hv with hv
    injection hv with hv _ _
    rw [← hv, hS, hv]
    exact hh'

theorem Arena.ltA {w : World} {B A S sc I ic sn : Nat} {f : Nat → Seg} {n : Nat} {idl : Nat → Int} {hd : Int} {hh : Bool} (H : Arena w B A S sc I ic sn f n idl hd hh) : A < w.heap.size := by
  obtain ⟨g, u, l, h⟩ := H.blk
  exact (Array.getElem?_eq_some_iff.1 h).1

theorem Arena.row {w : World} {B A S sc I ic sn : Nat} {f : Nat → Seg} {n : Nat} {idl : Nat → Int} {hd : Int} {hh : Bool} (H : Arena w B A S sc I ic sn f n idl hd hh) :
    ∃ cur : Array Value, B ≤ S ∧ w.heap[S]? = some (.cells cur 51 (0, 0)) ∧ sn ≤ sc ∧ sc ≤ maxLen ∧ cur.size = sc * 3 ∧ ∀ j, j < sn * 3 → cur[j]? = some (segCell f j) := by
  rcases H.segs.2 with ⟨hv, _⟩ | ⟨g', cap, cur, hv, hg, hh', h1, h2, h3, h4⟩
  · cases hv
  · injection hv with hv _ hc
    injection hv with hv
    injection hv with hv _ _
    subst hv hc
    refine ⟨cur, hg, hh', h1, h2, h3, fun j hj => ?_⟩
    have e : (cur.toList.take (sn * 3))[j]? = ((List.range (sn * 3)).map (segCell f))[j]? := by rw [h4]
    rw [List.getElem?_take, if_pos hj] at e
    rw [← Array.getElem?_toList, e]
    simp [hj]

theorem Arena.ltS {w : World} {B A S sc I ic sn : Nat} {f : Nat → Seg} {n : Nat} {idl : Nat → Int} {hd : Int} {hh : Bool} (H : Arena w B A S sc I ic sn f n idl hd hh) : S < w.heap.size := by
  obtain ⟨cur, _, h, _⟩ := H.row
  exact (Array.getElem?_eq_some_iff.1 h).1

theorem Arena.ne {w : World} {B A S sc I ic sn : Nat} {f : Nat → Seg} {n : Nat} {idl : Nat → Int} {hd : Int} {hh : Bool} (H : Arena w B A S sc I ic sn f n idl hd hh) : A ≠ S ∧ A ≠ I ∧ S ≠ I := by
  obtain ⟨g, u, l, h⟩ := H.blk
  obtain ⟨cur, _, h1, _⟩ := H.row
  obtain ⟨c, h2, _⟩ := H.idle
  refine ⟨fun e => ?_, fun e => ?_, fun e => ?_⟩
  · subst e; rw [h] at h1; simp at h1
  · subst e; rw [h] at h2; simp at h2
  · subst e; rw [h1] at h2; simp at h2

theorem Arena.alloc {w : World} {B A S sc I ic sn : Nat} {f : Nat → Seg} {n : Nat} {idl : Nat → Int} {hd : Int} {hh : Bool} (H : Arena w B A S sc I ic sn f n idl hd hh) (o : Obj) : Arena (w.alloc o) B A S sc I ic sn f n idl hd hh :=
  arena_of H (Below.heap_alloc _ _ _ H.ltA) (Below.heap_alloc _ _ _ H.ltS) (Below.heap_alloc _ _ _ H.idle.lt)

theorem Arena.drewN {w : World} {B A S sc I ic sn : Nat} {f : Nat → Seg} {n : Nat} {idl : Nat → Int} {hd : Int} {hh : Bool} (H : Arena w B A S sc I ic sn f n idl hd hh) (k : Nat) : Arena (w.drewN k) B A S sc I ic sn f n idl hd hh :=
  arena_of H rfl rfl rfl

/-- The idle list one shorter. -/
theorem Arena.pop {w : World} {B A S sc I ic sn : Nat} {f : Nat → Seg} {n : Nat} {idl : Nat → Int} {hd : Int} {hh : Bool} (H : Arena w B A S sc I ic sn f (n + 1) idl hd hh) :
    Arena (w.setCell ⟨A, 1, none⟩ (.slice (some ⟨I, 0, none⟩) n ic)) B A S sc I ic sn f n idl hd hh := by
  obtain ⟨n1, n2, n3⟩ := H.ne
  obtain ⟨g, u, l, h⟩ := H.blk
  have eS : (w.setCell ⟨A, 1, none⟩ (.slice (some ⟨I, 0, none⟩) n ic)).heap[S]? = w.heap[S]? := Below.heap_setCell _ _ _ _ (fun e => n1 e.symm)
  have eI : (w.setCell ⟨A, 1, none⟩ (.slice (some ⟨I, 0, none⟩) n ic)).heap[I]? = w.heap[I]? := Below.heap_setCell _ _ _ _ (fun e => n2 e.symm)
  have eA : (w.setCell ⟨A, 1, none⟩ (.slice (some ⟨I, 0, none⟩) n ic)).heap[A]? = some (.cells #[.slice (some ⟨S, 0, none⟩) sn sc, .slice (some ⟨I, 0, none⟩) n ic, .int .u32 hd, .bool hh, g, u, l] 46 (0, 0)) := by
    simp [World.setCell, Array.getElem?_modify, h]
  refine ⟨H.leA, H.leI, ⟨g, u, l, eA⟩, ⟨H.segs.1, ?_⟩, H.idle.of_block eI, by have := H.nle; omega⟩
  rcases H.segs.2 with ⟨hv, _⟩ | ⟨g', cap, cur, hv, hg, hh', r⟩
  · cases hv
  · refine .inr ⟨g', cap, cur, hv, hg, ?_, r⟩
    injection hv with hv _ _
    injection hv with hv
    injection hv with hv _ _
    rw [← hv, eS, hv]
    exact hh'

/-- Segment p laid anew. -/
def upd (f : Nat → Seg) (p : Nat) (s : Seg) (i : Nat) : Seg := if i = p then s else f i

theorem Arena.put {w : World} {B A S sc I ic sn : Nat} {f : Nat → Seg} {n : Nat} {idl : Nat → Int} {hd : Int} {hh : Bool} (H : Arena w B A S sc I ic sn f n idl hd hh) (p : Nat) (hp : p < sn) (s : Seg) :
    Arena (((w.setCell ⟨S, p * 3, none⟩ (.slice s.a 0 s.c)).setCell ⟨S, p * 3 + 1, none⟩ (.int .i64 s.live)).setCell ⟨S, p * 3 + 2, none⟩ (.bool s.large)) B A S sc I ic sn (upd f p s) n idl hd hh := by
  obtain ⟨n1, n2, n3⟩ := H.ne
  obtain ⟨g, u, l, h⟩ := H.blk
  obtain ⟨cur, hBS, hS, h1, h2, h3, h4⟩ := H.row
  have old : ∀ k, k ≠ S → (((w.setCell ⟨S, p * 3, none⟩ (.slice s.a 0 s.c)).setCell ⟨S, p * 3 + 1, none⟩ (.int .i64 s.live)).setCell ⟨S, p * 3 + 2, none⟩ (.bool s.large)).heap[k]? = w.heap[k]? := by
    intro k hk
    rw [Below.heap_setCell _ _ _ _ hk, Below.heap_setCell _ _ _ _ hk, Below.heap_setCell _ _ _ _ hk]
  have new : (((w.setCell ⟨S, p * 3, none⟩ (.slice s.a 0 s.c)).setCell ⟨S, p * 3 + 1, none⟩ (.int .i64 s.live)).setCell ⟨S, p * 3 + 2, none⟩ (.bool s.large)).heap[S]? =
      some (.cells (((cur.setIfInBounds (p * 3) (.slice s.a 0 s.c)).setIfInBounds (p * 3 + 1) (.int .i64 s.live)).setIfInBounds (p * 3 + 2) (.bool s.large)) 51 (0, 0)) := by
    simp [World.setCell, Array.getElem?_modify, hS]
  refine ⟨H.leA, H.leI, ⟨g, u, l, by rw [old _ n1]; exact h⟩, ⟨by simp, .inr ⟨S, sc, _, rfl, hBS, new, h1, h2, by simpa using h3, ?_⟩⟩, H.idle.of_block (old _ (fun e => n3 e.symm)), H.nle⟩
  refine List.ext_getElem? fun j => ?_
  rw [List.getElem?_take]
  by_cases hj : j < sn * 3
  · rw [if_pos hj, Array.getElem?_toList]
    have hc := h4 j hj
    have e0 : ((List.range (sn * 3)).map (segCell (upd f p s)))[j]? = some (segCell (upd f p s) j) := by simp [hj]
    rw [e0]
    have hjs : j < sc * 3 := by omega
    simp only [Array.getElem?_setIfInBounds, Array.size_setIfInBounds, h3]
    have hm : j % 3 = 0 ∨ j % 3 = 1 ∨ j % 3 = 2 := by omega
    by_cases hp0 : j / 3 = p
    · subst hp0
      rcases hm with hm | hm | hm
      · have e1 : j / 3 * 3 = j := by omega
        rw [if_neg (by omega), if_neg (by omega), if_pos e1]
        simp [e1, hjs, segCell, upd, hm]
      · have e1 : j / 3 * 3 + 1 = j := by omega
        rw [if_neg (by omega), if_pos e1]
        simp [e1, hjs, segCell, upd, hm]
      · have e1 : j / 3 * 3 + 2 = j := by omega
        rw [if_pos e1]
        simp [e1, hjs, segCell, upd, hm]
    · rw [if_neg (by omega), if_neg (by omega), if_neg (by omega), hc]
      simp [segCell, upd, hp0]
  · rw [if_neg hj]
    simp [hj]

/-- The arena's cells, for a walk. -/
theorem Arena.cells {w : World} {B A S sc I ic sn : Nat} {f : Nat → Seg} {n : Nat} {idl : Nat → Int} {hd : Int} {hh : Bool} (H : Arena w B A S sc I ic sn f n idl hd hh) :
    w.cell? ⟨A, 0, none⟩ = some (.slice (some ⟨S, 0, none⟩) sn sc) ∧ w.cell? ⟨A, 1, none⟩ = some (.slice (some ⟨I, 0, none⟩) n ic) ∧ w.cell? ⟨A, 2, none⟩ = some (.int .u32 hd) ∧ w.cell? ⟨A, 3, none⟩ = some (.bool hh) ∧
    (∀ k, w.frozen? ⟨A, k, none⟩ = false) ∧ (∀ k, w.frozen? ⟨S, k, none⟩ = false) := by
  obtain ⟨g, u, l, h⟩ := H.blk
  obtain ⟨cur, hBS, hS, h1, h2, h3, h4⟩ := H.row
  exact ⟨by rw [Lib.cell_of_heap h]; rfl, by rw [Lib.cell_of_heap h]; rfl, by rw [Lib.cell_of_heap h]; rfl, by rw [Lib.cell_of_heap h]; rfl, fun k => Lib.frozen_of_heap h k, fun k => Lib.frozen_of_heap hS k⟩

theorem Arena.seg {w : World} {B A S sc I ic sn : Nat} {f : Nat → Seg} {n : Nat} {idl : Nat → Int} {hd : Int} {hh : Bool} (H : Arena w B A S sc I ic sn f n idl hd hh) {i : Nat} (hi : i < sn) :
    w.cell? ⟨S, i * 3, none⟩ = some (.slice (f i).a 0 (f i).c) ∧ w.cell? ⟨S, i * 3 + 1, none⟩ = some (.int .i64 (f i).live) ∧ w.cell? ⟨S, i * 3 + 2, none⟩ = some (.bool (f i).large) := by
  obtain ⟨cur, hBS, hS, h1, h2, h3, h4⟩ := H.row
  refine ⟨?_, ?_, ?_⟩ <;> rw [Lib.cell_of_heap hS, h4 _ (by omega)] <;> unfold segCell
  · have e1 : (i * 3) % 3 = 0 := by omega
    have e2 : (i * 3) / 3 = i := by omega
    simp [e1, e2]
  · have e1 : (i * 3 + 1) % 3 = 1 := by omega
    have e2 : (i * 3 + 1) / 3 = i := by omega
    simp [e1, e2]
  · have e1 : (i * 3 + 2) % 3 = 2 := by omega
    have e2 : (i * 3 + 2) / 3 = i := by omega
    simp [e1, e2]

theorem new3 {W : World} {k : Nat} (hk : k = W.heap.size) (x y z : Value) (t : TypeId) :
    (W.alloc (.cells #[x, y, z] t)).cell? ⟨k, 0, none⟩ = some x ∧ (W.alloc (.cells #[x, y, z] t)).cell? ⟨k, 1, none⟩ = some y ∧ (W.alloc (.cells #[x, y, z] t)).cell? ⟨k, 2, none⟩ = some z := by
  subst hk; simp

theorem make_bytes (size : Nat) (hsz : size ≤ 65536) (wx : World) :
    (Instr.makeSlice 23 (.int .i64 0) (.int .i64 (size : Int))).run Try.prog wx = .ok (.slice (some ⟨wx.heap.size, 0, none⟩) 0 size) (wx.alloc (.cells (madeCells #[.int .u8 0] size) 5)) := by
  obtain ⟨i0, hi, hz0, hz1, hz2⟩ := info_parts Try.info5
  have hr := run_make (P := Try.prog) wx 23 5 i0 (.int .u8 0) Try.underlying23 hi hz0 .i64 .i64 0 size (by omega) (by omega) (by rw [hz2]; omega) (by omega)
  simp only [Int.toNat_natCast, hz1, Nat.mul_one] at hr
  exact hr

set_option maxRecDepth 100000 in
set_option maxHeartbeats 1000000 in
theorem new_idle (w : World) (B A S sc I ic sn : Nat) (f : Nat → Seg) (n : Nat) (idl : Nat → Int) (hd : Int) (hh : Bool) (size : Nat) (large : Bool) (p : Nat)
    (H : Arena w B A S sc I ic sn f (n + 1) idl hd hh) (hp : idl n = p) (hps : p < sn) (hsz : size ≤ 65536) (hn : n ≤ 65536) (hsn : sn ≤ 131072) (hB : B ≤ w.heap.size) :
    Calls Try.prog 31 #[.pointer (some ⟨A, 0, none⟩), .int .i64 size, .bool large] w fun e w' => e = .returned (.int .u32 p) ∧ Arena w' B A S sc I ic sn (upd f p ⟨some ⟨w.heap.size, 0, none⟩, size, 0, large⟩) n idl hd hh ∧ Below B w w' := by
  obtain ⟨c0, c1, _, _, fz, _⟩ := H.cells
  have f1 := fz 1
  have hAl := H.ltA
  have hIl := H.idle.lt
  have hnl := H.nle
  have hnl' : n ≤ ic := by omega
  have ci : w.cell? ⟨I, n, none⟩ = some (.int .u32 (p : Int)) := by rw [H.idle.cell (by omega), hp]
  have hmk := make_bytes size hsz
  clear fz hp
  go_enter Try.func31, Try.ntmps31
  go_wp2_with fail
  have H1 := (H.pop.alloc (.cells (madeCells #[.int .u8 0] size) 5)).alloc (.cells #[.slice (some ⟨w.heap.size, 0, none⟩) 0 size, .int .i64 0, .bool large] 51)
  have B1 : Below B w (((w.setCell ⟨A, 1, none⟩ (.slice (some ⟨I, 0, none⟩) n ic)).alloc (.cells (madeCells #[.int .u8 0] size) 5)).alloc (.cells #[.slice (some ⟨w.heap.size, 0, none⟩) 0 size, .int .i64 0, .bool large] 51)) :=
    (((Below.refl _ _).setCell H.leA _).alloc (by simpa using hB) _).alloc (by simp; omega) _
  obtain ⟨d0, d1, d2⟩ := new3 (W := ((w.setCell ⟨A, 1, none⟩ (.slice (some ⟨I, 0, none⟩) n ic)).alloc (.cells (madeCells #[.int .u8 0] size) 5))) (k := w.heap.size + 1) (by simp) (.slice (some ⟨w.heap.size, 0, none⟩) 0 size) (.int .i64 0) (.bool large) 51
  generalize (((w.setCell ⟨A, 1, none⟩ (.slice (some ⟨I, 0, none⟩) n ic)).alloc (.cells (madeCells #[.int .u8 0] size) 5)).alloc (.cells #[.slice (some ⟨w.heap.size, 0, none⟩) 0 size, .int .i64 0, .bool large] 51)) = W1 at H1 B1 d0 d1 d2 ⊢
  clear c0 c1 f1 ci
  obtain ⟨c0, c1, _, _, _, fs⟩ := H1.cells
  obtain ⟨s0, s1, s2⟩ := H1.seg hps
  have fs0 := fs (p * 3)
  have fs1 := fs (p * 3 + 1)
  have fs2 := fs (p * 3 + 2)
  clear fs c1 hmk
  go_region
  go_wp2
  go_ret
  refine ⟨rfl, ?_, ?_⟩
  · exact (H1.put p hps ⟨some ⟨w.heap.size, 0, none⟩, size, 0, large⟩).drewN 1
  · obtain ⟨cur, hBS, _⟩ := H1.row
    exact (((B1.setCell hBS _).setCell hBS _).setCell hBS _).drew
end Go.Proofs.Qxb6600157a
