import Derived.Test.Qxb6600092aCols
namespace Go.Proofs.Qxb6600092a
open Go.RowKit Go.Maps
set_option linter.unusedVariables false

theorem run_makeMap_hint (n : Int) (w : World) : (Instr.makeMap 54 (some (.int .i64 n))).run Try.prog w = .ok (.map (some w.heap.size)) (w.alloc (.map #[] 0)) := by
  simp [Instr.makeMap, run_underlying Try.underlying54, asInt, asIntOf, Result.andThen]

/-- THE LAST PLACE below k at which fs holds x, or -1. -/
def lastIdx (fs : List Int) : Nat → Int → Int
  | 0, _ => -1
  | k + 1, x => if fs.getD k 0 = x then (k : Int) else lastIdx fs k x

theorem law3 : Keyed Try.prog 3 := int_keyed Try.underlying3
theorem zero3 (w : World) : (zeroValue 3).run Try.prog w = .ok (.int .i64 0) w := by kernel_rfl

/-- The map behind k rounds. -/
def Pm (fs : List Int) : Nat → DataW Unit
  | 0 => .map []
  | k + 1 => (Pm fs k).put (.int .i64 (fs.getD k 0)) (.lit (.int .i64 k))

theorem Pm_isMap (fs : List Int) : ∀ k, IsMap (Pm fs k)
  | 0 => isMap_empty
  | k + 1 => (Pm_isMap fs k).put _ _

theorem lastIdx_lo (fs : List Int) (x : Int) : ∀ k : Nat, -1 ≤ lastIdx fs k x ∧ lastIdx fs k x < k
  | 0 => by simp [lastIdx]
  | k + 1 => by
    have := lastIdx_lo fs x k
    unfold lastIdx
    split <;> omega

theorem isKey_int {q : IntKind} {x : Int} : WideAt.IsKeyLit (.int q x) := by simp [WideAt.IsKeyLit]

theorem Pm_has (fs : List Int) (x : Int) : ∀ k, Maps.has (Pm fs k) (.int .i64 x) = decide (0 ≤ lastIdx fs k x)
  | 0 => by simp [Pm, lastIdx, Maps.has]
  | k + 1 => by
    unfold Pm lastIdx
    by_cases h : fs.getD k 0 = x
    · rw [h, has_put_same (Pm_isMap fs k) isKey_int, if_pos rfl]; simp
    · rw [has_put_other (by intro e; injection e with _ e; exact h e.symm), if_neg h, Pm_has fs x k]

theorem Pm_at (fs : List Int) (x : Int) (z : DataW Unit) : ∀ k, 0 ≤ lastIdx fs k x → (Pm fs k).atKey (.int .i64 x) z = .lit (.int .i64 (lastIdx fs k x))
  | 0, h => by simp [lastIdx] at h
  | k + 1, h0 => by
    unfold Pm lastIdx
    unfold lastIdx at h0
    by_cases h : fs.getD k 0 = x
    · rw [h, atKey_put_same (Pm_isMap fs k) isKey_int, if_pos rfl]
    · rw [if_neg h] at h0
      rw [atKey_put_other (by intro e; injection e with _ e; exact h e.symm), if_neg h, Pm_at fs x z k h0]

theorem wf_at {zs : List Int} (h : ∀ n ∈ zs, (Lit.int .i64 n).wf = true) (k : Nat) : (Lit.int .i64 (zs.getD k 0)).wf = true := by
  rw [List.getD_eq_getElem?_getD]
  cases e : zs[k]? with
  | none => decide
  | some x => exact h x (List.mem_of_getElem? e)

theorem col_cells {w : World} {B n k : Nat} {zs : List Int} (h : w.rowIs B 53 (n * 5) (colCell zs n)) (hk : k < n) :
    w.cell? ⟨B, k * 5, none⟩ = some (.string ByteArray.empty) ∧ w.cell? ⟨B, k * 5 + 1, none⟩ = some (.int .i64 0) ∧ w.cell? ⟨B, k * 5 + 2, none⟩ = some (.int .i64 0) ∧
    w.cell? ⟨B, k * 5 + 3, none⟩ = some (.bool false) ∧ w.cell? ⟨B, k * 5 + 4, none⟩ = some (.int .i64 (zs.getD k 0)) := by
  refine ⟨?_, ?_, ?_, ?_, ?_⟩ <;> rw [h.cell (by omega)] <;> unfold colCell
  · have : (k * 5) % 5 = 0 := by omega
    simp [this, zc]
  · have : (k * 5 + 1) % 5 = 1 := by omega
    simp [this, zc]
  · have : (k * 5 + 2) % 5 = 2 := by omega
    simp [this, zc]
  · have : (k * 5 + 3) % 5 = 3 := by omega
    simp [this, zc]
  · have : (k * 5 + 4) % 5 = 4 := by omega
    have e : (k * 5 + 4) / 5 = k := by omega
    simp [this, e, hk]

/-- The conversion's cells once j of them are laid. -/
def convCell (fs ts : List Int) (m j i : Nat) : Value := if i < j then .int .i64 (lastIdx fs m (ts.getD i 0)) else .int .i64 0

theorem conv_put {w : World} {B n m j : Nat} {fs ts : List Int} {x : Value} (h : w.rowIs B 3 n (fun i => if i = j then x else convCell fs ts m j i)) :
    (w.setCell ⟨B, j, none⟩ (.int .i64 (lastIdx fs m (ts[j]?.getD 0)))).rowIs B 3 n (convCell fs ts m (j + 1)) := by
  refine (h.set j _).congr fun i hi => ?_
  unfold convCell
  by_cases e : i = j
  · subst e; simp
  · have e3 : i < j ↔ i < j + 1 := by omega
    simp only [e, if_false, e3]

theorem conv_miss {w : World} {B n m j : Nat} {fs ts : List Int} (hx : lastIdx fs m (ts[j]?.getD 0) = -1) (h : w.rowIs B 3 n (convCell fs ts m j)) :
    (w.setCell ⟨B, j, none⟩ (.int .i64 (-1))).rowIs B 3 n (convCell fs ts m (j + 1)) := by
  refine (h.set j _).congr fun i hi => ?_
  unfold convCell
  by_cases e : i = j
  · subst e; simp [hx]
  · have e3 : i < j ↔ i < j + 1 := by omega
    simp only [e, if_false, e3]

set_option maxRecDepth 100000 in
set_option maxHeartbeats 400000 in
theorem conv_any (pt pf Bt Bf n m : Nat) (ts fs : List Int) (w : World) (hn : n ≤ 65536) (hm : m ≤ 65536)
    (hpt : pt < w.heap.size) (hpf : pf < w.heap.size) (hwf : ∀ z ∈ fs, (Lit.int .i64 z).wf = true) (hwt : ∀ z ∈ ts, (Lit.int .i64 z).wf = true)
    (ct : w.cell? ⟨pt, 2, none⟩ = some (.slice (some ⟨Bt, 0, none⟩) n n)) (cf : w.cell? ⟨pf, 2, none⟩ = some (.slice (some ⟨Bf, 0, none⟩) m m))
    (rt : w.rowIs Bt 53 (n * 5) (colCell ts n)) (rf : w.rowIs Bf 53 (m * 5) (colCell fs m)) :
    Calls Try.prog 10 #[.pointer (some ⟨pt, 0, none⟩), .pointer (some ⟨pf, 0, none⟩)] w fun e w' => ∃ g, e = .returned (.slice (some ⟨g, 0, none⟩) n n) ∧ w.heap.size ≤ g ∧
      w'.rowIs g 3 n (fun i => .int .i64 (lastIdx fs m (ts.getD i 0))) ∧ Below w.heap.size w w' := by
  have hmm := run_makeMap_hint m
  go_enter Try.func10, Try.ntmps10
  go_wp2
  go_loopw [24] (fun i wr => ∃ k : Nat, k ≤ m ∧ i = .int .i64 k ∧ wr.ownsMap Try.prog 3 (plainElem Try.prog 3) w.heap.size k (Pm fs k) ∧ Below w.heap.size w wr ∧ w.heap.size + 1 ≤ wr.heap.size)
    (fun i _ => m - (intOf i).toNat)
  case atStart => exact ⟨0, Nat.zero_le _, rfl, World.ownsMap_made _ _ _ _, (Below.refl _ _).alloc (Nat.le_refl _) _, by simp⟩
  case round =>
    obtain ⟨k, hk, rfl, hown, hnx, hsz⟩ := hrel
    by_cases hlt : k < m
    · obtain ⟨c0, c1, c2, c3, c4⟩ := col_cells (rf.of_block (hnx.block _ rf.lt)) hlt
      have hkey : keyOf Try.prog 3 (.int .i64 (fs.getD k 0)) = some (.int .i64 (fs.getD k 0)) := keyOf_int_mk Try.underlying3 (wf_at hwf k)
      go_wp2_with (at_mapUpdate; refine wpList_mapUpdate_own _ rfl _ _ _ 54 rfl 3 3 law3 Try.underlying54 _ w.heap.size k _ rfl (hown.alloc _) (by unfold maxLen; omega) _ _ _ rfl rfl hkey _ [] (plainElem_int Try.underlying3 (WalkArith.wf_i64 (by omega))) ?_; intro w1 hown1 hgrow1)
      have hg : w.heap.size ≤ (wr.alloc (.cells #[.string ByteArray.empty, .int .i64 0, .int .i64 0, .bool false, .int .i64 (fs[k]?.getD 0)] 53)).heap.size := by simp; omega
      have hb1 := (hnx.alloc (by omega) (.cells #[.string ByteArray.empty, .int .i64 0, .int .i64 0, .bool false, .int .i64 (fs[k]?.getD 0)] 53)).grown hgrow1 hg (fun j hj => by cases hj; exact Nat.le_refl _)
      have hs1 := hgrow1.size
      go_roundw
      case rel => exact ⟨k + 1, by omega, by go_num, hown1, hb1, by simp at hs1; omega⟩
      case measure => simp [intOf]; omega
    · have : k = m := by omega
      subst this
      clear hk hlt hmm
      obtain ⟨w2, hw2⟩ : ∃ x, x = wr := ⟨_, rfl⟩
      subst hw2
      have ct' : w2.cell? ⟨pt, 2, none⟩ = some (.slice (some ⟨Bt, 0, none⟩) n n) := (hnx.cell (by exact hpt)).trans ct
      have hmk := run_make_row' (P := Try.prog) 33 3 (.int .i64 0) 8 Try.underlying33 Try.info3 rfl .i64 .i64 n (by omega) (by omega)
      have hrow := World.rowIs_made w2 (.int .i64 0) n 3
      have hown0 := hown.alloc (.cells (madeCells #[.int .i64 0] n) 3)
      have hbel0 := hnx.alloc (by omega) (.cells (madeCells #[.int .i64 0] n) 3)
      have rt0 := (rt.of_block (hnx.block _ rt.lt)).alloc (.cells (madeCells #[.int .i64 0] n) 3)
      have ct2 : (w2.alloc (.cells (madeCells #[.int .i64 0] n) 3)).cell? ⟨pt, 2, none⟩ = some (.slice (some ⟨Bt, 0, none⟩) n n) := (hbel0.cell (by exact hpt)).trans ct
      clear hown hnx
      go_wp2

      go_loopw [45] (fun i wx => ∃ j : Nat, j ≤ n ∧ i = .int .i64 j ∧ wx.ownsMap Try.prog 3 (plainElem Try.prog 3) w.heap.size k (Pm fs k) ∧
          wx.rowIs w2.heap.size 3 n (convCell fs ts k j) ∧ Below w.heap.size w wx ∧ w2.heap.size + 1 ≤ wx.heap.size)
        (fun i _ => n - (intOf i).toNat)
      case atStart => exact ⟨0, Nat.zero_le _, rfl, hown0, hrow.congr (fun i _ => by simp [convCell]), hbel0, by simp⟩
      case round =>
        obtain ⟨j, hj, rfl, hown, hrw, hnx, hsz2⟩ := hrel
        clear hmk hrow hown0 hbel0 rt0 
        by_cases hlt : j < n
        · obtain ⟨c0, c1, c2, c3, c4⟩ := col_cells (rt.of_block (hnx.block _ rt.lt)) hlt
          have hkey : keyOf Try.prog 3 (.int .i64 (ts[j]?.getD 0)) = some (.int .i64 (ts[j]?.getD 0)) := keyOf_int_mk Try.underlying3 (by have := wf_at hwt j; rwa [List.getD_eq_getElem?_getD] at this)
          have cc := hrw.cell hlt
          have cfz := hrw.frozen j
          have hl2 : w2.heap.size < wr.heap.size := by omega
          have hl3 : ¬ wr.heap.size = w2.heap.size := by omega
          have hne : w.heap.size ≠ w2.heap.size := by omega
          have hLo := lastIdx_lo fs (ts[j]?.getD 0) k
          by_cases hP : 0 ≤ lastIdx fs k (ts[j]?.getD 0)
          · have hH : Maps.has (Pm fs k) (.int .i64 (ts[j]?.getD 0)) = true := by rw [Pm_has]; simpa using hP
            have HA : Hid ((Pm fs k).atKey (.int .i64 (ts[j]?.getD 0)) (.lit (.int .i64 0)) = .lit (.int .i64 (lastIdx fs k (ts[j]?.getD 0)))) := Pm_at fs _ _ k hP
            go_wp2_with (at_lookup; refine wpList_lookup_own_ok_int _ rfl _ _ 54 rfl 3 3 .i64 law3 Try.underlying54 Try.underlying3 (zero3 _) w.heap.size k _ rfl ((hown.setCell hne _).alloc _) _ _ rfl hkey ?_; intro c hat hwc)
            have hcv : c = lastIdx fs k (ts[j]?.getD 0) := by have h2 := HA.out; rw [hat] at h2; injection h2 with h2; injection h2
            subst hcv
            go_roundw
            case rel => exact ⟨j + 1, by omega, by go_num, ((hown.setCell hne _).setCell hne _).alloc _, (conv_put (hrw.set j _)).alloc _, ((hnx.setCell (by simp; omega) _).setCell (by simp; omega) _).alloc (by simp; omega) _, by simp; omega⟩
            case measure => simp [intOf]; omega
          · have hH : Maps.has (Pm fs k) (.int .i64 (ts[j]?.getD 0)) = false := by rw [Pm_has]; simpa using hP
            have hcv : lastIdx fs k (ts[j]?.getD 0) = -1 := by omega
            have HC : Hid (lastIdx fs k (ts[j]?.getD 0) = -1) := hcv
            clear hcv
            go_wp2_with (at_lookup; refine wpList_lookup_own_ok_int _ rfl _ _ 54 rfl 3 3 .i64 law3 Try.underlying54 Try.underlying3 (zero3 _) w.heap.size k _ rfl ((hown.setCell hne _).alloc _) _ _ rfl hkey ?_; intro c hat hwc)
            go_roundw
            case rel => exact ⟨j + 1, by omega, by go_num, (hown.setCell hne _).alloc _, (conv_miss HC.out hrw).alloc _, (hnx.setCell (by simp; omega) _).alloc (by simp; omega) _, by simp; omega⟩
            case measure => simp [intOf]; omega
        · have : j = n := by omega
          subst this
          go_wp2
          go_ret
          exact ⟨_, rfl, by omega, hrw.congr (fun i hi => by simp [convCell, hi]), hnx⟩
end Go.Proofs.Qxb6600092a
