import Derived.Test.Qxb6600092aDdlText
import Derived.Test.Qxb6600092aBuild
import Derived.Test.Qxb6600092aClone
import Derived.Deep.RegionHeld3
namespace Go.Proofs.Qxb6600092a
open Go.RowKit
set_option linter.unusedVariables false

def keyL (nm : Nat → ByteArray) (ci : Nat → Int) (ds : Nat → Bool) (k : Nat) : List (List UInt8 × Bool) := (List.range k).map fun j => ((nm (ci j).toNat).data.toList, ds j)

theorem keyL_succ (nm : Nat → ByteArray) (ci : Nat → Int) (ds : Nat → Bool) (k : Nat) : keyL nm ci ds (k + 1) = keyL nm ci ds k ++ [((nm (ci k).toNat).data.toList, ds k)] := by
  simp [keyL, List.range_succ]
theorem keyL_len (nm : Nat → ByteArray) (ci : Nat → Int) (ds : Nat → Bool) (k : Nat) : (keyL nm ci ds k).length = k := by simp [keyL]
theorem keyL_nil (nm : Nat → ByteArray) (ci : Nat → Int) (ds : Nat → Bool) (k : Nat) : keyL nm ci ds k = [] ↔ k = 0 := by
  rw [← List.length_eq_zero_iff, keyL_len]

/-- The text behind k + 1 items. -/
theorem keyL_text (nm : Nat → ByteArray) (ci : Nat → Int) (ds : Nat → Bool) (k : Nat) :
    items (keyL nm ci ds (k + 1)) = items (keyL nm ci ds k) ++ ((if k = 0 then [] else sepL) ++ ((nm (ci k).toNat).data.toList ++ (if ds k then descL else []))) := by
  rw [keyL_succ, items_snoc]
  by_cases h : k = 0
  · subst h; simp [keyL, item]
  · rw [if_neg h, if_neg (by rw [keyL_nil]; exact h)]; simp [item]

theorem keyL_bound {nm : Nat → ByteArray} {ci : Nat → Int} {ds : Nat → Bool} {m : Nat} (hb : ∀ i, i < m → (nm i).size ≤ 1048576) : ∀ k, (∀ j, j < k → 0 ≤ ci j ∧ ci j < m) → (items (keyL nm ci ds k)).length ≤ k * 1048600
  | 0, _ => by simp [keyL, items]
  | k + 1, h => by
    have ih := keyL_bound (ds := ds) hb k (fun j hj => h j (by omega))
    have hk := h k (by omega)
    have hs := hb (ci k).toNat (by omega)
    rw [keyL_text]
    have e1 : ((if k = 0 then [] else sepL) : List UInt8).length ≤ 2 := by split <;> simp [sepL]
    have e2 : ((if ds k then descL else []) : List UInt8).length ≤ 5 := by split <;> simp [descL]
    simp only [List.length_append, size_toList]
    omega

/-- THE BUILDER OF THE CALL: a block of its own, the first new one, holding the bytes l; nothing old has turned. -/
def BD (w0 w : World) (l : List UInt8) : Prop := Lib.BuilderAt 62 5 w0.heap.size w0.heap.size (.pointer (some ⟨w0.heap.size, 0, none⟩)) (Lib.byteCells l) w ∧ Below w0.heap.size w0 w

theorem ws_step {w0 w : World} {l : List UInt8} {s : ByteArray} (h : BD w0 w l) (hl : l.length + s.size ≤ 1099511627776) :
    Calls Try.prog 26 #[.pointer (some ⟨w0.heap.size, 0, none⟩), .string s] w fun e w' => e = .returned (.tuple #[.int .i64 s.size, .nilIface]) ∧ BD w0 w' (l ++ s.data.toList) := by
  refine (ws_any w0.heap.size w0.heap.size (Lib.byteCells l) s w (.inr h.1) (by rw [Lib.byteCells_length]; omega) h.2.size).mono ?_
  rintro e w' ⟨rfl, h1, h2⟩
  refine ⟨rfl, ?_, h.2.trans h2⟩
  rw [Lib.byteCells_append]
  exact h1

theorem ws_first (w0 : World) (s : ByteArray) (hl : s.size ≤ 1099511627776) :
    Calls Try.prog 26 #[.pointer (some ⟨w0.heap.size, 0, none⟩), .string s] (w0.alloc (.cells #[.pointer none, .slice none 0 0] 62)) fun e w' => e = .returned (.tuple #[.int .i64 s.size, .nilIface]) ∧ BD w0 w' s.data.toList := by
  refine (ws_any w0.heap.size w0.heap.size [] s _ (Lib.fresh_isBuilder 62 5 w0) (by simp; omega) (by simp)).mono ?_
  rintro e w' ⟨rfl, h1, h2⟩
  exact ⟨rfl, h1, ((Below.refl _ _).alloc (Nat.le_refl _) _).trans h2⟩

theorem BD.idx {w0 w : World} {l : List UInt8} (h : BD w0 w l) {p q T m : Nat} {n t : ByteArray} {u : Bool} {v4 v5 v6 : Value} {nm : Nat → ByteArray} (I : Idx w0 p q T m n t u v4 v5 v6 nm) : Idx w p q T m n t u v4 v5 v6 nm := by
  have g : ∀ b o, b < w0.heap.size → w.cell? ⟨b, o, none⟩ = w0.cell? ⟨b, o, none⟩ := fun b o hb => h.2.cell (by exact hb)
  have z := h.2.size
  exact ⟨Nat.lt_of_lt_of_le I.ltp z, Nat.lt_of_lt_of_le I.ltq z, Nat.lt_of_lt_of_le I.ltT z, (g _ _ I.ltp).trans I.p0, (g _ _ I.ltp).trans I.p1, (g _ _ I.ltp).trans I.p2, (g _ _ I.ltp).trans I.p3, (g _ _ I.ltp).trans I.p4, (g _ _ I.ltp).trans I.p5,
    (g _ _ I.ltq).trans I.q0, (g _ _ I.ltq).trans I.q2, fun i hi => (g _ _ I.ltT).trans (I.nam i hi)⟩

theorem head_cat (n t : ByteArray) (bn : n.size ≤ 1048576) (bt : t.size ≤ 1048576) :
    (9223372036854775807 < 6 + n.size) = False ∧ (9223372036854775807 < 6 + n.size + 4) = False ∧ (9223372036854775807 < 6 + n.size + 4 + t.size) = False ∧ (9223372036854775807 < 6 + n.size + 4 + t.size + 2) = False := by
  refine ⟨?_, ?_, ?_, ?_⟩ <;> (apply eq_false; omega)

theorem ret_str {a b : List UInt8} (h : a = b) : Ending.returned (.string ⟨a.toArray⟩) = .returned (.string ⟨b.toArray⟩) := by rw [h]

theorem BD.cast {w0 w : World} {l l' : List UInt8} (h : BD w0 w l) (e : l = l') : BD w0 w l' := e ▸ h
theorem BD.same {w0 w : World} {l : List UInt8} (h : BD w0 w l) : BD w0 w.drew l := ⟨h.1, h.2.drew⟩

theorem text_step {l3 : List UInt8} {nm : Nat → ByteArray} {ci : Nat → Int} {ds : Nat → Bool} {k x : Nat} (hx : ci k = (x : Int)) (sep desc : List UInt8) (hs : sep = if k = 0 then [] else sepL) (hd : desc = if ds k then descL else []) :
    l3 ++ items (keyL nm ci ds k) ++ sep ++ (nm x).data.toList ++ desc = l3 ++ items (keyL nm ci ds (k + 1)) := by
  rw [keyL_text, hx, Int.toNat_natCast, hs, hd]
  simp

theorem head_text (u : Bool) (n t : ByteArray) (l2 : List UInt8) (h : l2 = createL ++ (if u then uniqueL else [])) :
    l2 ++ ((⟨#[73, 78, 68, 69, 88, 32]⟩ : ByteArray) ++ n ++ ⟨#[32, 79, 78, 32]⟩ ++ t ++ ⟨#[32, 40]⟩).data.toList = headS u n.data.toList t.data.toList := by
  subst h
  simp [headS, indexL, onL, openL, ByteArray.data_append]

set_option maxRecDepth 100000 in
set_option maxHeartbeats 2000000 in
theorem ddl_any (p q T m : Nat) (n t : ByteArray) (u : Bool) (a4 : Option Addr) (l4 c4 : Nat) (a5 : Option Addr) (l5 c5 : Nat) (a6 : Option Addr) (l6 c6 : Nat) (nm : Nat → ByteArray) (ci : Nat → Int) (ds : Nat → Bool) (si : Nat → Int) (w : World)
    (I : Idx w p q T m n t u (.slice a4 l4 c4) (.slice a5 l5 c5) (.slice a6 l6 c6) nm) (h4 : InF w a4 l4 (fun j => .int .i64 (ci j))) (h5 : InF w a5 l5 (fun j => .bool (ds j))) (h6 : InF w a6 l6 (fun j => .int .i64 (si j)))
    (hd : l4 ≤ l5) (r4 : ∀ j, j < l4 → 0 ≤ ci j ∧ ci j < m) (r6 : ∀ j, j < l6 → 0 ≤ si j ∧ si j < m) (bn : n.size ≤ 1048576) (bt : t.size ≤ 1048576) (bm : ∀ i, i < m → (nm i).size ≤ 1048576) (m4 : l4 ≤ 65536) (m6 : l6 ≤ 65536) (mm : m ≤ 65536) :
    Calls Try.prog 21 #[.pointer (some ⟨p, 0, none⟩)] w fun e w' => e = .returned (.string ⟨(ddl u n.data.toList t.data.toList (keyL nm ci ds l4) (keyL nm si (fun _ => false) l6)).toArray⟩) ∧ Below w.heap.size w w' := by
  have k4 := fun k (hk : k ≤ l4) => keyL_bound (ds := ds) bm k (fun j hj => r4 j (by omega))
  have k6 := fun k (hk : k ≤ l6) => keyL_bound (ds := fun _ => false) bm k (fun j hj => r6 j (by omega))
  obtain ⟨sc1, sc2, sc3, sc4⟩ := head_cat n t bn bt
  cases u with
  | true =>
    go_enter Try.func21, Try.ntmps21
    go_wp2_with fail
    refine (ws_first w ⟨#[67, 82, 69, 65, 84, 69, 32]⟩ (by decide)).mono ?_
    rintro e w1 ⟨rfl, d1⟩
    have x2 := (d1.idx I).p2
    go_wp2_with fail
    refine (ws_step (s := ⟨#[85, 78, 73, 81, 85, 69, 32]⟩) d1 (by decide)).mono ?_
    rintro e w2 ⟨rfl, d2⟩
    obtain ⟨l2, hl2⟩ : ∃ l2, l2 = createL ++ uniqueL := ⟨_, rfl⟩
    have HL2 : Hid (l2 = createL ++ uniqueL) := hl2
    replace d2 : BD w w2 l2 := d2.cast (by rw [hl2]; rfl)
    have z2 : l2.length ≤ 14 := by rw [hl2]; decide
    clear hl2 d1 x2
    have J2 := d2.idx I
    have y0 := J2.p0
    have y1 := J2.p1
    have y2 := J2.q0
    clear J2
    go_wp2_with fail
    go_region_held3 (fun w' => w'.cell? ⟨p, 0, none⟩ = some (.string n) ∧ w'.cell? ⟨p, 1, none⟩ = some (.pointer (some ⟨q, 0, none⟩)) ∧ w'.cell? ⟨q, 0, none⟩ = some (.string t)) (go_keep) ((go_at_call 26; refine (ws_step (w0 := w) (l := l2) (by exact d2.same) (by simp only [ByteArray.size_append']; simp [ByteArray.size_mk']; omega)).mono ?_; rintro e w3 ⟨rfl, d3⟩; have g0 := (d3.idx I).p0; have g1 := (d3.idx I).p1; have g2 := (d3.idx I).q0))
    obtain ⟨l3, hl3⟩ : ∃ l3, l3 = headS true n.data.toList t.data.toList := ⟨_, rfl⟩
    have z3 : l3.length ≤ 4194304 := by rw [hl3, ← head_text true n t l2 (by rw [HL2.out]; rfl)]; simp only [List.length_append, ByteArray.data_append, Array.toList_append, size_toList]; simp; omega
    replace d3 : BD w w3 l3 := d3.cast (by rw [hl3]; exact head_text true n t l2 (by rw [HL2.out]; rfl))
    have HL3 : Hid (l3 = headS true n.data.toList t.data.toList) := hl3
    clear hl3 HL2 sc1 sc2 sc3 sc4 y0 y1 y2 d2 z2 g0 g1 g2
    have y3 := (d3.idx I).p3
    go_wp2_with fail
    go_loopw [35] (fun i wr => ∃ k : Nat, k ≤ l4 ∧ i = .int .i64 k ∧ BD w wr (l3 ++ items (keyL nm ci ds k))) (fun i _ => l4 - (intOf i).toNat)
    case atStart => exact ⟨0, Nat.zero_le _, rfl, d3.cast (by simp [keyL, items])⟩
    case round =>
      obtain ⟨k, hk, rfl, d0⟩ := hrel
      have zk := k4 k hk
      clear d3 y3
      by_cases hlt : k < l4
      · obtain ⟨b4, o4, rfl, hb4, hc4⟩ := h4.resolve_left (by omega)
        obtain ⟨b5, o5, rfl, hb5, hc5⟩ := h5.resolve_left (by omega)
        have hr := r4 k hlt
        obtain ⟨x, hx⟩ := Int.eq_ofNat_of_zero_le hr.1
        have hxm : x < m := by omega
        have bx := bm x hxm
        have x4 : wr.cell? ⟨b4, o4 + k, none⟩ = some (.int .i64 (x : Int)) := by rw [← hx]; exact (d0.2.cell (by exact hb4)).trans (hc4 k hlt)
        have HX : Hid (ci k = (x : Int)) := hx
        have l5k : k < l5 := by omega
        clear hx hr
        by_cases hk0 : 0 < k
        · by_cases hds : ds k = true
          · go_wp2_with fail
            refine (ws_step (s := ⟨#[44, 32]⟩) d0 (by simp only [List.length_append]; simp [ByteArray.size_mk']; omega)).mono ?_
            rintro e v1 ⟨rfl, d0⟩
            have y1 := (d0.idx I).p1
            have y2 := (d0.idx I).q2
            have y3 := (d0.idx I).nam x hxm
            go_wp2_with fail
            refine (ws_step (s := nm x) d0 (by simp only [List.length_append]; simp; omega)).mono ?_
            rintro e v2 ⟨rfl, d0⟩
            clear y1 y2 y3
            have y4 := (d0.idx I).p4
            have y5 : v2.cell? ⟨b5, o5 + k, none⟩ = some (.bool (ds k)) := (d0.2.cell (by exact hb5)).trans (hc5 k (by omega))
            rw [hds] at y5
            go_wp2_with fail
            refine (ws_step (s := ⟨#[32, 68, 69, 83, 67]⟩) d0 (by simp only [List.length_append]; simp [ByteArray.size_mk']; omega)).mono ?_
            rintro e v3 ⟨rfl, d0⟩
            go_wp2
            go_roundw
            case rel => exact ⟨k + 1, by omega, by go_num, d0.cast (by rw [← text_step (ci := ci) (ds := ds) HX.out sepL descL (by rw [if_neg (by omega)]) (by simp [hds])]; simp [sepL, descL])⟩
            case measure => simp [intOf]; omega
          · replace hds : ds k = false := by simpa using hds
            go_wp2_with fail
            refine (ws_step (s := ⟨#[44, 32]⟩) d0 (by simp only [List.length_append]; simp [ByteArray.size_mk']; omega)).mono ?_
            rintro e v1 ⟨rfl, d0⟩
            have y1 := (d0.idx I).p1
            have y2 := (d0.idx I).q2
            have y3 := (d0.idx I).nam x hxm
            go_wp2_with fail
            refine (ws_step (s := nm x) d0 (by simp only [List.length_append]; simp; omega)).mono ?_
            rintro e v2 ⟨rfl, d0⟩
            clear y1 y2 y3
            have y4 := (d0.idx I).p4
            have y5 : v2.cell? ⟨b5, o5 + k, none⟩ = some (.bool (ds k)) := (d0.2.cell (by exact hb5)).trans (hc5 k (by omega))
            rw [hds] at y5
            go_wp2
            go_roundw
            case rel => exact ⟨k + 1, by omega, by go_num, d0.cast (by rw [← text_step (ci := ci) (ds := ds) HX.out sepL [] (by rw [if_neg (by omega)]) (by simp [hds])]; simp [sepL])⟩
            case measure => simp [intOf]; omega
        · by_cases hds : ds k = true
          · have y1 := (d0.idx I).p1
            have y2 := (d0.idx I).q2
            have y3 := (d0.idx I).nam x hxm
            go_wp2_with fail
            refine (ws_step (s := nm x) d0 (by simp only [List.length_append]; omega)).mono ?_
            rintro e v2 ⟨rfl, d0⟩
            clear y1 y2 y3
            have y4 := (d0.idx I).p4
            have y5 : v2.cell? ⟨b5, o5 + k, none⟩ = some (.bool (ds k)) := (d0.2.cell (by exact hb5)).trans (hc5 k (by omega))
            rw [hds] at y5
            go_wp2_with fail
            refine (ws_step (s := ⟨#[32, 68, 69, 83, 67]⟩) d0 (by simp only [List.length_append]; simp [ByteArray.size_mk']; omega)).mono ?_
            rintro e v3 ⟨rfl, d0⟩
            go_wp2
            go_roundw
            case rel => exact ⟨k + 1, by omega, by go_num, d0.cast (by rw [← text_step (ci := ci) (ds := ds) HX.out [] descL (by rw [if_pos (by omega)]) (by simp [hds])]; simp [descL])⟩
            case measure => simp [intOf]; omega
          · replace hds : ds k = false := by simpa using hds
            have y1 := (d0.idx I).p1
            have y2 := (d0.idx I).q2
            have y3 := (d0.idx I).nam x hxm
            go_wp2_with fail
            refine (ws_step (s := nm x) d0 (by simp only [List.length_append]; omega)).mono ?_
            rintro e v2 ⟨rfl, d0⟩
            clear y1 y2 y3
            have y4 := (d0.idx I).p4
            have y5 : v2.cell? ⟨b5, o5 + k, none⟩ = some (.bool (ds k)) := (d0.2.cell (by exact hb5)).trans (hc5 k (by omega))
            rw [hds] at y5
            go_wp2
            go_roundw
            case rel => exact ⟨k + 1, by omega, by go_num, d0.cast (by rw [← text_step (ci := ci) (ds := ds) HX.out [] [] (by rw [if_pos (by omega)]) (by simp [hds])]; simp)⟩
            case measure => simp [intOf]; omega
      · have : k = l4 := by omega
        subst this
        go_wp2_with fail
        refine (ws_step (s := ⟨#[41]⟩) d0 (by simp only [List.length_append]; simp [ByteArray.size_mk']; omega)).mono ?_
        rintro e w5 ⟨rfl, d5⟩
        have y5 := (d5.idx I).p5
        by_cases hS : l6 = 0
        · subst hS
          go_wp2_with fail
          refine (str_any w.heap.size w.heap.size _ _ d5.1 (by simp)).mono ?_
          rintro e w6 ⟨rfl, b6⟩
          go_wp2
          go_ret
          exact ⟨ret_str (by rw [HL3.out]; simp [ddl, tailS, keyL]), d5.2.trans b6⟩
        · have hS0 : 0 < l6 := by omega
          go_wp2_with fail
          refine (ws_step (s := ⟨#[32, 83, 84, 79, 82, 73, 78, 71, 32, 40]⟩) d5 (by simp only [List.length_append]; simp [ByteArray.size_mk']; omega)).mono ?_
          rintro e w6 ⟨rfl, d6⟩
          obtain ⟨m3, hm3⟩ : ∃ m3, m3 = l3 ++ items (keyL nm ci ds k) ++ [41] ++ storingL := ⟨_, rfl⟩
          replace d6 : BD w w6 m3 := d6.cast (by rw [hm3]; simp [storingL])
          have zm : m3.length ≤ 100000000000 := by rw [hm3]; simp only [List.length_append]; simp [storingL]; omega
          have HM3 : Hid (m3 = l3 ++ items (keyL nm ci ds k) ++ [41] ++ storingL) := hm3
          clear hm3 d5 d0 y5 zk
          have y5 := (d6.idx I).p5
          obtain ⟨kk, hkk⟩ : ∃ kk, kk = k := ⟨_, rfl⟩
          subst hkk
          go_wp2_with fail
          go_loopw [77] (fun i wr => ∃ j : Nat, j ≤ l6 ∧ i = .int .i64 j ∧ BD w wr (m3 ++ items (keyL nm si (fun _ => false) j))) (fun i _ => l6 - (intOf i).toNat)
          case atStart => exact ⟨0, Nat.zero_le _, rfl, d6.cast (by simp [keyL, items])⟩
          case round =>
            obtain ⟨k, hk, rfl, d0⟩ := hrel
            have zk := k6 k hk
            clear d6 y5
            by_cases hlt : k < l6
            · obtain ⟨b6, o6, rfl, hb6, hc6⟩ := h6.resolve_left (by omega)
              have hr := r6 k hlt
              obtain ⟨x, hx⟩ := Int.eq_ofNat_of_zero_le hr.1
              have hxm : x < m := by omega
              have bx := bm x hxm
              have x4 : wr.cell? ⟨b6, o6 + k, none⟩ = some (.int .i64 (x : Int)) := by rw [← hx]; exact (d0.2.cell (by exact hb6)).trans (hc6 k hlt)
              have HX : Hid (si k = (x : Int)) := hx
              clear hx hr
              by_cases hk0 : 0 < k
              · go_wp2_with fail
                refine (ws_step (s := ⟨#[44, 32]⟩) d0 (by simp only [List.length_append]; simp [ByteArray.size_mk']; omega)).mono ?_
                rintro e v1 ⟨rfl, d0⟩
                have y1 := (d0.idx I).p1
                have y2 := (d0.idx I).q2
                have y3 := (d0.idx I).nam x hxm
                go_wp2_with fail
                refine (ws_step (s := nm x) d0 (by simp only [List.length_append]; simp; omega)).mono ?_
                rintro e v2 ⟨rfl, d0⟩
                go_wp2
                go_roundw
                case rel => exact ⟨k + 1, by omega, by go_num, d0.cast (by rw [← text_step (ci := si) (ds := (fun _ => false)) HX.out sepL [] (by rw [if_neg (by omega)]) (by simp)]; simp [sepL])⟩
                case measure => simp [intOf]; omega
              · have y1 := (d0.idx I).p1
                have y2 := (d0.idx I).q2
                have y3 := (d0.idx I).nam x hxm
                go_wp2_with fail
                refine (ws_step (s := nm x) d0 (by simp only [List.length_append]; omega)).mono ?_
                rintro e v2 ⟨rfl, d0⟩
                go_wp2
                go_roundw
                case rel => exact ⟨k + 1, by omega, by go_num, d0.cast (by rw [← text_step (ci := si) (ds := (fun _ => false)) HX.out [] [] (by rw [if_pos (by omega)]) (by simp)]; simp)⟩
                case measure => simp [intOf]; omega
            · have : k = l6 := by omega
              subst this
              go_wp2_with fail
              refine (ws_step (s := ⟨#[41]⟩) d0 (by simp only [List.length_append]; simp [ByteArray.size_mk']; omega)).mono ?_
              rintro e w7 ⟨rfl, d7⟩
              go_wp2_with fail
              refine (str_any w.heap.size w.heap.size _ _ d7.1 (by simp)).mono ?_
              rintro e w8 ⟨rfl, b8⟩
              go_wp2
              go_ret
              exact ⟨ret_str (by rw [HM3.out, HL3.out]; rw [ddl, tailS, if_neg (by rw [keyL_nil]; exact hS)]; simp), d7.2.trans b8⟩
  | false =>
    go_enter Try.func21, Try.ntmps21
    go_wp2_with fail
    refine (ws_first w ⟨#[67, 82, 69, 65, 84, 69, 32]⟩ (by decide)).mono ?_
    rintro e w1 ⟨rfl, d1⟩
    have x2 := (d1.idx I).p2
    obtain ⟨l2, hl2⟩ : ∃ l2, l2 = createL ++ [] := ⟨_, rfl⟩
    have HL2 : Hid (l2 = createL ++ []) := hl2
    have d2 : BD w w1 l2 := d1.cast (by rw [hl2]; rfl)
    have z2 : l2.length ≤ 14 := by rw [hl2]; decide
    clear hl2 d1
    have J2 := d2.idx I
    have y0 := J2.p0
    have y1 := J2.p1
    have y2 := J2.q0
    clear J2
    go_wp2_with fail
    go_region_held3 (fun w' => w'.cell? ⟨p, 0, none⟩ = some (.string n) ∧ w'.cell? ⟨p, 1, none⟩ = some (.pointer (some ⟨q, 0, none⟩)) ∧ w'.cell? ⟨q, 0, none⟩ = some (.string t)) (go_keep) ((go_at_call 26; refine (ws_step (w0 := w) (l := l2) (by exact d2.same) (by simp only [ByteArray.size_append']; simp [ByteArray.size_mk']; omega)).mono ?_; rintro e w3 ⟨rfl, d3⟩; have g0 := (d3.idx I).p0; have g1 := (d3.idx I).p1; have g2 := (d3.idx I).q0))
    obtain ⟨l3, hl3⟩ : ∃ l3, l3 = headS false n.data.toList t.data.toList := ⟨_, rfl⟩
    have z3 : l3.length ≤ 4194304 := by rw [hl3, ← head_text false n t l2 (by rw [HL2.out]; rfl)]; simp only [List.length_append, ByteArray.data_append, Array.toList_append, size_toList]; simp; omega
    replace d3 : BD w w3 l3 := d3.cast (by rw [hl3]; exact head_text false n t l2 (by rw [HL2.out]; rfl))
    have HL3 : Hid (l3 = headS false n.data.toList t.data.toList) := hl3
    clear hl3 HL2 sc1 sc2 sc3 sc4 y0 y1 y2 d2 z2 g0 g1 g2
    have y3 := (d3.idx I).p3
    go_wp2_with fail
    go_loopw [35] (fun i wr => ∃ k : Nat, k ≤ l4 ∧ i = .int .i64 k ∧ BD w wr (l3 ++ items (keyL nm ci ds k))) (fun i _ => l4 - (intOf i).toNat)
    case atStart => exact ⟨0, Nat.zero_le _, rfl, d3.cast (by simp [keyL, items])⟩
    case round =>
      obtain ⟨k, hk, rfl, d0⟩ := hrel
      have zk := k4 k hk
      clear d3 y3
      by_cases hlt : k < l4
      · obtain ⟨b4, o4, rfl, hb4, hc4⟩ := h4.resolve_left (by omega)
        obtain ⟨b5, o5, rfl, hb5, hc5⟩ := h5.resolve_left (by omega)
        have hr := r4 k hlt
        obtain ⟨x, hx⟩ := Int.eq_ofNat_of_zero_le hr.1
        have hxm : x < m := by omega
        have bx := bm x hxm
        have x4 : wr.cell? ⟨b4, o4 + k, none⟩ = some (.int .i64 (x : Int)) := by rw [← hx]; exact (d0.2.cell (by exact hb4)).trans (hc4 k hlt)
        have HX : Hid (ci k = (x : Int)) := hx
        have l5k : k < l5 := by omega
        clear hx hr
        by_cases hk0 : 0 < k
        · by_cases hds : ds k = true
          · go_wp2_with fail
            refine (ws_step (s := ⟨#[44, 32]⟩) d0 (by simp only [List.length_append]; simp [ByteArray.size_mk']; omega)).mono ?_
            rintro e v1 ⟨rfl, d0⟩
            have y1 := (d0.idx I).p1
            have y2 := (d0.idx I).q2
            have y3 := (d0.idx I).nam x hxm
            go_wp2_with fail
            refine (ws_step (s := nm x) d0 (by simp only [List.length_append]; simp; omega)).mono ?_
            rintro e v2 ⟨rfl, d0⟩
            clear y1 y2 y3
            have y4 := (d0.idx I).p4
            have y5 : v2.cell? ⟨b5, o5 + k, none⟩ = some (.bool (ds k)) := (d0.2.cell (by exact hb5)).trans (hc5 k (by omega))
            rw [hds] at y5
            go_wp2_with fail
            refine (ws_step (s := ⟨#[32, 68, 69, 83, 67]⟩) d0 (by simp only [List.length_append]; simp [ByteArray.size_mk']; omega)).mono ?_
            rintro e v3 ⟨rfl, d0⟩
            go_wp2
            go_roundw
            case rel => exact ⟨k + 1, by omega, by go_num, d0.cast (by rw [← text_step (ci := ci) (ds := ds) HX.out sepL descL (by rw [if_neg (by omega)]) (by simp [hds])]; simp [sepL, descL])⟩
            case measure => simp [intOf]; omega
          · replace hds : ds k = false := by simpa using hds
            go_wp2_with fail
            refine (ws_step (s := ⟨#[44, 32]⟩) d0 (by simp only [List.length_append]; simp [ByteArray.size_mk']; omega)).mono ?_
            rintro e v1 ⟨rfl, d0⟩
            have y1 := (d0.idx I).p1
            have y2 := (d0.idx I).q2
            have y3 := (d0.idx I).nam x hxm
            go_wp2_with fail
            refine (ws_step (s := nm x) d0 (by simp only [List.length_append]; simp; omega)).mono ?_
            rintro e v2 ⟨rfl, d0⟩
            clear y1 y2 y3
            have y4 := (d0.idx I).p4
            have y5 : v2.cell? ⟨b5, o5 + k, none⟩ = some (.bool (ds k)) := (d0.2.cell (by exact hb5)).trans (hc5 k (by omega))
            rw [hds] at y5
            go_wp2
            go_roundw
            case rel => exact ⟨k + 1, by omega, by go_num, d0.cast (by rw [← text_step (ci := ci) (ds := ds) HX.out sepL [] (by rw [if_neg (by omega)]) (by simp [hds])]; simp [sepL])⟩
            case measure => simp [intOf]; omega
        · by_cases hds : ds k = true
          · have y1 := (d0.idx I).p1
            have y2 := (d0.idx I).q2
            have y3 := (d0.idx I).nam x hxm
            go_wp2_with fail
            refine (ws_step (s := nm x) d0 (by simp only [List.length_append]; omega)).mono ?_
            rintro e v2 ⟨rfl, d0⟩
            clear y1 y2 y3
            have y4 := (d0.idx I).p4
            have y5 : v2.cell? ⟨b5, o5 + k, none⟩ = some (.bool (ds k)) := (d0.2.cell (by exact hb5)).trans (hc5 k (by omega))
            rw [hds] at y5
            go_wp2_with fail
            refine (ws_step (s := ⟨#[32, 68, 69, 83, 67]⟩) d0 (by simp only [List.length_append]; simp [ByteArray.size_mk']; omega)).mono ?_
            rintro e v3 ⟨rfl, d0⟩
            go_wp2
            go_roundw
            case rel => exact ⟨k + 1, by omega, by go_num, d0.cast (by rw [← text_step (ci := ci) (ds := ds) HX.out [] descL (by rw [if_pos (by omega)]) (by simp [hds])]; simp [descL])⟩
            case measure => simp [intOf]; omega
          · replace hds : ds k = false := by simpa using hds
            have y1 := (d0.idx I).p1
            have y2 := (d0.idx I).q2
            have y3 := (d0.idx I).nam x hxm
            go_wp2_with fail
            refine (ws_step (s := nm x) d0 (by simp only [List.length_append]; omega)).mono ?_
            rintro e v2 ⟨rfl, d0⟩
            clear y1 y2 y3
            have y4 := (d0.idx I).p4
            have y5 : v2.cell? ⟨b5, o5 + k, none⟩ = some (.bool (ds k)) := (d0.2.cell (by exact hb5)).trans (hc5 k (by omega))
            rw [hds] at y5
            go_wp2
            go_roundw
            case rel => exact ⟨k + 1, by omega, by go_num, d0.cast (by rw [← text_step (ci := ci) (ds := ds) HX.out [] [] (by rw [if_pos (by omega)]) (by simp [hds])]; simp)⟩
            case measure => simp [intOf]; omega
      · have : k = l4 := by omega
        subst this
        go_wp2_with fail
        refine (ws_step (s := ⟨#[41]⟩) d0 (by simp only [List.length_append]; simp [ByteArray.size_mk']; omega)).mono ?_
        rintro e w5 ⟨rfl, d5⟩
        have y5 := (d5.idx I).p5
        by_cases hS : l6 = 0
        · subst hS
          go_wp2_with fail
          refine (str_any w.heap.size w.heap.size _ _ d5.1 (by simp)).mono ?_
          rintro e w6 ⟨rfl, b6⟩
          go_wp2
          go_ret
          exact ⟨ret_str (by rw [HL3.out]; simp [ddl, tailS, keyL]), d5.2.trans b6⟩
        · have hS0 : 0 < l6 := by omega
          go_wp2_with fail
          refine (ws_step (s := ⟨#[32, 83, 84, 79, 82, 73, 78, 71, 32, 40]⟩) d5 (by simp only [List.length_append]; simp [ByteArray.size_mk']; omega)).mono ?_
          rintro e w6 ⟨rfl, d6⟩
          obtain ⟨m3, hm3⟩ : ∃ m3, m3 = l3 ++ items (keyL nm ci ds k) ++ [41] ++ storingL := ⟨_, rfl⟩
          replace d6 : BD w w6 m3 := d6.cast (by rw [hm3]; simp [storingL])
          have zm : m3.length ≤ 100000000000 := by rw [hm3]; simp only [List.length_append]; simp [storingL]; omega
          have HM3 : Hid (m3 = l3 ++ items (keyL nm ci ds k) ++ [41] ++ storingL) := hm3
          clear hm3 d5 d0 y5 zk
          have y5 := (d6.idx I).p5
          obtain ⟨kk, hkk⟩ : ∃ kk, kk = k := ⟨_, rfl⟩
          subst hkk
          go_wp2_with fail
          go_loopw [77] (fun i wr => ∃ j : Nat, j ≤ l6 ∧ i = .int .i64 j ∧ BD w wr (m3 ++ items (keyL nm si (fun _ => false) j))) (fun i _ => l6 - (intOf i).toNat)
          case atStart => exact ⟨0, Nat.zero_le _, rfl, d6.cast (by simp [keyL, items])⟩
          case round =>
            obtain ⟨k, hk, rfl, d0⟩ := hrel
            have zk := k6 k hk
            clear d6 y5
            by_cases hlt : k < l6
            · obtain ⟨b6, o6, rfl, hb6, hc6⟩ := h6.resolve_left (by omega)
              have hr := r6 k hlt
              obtain ⟨x, hx⟩ := Int.eq_ofNat_of_zero_le hr.1
              have hxm : x < m := by omega
              have bx := bm x hxm
              have x4 : wr.cell? ⟨b6, o6 + k, none⟩ = some (.int .i64 (x : Int)) := by rw [← hx]; exact (d0.2.cell (by exact hb6)).trans (hc6 k hlt)
              have HX : Hid (si k = (x : Int)) := hx
              clear hx hr
              by_cases hk0 : 0 < k
              · go_wp2_with fail
                refine (ws_step (s := ⟨#[44, 32]⟩) d0 (by simp only [List.length_append]; simp [ByteArray.size_mk']; omega)).mono ?_
                rintro e v1 ⟨rfl, d0⟩
                have y1 := (d0.idx I).p1
                have y2 := (d0.idx I).q2
                have y3 := (d0.idx I).nam x hxm
                go_wp2_with fail
                refine (ws_step (s := nm x) d0 (by simp only [List.length_append]; simp; omega)).mono ?_
                rintro e v2 ⟨rfl, d0⟩
                go_wp2
                go_roundw
                case rel => exact ⟨k + 1, by omega, by go_num, d0.cast (by rw [← text_step (ci := si) (ds := (fun _ => false)) HX.out sepL [] (by rw [if_neg (by omega)]) (by simp)]; simp [sepL])⟩
                case measure => simp [intOf]; omega
              · have y1 := (d0.idx I).p1
                have y2 := (d0.idx I).q2
                have y3 := (d0.idx I).nam x hxm
                go_wp2_with fail
                refine (ws_step (s := nm x) d0 (by simp only [List.length_append]; omega)).mono ?_
                rintro e v2 ⟨rfl, d0⟩
                go_wp2
                go_roundw
                case rel => exact ⟨k + 1, by omega, by go_num, d0.cast (by rw [← text_step (ci := si) (ds := (fun _ => false)) HX.out [] [] (by rw [if_pos (by omega)]) (by simp)]; simp)⟩
                case measure => simp [intOf]; omega
            · have : k = l6 := by omega
              subst this
              go_wp2_with fail
              refine (ws_step (s := ⟨#[41]⟩) d0 (by simp only [List.length_append]; simp [ByteArray.size_mk']; omega)).mono ?_
              rintro e w7 ⟨rfl, d7⟩
              go_wp2_with fail
              refine (str_any w.heap.size w.heap.size _ _ d7.1 (by simp)).mono ?_
              rintro e w8 ⟨rfl, b8⟩
              go_wp2
              go_ret
              exact ⟨ret_str (by rw [HM3.out, HL3.out]; rw [ddl, tailS, if_neg (by rw [keyL_nil]; exact hS)]; simp), d7.2.trans b8⟩
end Go.Proofs.Qxb6600092a
