import Derived.Test.Qxb6600092aParse
import Derived.Maps.AppendAt
namespace Go.Proofs.Qxb6600092a
open Go.RowKit
set_option linter.unusedVariables false

def sepL : List UInt8 := [44, 32]
def descL : List UInt8 := [32, 68, 69, 83, 67]

/-- 'name' or 'name DESC' -/
def item (p : List UInt8 × Bool) : List UInt8 := p.1 ++ (if p.2 then descL else [])
/-- Items, a comma and a blank between them. -/
def items : List (List UInt8 × Bool) → List UInt8
  | [] => []
  | [p] => item p
  | p :: q :: r => item p ++ (sepL ++ items (q :: r))

theorem items_snoc (p : List UInt8 × Bool) : ∀ L : List (List UInt8 × Bool), items (L ++ [p]) = items L ++ ((if L = [] then [] else sepL) ++ item p)
  | [] => by simp [items]
  | [q] => by simp [items]
  | q :: r :: L => by
    have ih := items_snoc p (r :: L)
    simp only [List.cons_append] at ih ⊢
    rw [items, ih]
    simp [items, List.append_assoc]

theorem Try.info9 : (Try.prog.info? 9).map (fun i => (i.zero, i.size, i.bytes)) = some (some (.string ByteArray.empty), 1, 16) := by kernel_rfl
theorem Try.info4 : (Try.prog.info? 4).map (fun i => (i.zero, i.size, i.bytes)) = some (some (.bool false), 1, 1) := by kernel_rfl

def nmV (p : List UInt8 × Bool) : Value := .string ⟨p.1.toArray⟩
def flV (p : List UInt8 × Bool) : Value := .bool p.2

/-- A name as the grammar has it. -/
def NameOk (n : List UInt8) : Prop := n ≠ [] ∧ ∀ c ∈ n, idB c = true

theorem ident_end (s : ByteArray) (A n R : List UInt8) (x : UInt8) (i j : Nat) (w : World) (hs : s.size ≤ 1152921504606846976) (hd : s.data.toList = A ++ (n ++ x :: R)) (hn : ∀ c ∈ n, idB c = true) (hx : idB x = false) (hi : A.length = i) (hj : i + n.length = j) :
    Calls Try.prog 29 #[.string s, .int .i64 i] w fun e w' => e = .returned (.int .i64 (j : Int)) ∧ w' = w := by
  subst hi hj
  exact identEnd_at s A n R x w hs hd hn hx

theorem extract_name (s : ByteArray) (A n R : List UInt8) (i j : Nat) (hd : s.data.toList = A ++ (n ++ R)) (hi : A.length = i) (hj : i + n.length = j) : s.extract i j = ⟨n.toArray⟩ := by
  apply ByteArray.ext
  apply Array.toList_inj.1
  rw [ByteArray.data_extract, Array.toList_extract, hd]
  subst hi hj
  simp

theorem slice_name (s : ByteArray) (A n R : List UInt8) (i j : Nat) (hd : s.data.toList = A ++ (n ++ R)) (hi : A.length = i) (hj : i + n.length = j) (wx : World) :
    (Instr.slice 9 (.string s) (some (.int .i64 (i : Int))) (some (.int .i64 (j : Int))) none).run Try.prog wx = .ok (.string ⟨n.toArray⟩) wx := by
  have hz := size_toList s
  rw [hd] at hz
  simp only [List.length_append] at hz
  rw [run_slice_string (P := Try.prog) wx 9 s .i64 .i64 (i : Int) (j : Int) Try.underlying9 (by omega) (by omega) (by omega)]
  rw [Int.toNat_natCast, Int.toNat_natCast, extract_name s A n R i j hd hi hj]

/-- Two rows of different element types lie in different blocks. -/
theorem owns_apart {w : World} {B e1 e2 n1 n2 : Nat} {v1 v2 : Value} {x1 x2 : List Value} (h1 : w.ownsRow B e1 1 v1 n1 x1) (h2 : w.ownsRow B e2 1 v2 n2 x2) (hne : e1 ≠ e2) : v2.ownBlock = none ∨ v2.ownBlock ≠ v1.ownBlock := by
  rcases h2.2 with ⟨rfl, _⟩ | ⟨g, cap, cur, rfl, _, hg, _⟩
  · exact .inl rfl
  · refine .inr fun e => ?_
    rcases h1.2 with ⟨rfl, _⟩ | ⟨g', cap', cur', rfl, _, hg', _⟩
    · simp [Value.ownBlock] at e
    · simp only [Value.ownBlock, Option.some.injEq] at e
      subst e
      rw [hg] at hg'
      simp only [Option.some.injEq, Obj.cells.injEq] at hg'
      exact hne hg'.2.1.symm

theorem owns_shape {w : World} {B e n : Nat} {v : Value} {x : List Value} (h : w.ownsRow B e 1 v n x) : ∃ a c, v = .slice a n c := by
  rcases h.2 with ⟨hv, h0⟩ | ⟨g, cap, cur, hv, _⟩
  · exact ⟨none, 0, by rw [hv, h0]⟩
  · exact ⟨_, _, hv⟩

/-- What an append to one of two rows leaves. -/
theorem app_step {w w2 w3 : World} {B e1 e2 n1 n2 : Nat} {v1 v2 : Value} {x1 x2 : List Value} {o : Obj} (h1 : w2.ownsRow B e1 1 v1 n1 x1) (h2 : w2.ownsRow B e2 1 v2 n2 x2) (hne : e1 ≠ e2) (hb : Below B w w2) (hB : B ≤ w.heap.size)
    (hg : (w2.alloc o).grownBy w3 v1.ownBlock) : w3.ownsRow B e2 1 v2 n2 x2 ∧ Below B w w3 := by
  have hz := hb.size
  exact ⟨(h2.alloc o).kept hg (owns_apart (h1.alloc o) (h2.alloc o) hne), (hb.alloc (by omega) o).grown hg (by simp; omega) (fun k hk => (h1.lt k hk).1)⟩

theorem lit_int (s t : ByteArray) (iz : Int) (i : Nat) (b : Bool) (w : World) (hs : s.size ≤ 1152921504606846976) (ht : t.size ≤ 1152921504606846976) (hz : iz = (i : Int)) (hi : i ≤ s.size) (hb : litB s.data.toList i t.data.toList = b) :
    Calls Try.prog 28 #[.string s, .int .i64 iz, .string t] w fun e w' => e = .returned (.bool b) ∧ ∃ n, w' = w.drewN n := by
  subst hz; exact lit_at s t i b w hs ht hi hb

theorem litY {l A t R : List UInt8} {i : Nat} (h : l = A ++ (t ++ R)) (hi : A.length = i) : litB l i t = true := by
  subst h hi; exact litB_yes A t R
theorem litN {l A t R : List UInt8} {i : Nat} {x y : UInt8} (h : l = A ++ y :: R) (hi : A.length = i) (ht : t[0]? = some x) (hxy : x ≠ y) : litB l i t = false := by
  subst h hi; exact litB_no 0 ht (by simp) hxy

/-- What the parser meets at an item: behind the name the rest R0; where it is ' DESC'; where a comma or the bracket. -/
theorem item_facts {l A n post : List UInt8} {d : Bool} {T : List (List UInt8 × Bool)} {i j : Nat} (h : l = A ++ (items ((n, d) :: T) ++ 41 :: post)) (hi : A.length = i) (hj : i + n.length = j) :
    (∃ x R, l = A ++ (n ++ x :: R) ∧ idB x = false) ∧ litB l j descL = d ∧ (∃ k, k = (if d then j + 5 else j) ∧ k < l.length ∧
      ((T = [] ∧ litB l k sepL = false ∧ litB l k [41] = true ∧ k = i + (items ((n, d) :: T)).length) ∨
       (T ≠ [] ∧ litB l k sepL = true ∧ k + 2 ≤ l.length ∧ (∃ A', l = A' ++ (items T ++ 41 :: post) ∧ A'.length = k + 2) ∧ k + 2 + (items T).length = i + (items ((n, d) :: T)).length))) := by
  subst hi hj
  have hN : (A ++ n).length = A.length + n.length := by simp
  have hD : (A ++ n ++ descL).length = A.length + n.length + 5 := by simp [descL]; omega
  cases T with
  | nil =>
    cases d with
    | true =>
      have e : l = A ++ (n ++ (descL ++ 41 :: post)) := by rw [h]; simp [items, item]
      refine ⟨⟨32, _, e, by decide⟩, litY (A := A ++ n) (R := 41 :: post) (by rw [e]; simp) hN, _, rfl, by rw [e]; simp [descL]; omega, .inl ⟨rfl, ?_, ?_, ?_⟩⟩
      · exact litN (A := A ++ n ++ descL) (R := post) (x := 44) (y := 41) (by rw [e]; simp) hD rfl (by decide)
      · exact litY (A := A ++ n ++ descL) (R := post) (by rw [e]; simp) hD
      · simp [items, item, descL]; omega
    | false =>
      have e : l = A ++ (n ++ 41 :: post) := by rw [h]; simp [items, item]
      refine ⟨⟨41, post, e, by decide⟩, litN (A := A ++ n) (R := post) (x := 32) (y := 41) (by rw [e]; simp) hN rfl (by decide), _, rfl, by rw [e]; simp, .inl ⟨rfl, ?_, ?_, ?_⟩⟩
      · exact litN (A := A ++ n) (R := post) (x := 44) (y := 41) (by rw [e]; simp) hN rfl (by decide)
      · exact litY (A := A ++ n) (R := post) (by rw [e]; simp) hN
      · simp [items, item]
  | cons q T =>
    cases d with
    | true =>
      have e : l = A ++ (n ++ (descL ++ (sepL ++ (items (q :: T) ++ 41 :: post)))) := by rw [h]; simp [items, item]
      refine ⟨⟨32, _, e, by decide⟩, litY (A := A ++ n) (R := sepL ++ (items (q :: T) ++ 41 :: post)) (by rw [e]; simp) hN, _, rfl, by rw [e]; simp [descL]; omega, .inr ⟨by simp, ?_, ?_, ⟨A ++ n ++ descL ++ sepL, by rw [e]; simp, by simp [descL, sepL]; omega⟩, ?_⟩⟩
      · exact litY (A := A ++ n ++ descL) (R := items (q :: T) ++ 41 :: post) (by rw [e]; simp) hD
      · rw [e]; simp [descL, sepL]; omega
      · simp [items, item, descL, sepL]; omega
    | false =>
      have e : l = A ++ (n ++ (sepL ++ (items (q :: T) ++ 41 :: post))) := by rw [h]; simp [items, item]
      refine ⟨⟨44, _, e, by decide⟩, litN (A := A ++ n) (R := 32 :: (items (q :: T) ++ 41 :: post)) (x := 32) (y := 44) (by rw [e]; simp [sepL]) hN rfl (by decide), _, rfl, by rw [e]; simp [sepL], .inr ⟨by simp, ?_, ?_, ⟨A ++ n ++ sepL, by rw [e]; simp, by simp [sepL]; omega⟩, ?_⟩⟩
      · exact litY (A := A ++ n) (R := items (q :: T) ++ 41 :: post) (by rw [e]; simp) hN
      · rw [e]; simp [sepL]; omega
      · simp [items, item, sepL]; omega

theorem items_head {n : List UInt8} {d : Bool} {T : List (List UInt8 × Bool)} (h : n ≠ []) (post : List UInt8) : ∃ y R, items ((n, d) :: T) ++ post = y :: R ∧ y ∈ n := by
  obtain ⟨y, r, rfl⟩ : ∃ y r, n = y :: r := by cases n with | nil => exact absurd rfl h | cons y r => exact ⟨y, r, rfl⟩
  cases T with
  | nil => exact ⟨y, r ++ ((if d then descL else []) ++ post), by simp [items, item], by simp⟩
  | cons q T => exact ⟨y, r ++ ((if d then descL else []) ++ (sepL ++ (items (q :: T) ++ post))), by simp [items, item], by simp⟩
end Go.Proofs.Qxb6600092a
