import Derived.Test.Qxb6600092aListWalk
namespace Go.Proofs.Qxb6600092a
open Go.RowKit
set_option linter.unusedVariables false

def createL : List UInt8 := [67, 82, 69, 65, 84, 69, 32]
def uniqueL : List UInt8 := [85, 78, 73, 81, 85, 69, 32]
def indexL : List UInt8 := [73, 78, 68, 69, 88, 32]
def onL : List UInt8 := [32, 79, 78, 32]
def openL : List UInt8 := [32, 40]
def storingL : List UInt8 := [32, 83, 84, 79, 82, 73, 78, 71, 32, 40]

/-- The STORING clause. -/
def tailS (S : List (List UInt8 × Bool)) : List UInt8 := if S = [] then [] else storingL ++ (items S ++ [41])
/-- The statement up to its first bracket. -/
def headS (u : Bool) (n t : List UInt8) : List UInt8 := createL ++ ((if u then uniqueL else []) ++ (indexL ++ (n ++ (onL ++ (t ++ openL)))))
/-- The CREATE INDEX statement. -/
def ddl (u : Bool) (n t : List UInt8) (K S : List (List UInt8 × Bool)) : List UInt8 := headS u n t ++ (items K ++ 41 :: tailS S)

/-- What the parser meets, place by place. -/
theorem ddl_facts {u : Bool} {n t : List UInt8} {K S : List (List UInt8 × Bool)} {l : List UInt8} {q : Nat} (h : l = ddl u n t K S) (hq : q = if u then 14 else 7) :
    litB l 0 createL = true ∧ litB l 7 uniqueL = u ∧ litB l q indexL = true ∧ (∃ A R, l = A ++ (n ++ 32 :: R) ∧ A.length = q + 6) ∧ litB l (q + 6 + n.length) onL = true ∧
    (∃ A R, l = A ++ (t ++ 32 :: R) ∧ A.length = q + 6 + n.length + 4) ∧ litB l (q + 6 + n.length + 4 + t.length) openL = true ∧
    (∃ A, l = A ++ (items K ++ 41 :: tailS S) ∧ A.length = q + 6 + n.length + 4 + t.length + 2) ∧
    (S = [] → l.length = q + 6 + n.length + 4 + t.length + 2 + (items K).length + 1) ∧
    (S ≠ [] → litB l (q + 6 + n.length + 4 + t.length + 2 + (items K).length + 1) storingL = true ∧ (∃ A, l = A ++ (items S ++ 41 :: []) ∧ A.length = q + 6 + n.length + 4 + t.length + 2 + (items K).length + 1 + 10) ∧
      l.length = q + 6 + n.length + 4 + t.length + 2 + (items K).length + 1 + 10 + (items S).length + 1) := by
  obtain ⟨U, hU, hUl⟩ : ∃ U, U = (if u then uniqueL else []) ∧ 7 + U.length = q := ⟨_, rfl, by subst hq; cases u <;> rfl⟩
  have e : l = createL ++ (U ++ (indexL ++ (n ++ (onL ++ (t ++ (openL ++ (items K ++ 41 :: tailS S))))))) := by rw [h, hU]; simp [ddl, headS]
  have c1 : createL.length = 7 := rfl
  have c2 : indexL.length = 6 := rfl
  have c3 : onL.length = 4 := rfl
  have c4 : openL.length = 2 := rfl
  have c5 : storingL.length = 10 := rfl
  refine ⟨litY (A := []) e rfl, ?_, litY (A := createL ++ U) (R := n ++ (onL ++ (t ++ (openL ++ (items K ++ 41 :: tailS S))))) (by rw [e]; simp) (by simp [c1, hUl]), ⟨createL ++ (U ++ indexL), [79, 78, 32] ++ (t ++ (openL ++ (items K ++ 41 :: tailS S))), by rw [e]; simp [onL], by simp [c1, c2]; omega⟩,
    litY (A := createL ++ (U ++ (indexL ++ n))) (R := t ++ (openL ++ (items K ++ 41 :: tailS S))) (by rw [e]; simp) (by simp [c1, c2]; omega), ⟨createL ++ (U ++ (indexL ++ (n ++ onL))), 40 :: (items K ++ 41 :: tailS S), by rw [e]; simp [openL], by simp [c1, c2, c3]; omega⟩,
    litY (A := createL ++ (U ++ (indexL ++ (n ++ (onL ++ t))))) (R := items K ++ 41 :: tailS S) (by rw [e]; simp) (by simp [c1, c2, c3]; omega), ⟨createL ++ (U ++ (indexL ++ (n ++ (onL ++ (t ++ openL))))), by rw [e]; simp, by simp [c1, c2, c3, c4]; omega⟩, ?_, ?_⟩
  · cases u with
    | true => exact litY (A := createL) (R := indexL ++ (n ++ (onL ++ (t ++ (openL ++ (items K ++ 41 :: tailS S)))))) (by rw [e, hU]; simp) rfl
    | false => exact litN (A := createL) (R := [78, 68, 69, 88, 32] ++ (n ++ (onL ++ (t ++ (openL ++ (items K ++ 41 :: tailS S)))))) (x := 85) (y := 73) (by rw [e, hU]; simp [indexL]) rfl rfl (by decide)
  · intro hS
    subst hS
    rw [e]
    simp [c1, c2, c3, c4, tailS]
    omega
  · intro hS
    have et : tailS S = storingL ++ (items S ++ [41]) := by simp [tailS, hS]
    rw [et] at e
    refine ⟨litY (A := createL ++ (U ++ (indexL ++ (n ++ (onL ++ (t ++ (openL ++ (items K ++ [41])))))))) (R := items S ++ [41]) (by rw [e]; simp) (by simp [c1, c2, c3, c4]; omega),
      ⟨createL ++ (U ++ (indexL ++ (n ++ (onL ++ (t ++ (openL ++ (items K ++ 41 :: storingL))))))), by rw [e]; simp, by simp [c1, c2, c3, c4, c5]; omega⟩, ?_⟩
    rw [e]
    simp [c1, c2, c3, c4, c5]
    omega

theorem ident_int (s : ByteArray) (A n R : List UInt8) (x : UInt8) (iz : Int) (i j : Nat) (w : World) (hs : s.size ≤ 1152921504606846976) (hz : iz = (i : Int)) (hd : s.data.toList = A ++ (n ++ x :: R)) (hn : ∀ c ∈ n, idB c = true) (hx : idB x = false) (hi : A.length = i) (hj : i + n.length = j) :
    Calls Try.prog 29 #[.string s, .int .i64 iz] w fun e w' => e = .returned (.int .i64 (j : Int)) ∧ w' = w := by
  subst hz
  exact ident_end s A n R x i j w hs hd hn hx hi hj

theorem slice_int (s : ByteArray) (A n R : List UInt8) (iz : Int) (i j : Nat) (hd : s.data.toList = A ++ (n ++ R)) (hz : iz = (i : Int)) (hi : A.length = i) (hj : i + n.length = j) (wx : World) :
    (Instr.slice 9 (.string s) (some (.int .i64 iz)) (some (.int .i64 (j : Int))) none).run Try.prog wx = .ok (.string ⟨n.toArray⟩) wx := by
  subst hz
  exact slice_name s A n R i j hd hi hj wx

theorem list_int (s : ByteArray) (A0 post : List UInt8) (L : List (List UInt8 × Bool)) (iz : Int) (i0 j0 : Nat) (wd : Bool) (w : World) (hz : iz = (i0 : Int)) (hs : s.size ≤ 1099511627776) (hL : L.length ≤ 65536) (hd : s.data.toList = A0 ++ (items L ++ 41 :: post)) (hi0 : A0.length = i0) (hj0 : j0 = i0 + (items L).length + 1)
    (hok : ∀ p ∈ L, NameOk p.1) (hwd : wd = false → ∀ p ∈ L, p.2 = false) :
    Calls Try.prog 30 #[.string s, .int .i64 iz, .bool wd] w fun e w' => ∃ a1 c1 a2 c2, e = .returned (.tuple #[.int .i64 (j0 : Int), .slice a1 L.length c1, .slice a2 L.length c2, .bool true]) ∧
      w'.ownsRow w.heap.size 9 1 (.slice a1 L.length c1) L.length (L.map nmV) ∧ w'.ownsRow w.heap.size 4 1 (.slice a2 L.length c2) L.length (L.map flV) ∧ Below w.heap.size w w' := by
  subst hz
  exact list_any s A0 post L i0 j0 wd w hs hL hd hi0 hj0 hok hwd
end Go.Proofs.Qxb6600092a
