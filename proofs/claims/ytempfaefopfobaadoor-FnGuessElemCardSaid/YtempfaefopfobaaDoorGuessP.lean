/- GuessP: which path element an item of a list has of which no type is known (plain). -/
import Derived.Test.YtempfaefopfobaaDoorFromEl
import Derived.Test.YtempfaefopfobaaDoorSortP
import Derived.Test.YtempfaefopfobaaDoorRel
import Derived.Test.YtempfaefopfobaaDoorIs

namespace Go.Proofs.YtempfaefopfobaaDoor
open Go.ChangeShapes Go.WideShapes Go.ChangeAt Go.RowKit
set_option linter.unusedVariables false
set_option linter.unusedSimpArgs false

def sKey : ByteArray := ⟨#[107, 101, 121]⟩
def sId : ByteArray := ⟨#[105, 100]⟩
def sName : ByteArray := ⟨#[110, 97, 109, 101]⟩
/-- the names, in the order of the package and in the order of the reference -/
def cand : List ByteArray := [sKey, sId, sName]
def candS : List ByteArray := [sId, sKey, sName]
def scalT (t : Tree) : Bool := !(kcode t == 0) && !(kcode t == 6) && !(kcode t == 5)
def oneF (m : List (ByteArray × Tree)) (k : ByteArray) : List (ByteArray × Tree) :=
  match lookKV m k with
  | none => []
  | some t => if scalT t then [(k, t)] else []
def candFs (m : List (ByteArray × Tree)) (ks : List ByteArray) : List (ByteArray × Tree) := ks.flatMap (oneF m)
theorem candFs_nil (m : List (ByteArray × Tree)) : candFs m [] = [] := rfl
theorem candFs_snoc (m : List (ByteArray × Tree)) (ks : List ByteArray) (k : ByteArray) : candFs m (ks ++ [k]) = candFs m ks ++ oneF m k := by
  simp [candFs, List.flatMap_append]
theorem oneF_none {m : List (ByteArray × Tree)} {k : ByteArray} (h : lookKV m k = none) : oneF m k = [] := by simp [oneF, h]
theorem oneF_bad {m : List (ByteArray × Tree)} {k : ByteArray} {t : Tree} (h : lookKV m k = some t) (hs : scalT t = false) : oneF m k = [] := by simp [oneF, h, hs]
theorem oneF_some {m : List (ByteArray × Tree)} {k : ByteArray} {t : Tree} (h : lookKV m k = some t) (hs : scalT t = true) : oneF m k = [(k, t)] := by simp [oneF, h, hs]
theorem oneF_le (m : List (ByteArray × Tree)) (k : ByteArray) : (oneF m k).length ≤ 1 := by
  unfold oneF
  cases lookKV m k with
  | none => simp
  | some t => cases h : scalT t <;> simp [h]
theorem candFs_le (m : List (ByteArray × Tree)) (ks : List ByteArray) : (candFs m ks).length ≤ ks.length := by
  induction ks with
  | nil => simp [candFs]
  | cons k ks ih =>
    have := oneF_le m k
    simp only [candFs, List.flatMap_cons, List.length_append, List.length_cons] at ih ⊢
    omega
def guessEl (n : Int) : Tree → El
  | .map m => if (candFs m cand).length = 0 then .idx n else .key (sortP (candFs m cand))
  | _ => .idx n
/-- what a value has there, if it is a map -/
def oneT (t : Tree) (k : ByteArray) : List (ByteArray × Tree) :=
  match t with
  | .map m => oneF m k
  | _ => []
def fieldT (t : Tree) (k : ByteArray) : Option Tree :=
  match t with
  | .map m => lookKV m k
  | _ => none
theorem oneT_none {t : Tree} {k : ByteArray} (h : fieldT t k = none) : oneT t k = [] := by
  cases t with
  | map m => exact oneF_none h
  | _ => rfl
theorem oneT_bad {t x : Tree} {k : ByteArray} (h : fieldT t k = some x) (hs : scalT x = false) : oneT t k = [] := by
  cases t with
  | map m => exact oneF_bad h hs
  | _ => cases h
theorem oneT_some {t x : Tree} {k : ByteArray} (h : fieldT t k = some x) (hs : scalT x = true) : oneT t k = [(k, x)] := by
  cases t with
  | map m => exact oneF_some h hs
  | _ => cases h
theorem oneT_le (t : Tree) (k : ByteArray) : (oneT t k).length ≤ 1 := by
  cases t with
  | map m => exact oneF_le m k
  | _ => exact Nat.zero_le _
def itemFs (t : Tree) (ks : List ByteArray) : List (ByteArray × Tree) := ks.flatMap (oneT t)
theorem itemFs_nil (t : Tree) : itemFs t [] = [] := rfl
theorem itemFs_snoc (t : Tree) (ks : List ByteArray) (k : ByteArray) : itemFs t (ks ++ [k]) = itemFs t ks ++ oneT t k := by
  simp [itemFs, List.flatMap_append]
theorem itemFs_le (t : Tree) (ks : List ByteArray) : (itemFs t ks).length ≤ ks.length := by
  induction ks with
  | nil => simp [itemFs]
  | cons k ks ih =>
    have := oneT_le t k
    simp only [itemFs, List.flatMap_cons, List.length_append, List.length_cons] at ih ⊢
    omega
def itemEl (n : Int) (t : Tree) : El := if (itemFs t candS).length = 0 then .idx n else .key (itemFs t candS)
theorem sort_cand (m : List (ByteArray × Tree)) : sortP (candFs m cand) = candFs m candS := by
  show sortP (oneF m sKey ++ (oneF m sId ++ (oneF m sName ++ []))) = oneF m sId ++ (oneF m sKey ++ (oneF m sName ++ []))
  have b1 : blt sId sKey = true := by decide +kernel
  have b2 : blt sName sId = false := by decide +kernel
  have b3 : blt sName sKey = false := by decide +kernel
  have b4 : blt sKey sId = false := by decide +kernel
  have key : ∀ k, oneF m k = [] ∨ ∃ t, oneF m k = [(k, t)] := fun k => by
    unfold oneF
    cases lookKV m k with
    | none => exact .inl rfl
    | some t =>
      cases h : scalT t
      · exact .inl (by simp [h])
      · exact .inr ⟨t, by simp [h]⟩
  rcases key sKey with h1 | ⟨t1, h1⟩ <;> rcases key sId with h2 | ⟨t2, h2⟩ <;> rcases key sName with h3 | ⟨t3, h3⟩ <;> rw [h1, h2, h3] <;> simp [sortP, posP, insP, b1, b2, b3, b4]
theorem guess_item (n : Int) (t : Tree) : guessEl n t = itemEl n t := by
  cases t with
  | map m =>
    have h := congrArg List.length (sort_cand m)
    rw [sortP_length] at h
    simp only [guessEl, itemEl, sort_cand, h]
    rfl
  | _ => rfl
end Go.Proofs.YtempfaefopfobaaDoor
