import PyProof.Rows.All
import Wide.All
import OpenK.AllK
import Wide.FinOn
import PySem.Challenge.RW_rl0040_01
set_option Elab.async false
set_option maxRecDepth 100000
set_option linter.all false
section
open PySem PySem.W PyProof.Rows
namespace Mine
set_option maxHeartbeats 8000000 in
open_top hd for PySem.Challenge.rw_rl0040_01
end Mine
end

namespace Mine

section
open PySem PySem.Builtin PySem.Builtin.Str
def Dots : Str := Str.ofString "..."
def NoDots (p : Str) : Prop := ∀ c ∈ p.cps.toList, c ≠ 46
theorem dots_list : (Str.ofString "...").cps.toList = [46, 46, 46] := by decide +kernel
theorem dots_len : (Str.ofString "...").length = 3 := by decide +kernel
theorem cat_list (p : Str) : (p ++ (Str.ofString "..." ++ p)).cps.toList = p.cps.toList ++ ([46, 46, 46] ++ p.cps.toList) := by
  rw [Str.cps_append, Str.cps_append, Array.toList_append, Array.toList_append, dots_list]
theorem cat_len (p : Str) : (p ++ (Str.ofString "..." ++ p)).length = 2 * p.length + 3 := by
  rw [Str.length_append, Str.length_append, dots_len]; omega
theorem three_at {l : List Nat} {i : Nat} (h : (l.drop i).take 3 = [46, 46, 46]) : l[i]? = some 46 ∧ l[i + 1]? = some 46 ∧ l[i + 2]? = some 46 := by
  have h0 := congrArg (fun z => z[0]?) h
  have h1 := congrArg (fun z => z[1]?) h
  have h2 := congrArg (fun z => z[2]?) h
  simp [List.getElem?_drop] at h0 h1 h2
  exact ⟨h0, h1, h2⟩
theorem dots_at {p : Str} (hp : NoDots p) (i : Nat) : StrLaws.At (p ++ (Str.ofString "..." ++ p)) (Str.ofString "...") (p ++ (Str.ofString "..." ++ p)).length i ↔ i = p.length := by
  unfold StrLaws.At
  rw [StrLaws.subAt_eq, cat_list, cat_len, dots_len, dots_list]
  have hn : p.cps.toList.length = p.length := by simp [Str.length]
  constructor
  · rintro ⟨h1, h2⟩
    have h3 := three_at (eq_of_beq h2)
    rcases Nat.lt_trichotomy i p.length with h | h | h
    · have := h3.1
      rw [List.getElem?_append_left (by omega)] at this
      exact absurd rfl (hp _ (List.mem_of_getElem? this))
    · exact h
    · have := h3.2.2
      rw [List.getElem?_append_right (by omega), List.getElem?_append_right (by simp only [List.length_cons, List.length_nil]; omega)] at this
      exact absurd rfl (hp _ (List.mem_of_getElem? this))
  · rintro rfl
    refine ⟨by omega, ?_⟩
    rw [← hn, List.drop_left]
    rfl
theorem dots_in {p : Str} (hp : NoDots p) (k : Nat) (hk : 1 ≤ k) : occurrences (p ++ (Str.ofString "..." ++ p)) (Str.ofString "...") 0 (p ++ (Str.ofString "..." ++ p)).length k = [p.length] := by
  obtain ⟨f, hc⟩ := StrLaws.occ_chain (p ++ (Str.ofString "..." ++ p)) (Str.ofString "...") k
  rcases StrLaws.occ_head (p ++ (Str.ofString "..." ++ p)) (Str.ofString "...") k hk with ⟨_, hn⟩ | ⟨i, r, e, hi, _⟩
  · exact absurd ((dots_at hp p.length).mpr rfl) (hn _)
  · rw [e] at hc ⊢
    have e1 := (dots_at hp i).mp hi
    subst e1
    cases r with
    | nil => rfl
    | cons j r =>
      have h1 := hc.2.2.1
      have h2 := (dots_at hp j).mp hc.2.2.2.1
      rw [dots_len] at h1
      omega
theorem dots_found {p : Str} (hp : NoDots p) : (occurrences (p ++ (Str.ofString "..." ++ p)) (Str.ofString "...") 0 (p ++ (Str.ofString "..." ++ p)).length 1).isEmpty = false := by
  rw [dots_in hp 1 (Nat.le_refl _)]; rfl
theorem sub_left (p : Str) : strSub (p ++ (Str.ofString "..." ++ p)) 0 p.length = p := by
  apply Str.ext'
  apply Array.toList_inj.mp
  have hn : p.cps.toList.length = p.length := by simp [Str.length]
  rw [StrLaws.strSub_toList, cat_list, List.drop_zero, Nat.sub_zero, ← hn, List.take_left]
theorem sub_right (p : Str) : strSub (p ++ (Str.ofString "..." ++ p)) (p.length + 3) (p ++ (Str.ofString "..." ++ p)).length = p := by
  apply Str.ext'
  apply Array.toList_inj.mp
  have hn : p.cps.toList.length = p.length := by simp [Str.length]
  rw [StrLaws.strSub_toList, cat_list, cat_len, show 2 * p.length + 3 - (p.length + 3) = p.length by omega, ← List.append_assoc, List.drop_append_of_le_length (by simp only [List.length_append, List.length_cons, List.length_nil]; omega)]
  have : p.length + 3 = (p.cps.toList ++ [46, 46, 46]).length := by simp only [List.length_append, List.length_cons, List.length_nil]; omega
  rw [this, List.drop_length, List.nil_append, ← hn, List.take_length]
theorem dots_split {p : Str} (hp : NoDots p) : Txt.split (p ++ (Str.ofString "..." ++ p)) (Str.ofString "...") = [p, p] := by
  unfold Txt.split
  have h1 : decide ((p ++ (Str.ofString "..." ++ p)).length < (Str.ofString "...").length) = false := by
    rw [cat_len, dots_len]; simp
  have h2 : decide (Builtin.Str.strKind (p ++ (Str.ofString "..." ++ p)) < Builtin.Str.strKind (Str.ofString "...")) = false := by
    have : Builtin.Str.strKind (Str.ofString "...") = 1 := by decide +kernel
    rw [this]
    unfold Builtin.Str.strKind
    split <;> (try split) <;> decide
  rw [h1, h2, dots_in hp _ (by omega)]
  simp only [Bool.or_false, Bool.false_eq_true, if_false, List.isEmpty_cons]
  rw [StrLaws.partsBetween_eq]
  show [strSub _ 0 p.length, strSub _ (p.length + (Str.ofString "...").length) _] = _
  rw [dots_len, sub_left, sub_right]
end

section
open PySem PySem.Builtin PySem.Builtin.Str
theorem slice_is (x : Str) (l u : Option Int) : Txt.slice x l u = StrLaws.sliceText x l u := rfl
theorem len_list (x : Str) : x.cps.toList.length = x.length := by simp [Str.length]
theorem len_mk (l : List Nat) : (⟨l.toArray⟩ : Str).length = l.length := by simp [Str.length]
theorem slice_to {x : Str} {k : Int} (h0 : 0 ≤ k) (h1 : k ≤ x.length) : Txt.slice x none (some k) = ⟨(x.cps.toList.take k.toNat).toArray⟩ := by
  rw [slice_is, StrLaws.sliceText_to ⟨h0, by rw [len_list]; exact h1⟩, List.drop_zero, Int.sub_zero]
theorem slice_from {x : Str} {k : Int} (h0 : 0 ≤ k) (h1 : k ≤ x.length) : Txt.slice x (some k) none = ⟨(x.cps.toList.drop k.toNat).toArray⟩ := by
  rw [slice_is, StrLaws.sliceText_from ⟨h0, by rw [len_list]; exact h1⟩]
  congr 2
  apply List.take_of_length_le
  rw [List.length_drop]
  omega
theorem slice_both {x : Str} {i j : Int} (h0 : 0 ≤ i) (h1 : i ≤ j) (h2 : j ≤ x.length) : Txt.slice x (some i) (some j) = ⟨((x.cps.toList.drop i.toNat).take (j - i).toNat).toArray⟩ := by
  rw [slice_is, StrLaws.sliceText_plain ⟨h0, h1, by rw [len_list]; exact h2⟩]
theorem slice_to_len {x : Str} {k : Int} (h0 : 0 ≤ k) (h1 : k ≤ x.length) : (Txt.slice x none (some k)).length = k.toNat := by
  rw [slice_to h0 h1, len_mk, List.length_take, len_list]; omega
theorem slice_from_len {x : Str} {k : Int} (h0 : 0 ≤ k) (h1 : k ≤ x.length) : (Txt.slice x (some k) none).length = x.length - k.toNat := by
  rw [slice_from h0 h1, len_mk, List.length_drop, len_list]
theorem slice_both_len {x : Str} {i j : Int} (h0 : 0 ≤ i) (h1 : i ≤ j) (h2 : j ≤ x.length) : (Txt.slice x (some i) (some j)).length = (j - i).toNat := by
  rw [slice_both h0 h1 h2, len_mk, List.length_take, List.length_drop, len_list]; omega
theorem noDots_to {x : Str} (h : NoDots x) {k : Int} (h0 : 0 ≤ k) (h1 : k ≤ x.length) : NoDots (Txt.slice x none (some k)) := by
  rw [slice_to h0 h1]; intro c hc; exact h c (List.mem_of_mem_take (by simpa using hc))
theorem noDots_from {x : Str} (h : NoDots x) {k : Int} (h0 : 0 ≤ k) (h1 : k ≤ x.length) : NoDots (Txt.slice x (some k) none) := by
  rw [slice_from h0 h1]; intro c hc; exact h c (List.mem_of_mem_drop (by simpa using hc))
theorem noDots_both {x : Str} (h : NoDots x) {i j : Int} (h0 : 0 ≤ i) (h1 : i ≤ j) (h2 : j ≤ x.length) : NoDots (Txt.slice x (some i) (some j)) := by
  rw [slice_both h0 h1 h2]; intro c hc; exact h c (List.mem_of_mem_drop (List.mem_of_mem_take (by simpa using hc)))

def pieceOf (x : Str) (b : Bool) (k : Int) : Str := if b = true then Txt.slice x none (some k) else Txt.slice x (some ((x.length : Int) - k)) none
def ellB (p got : Str) : Bool := Txt.startswith got p && Txt.endswith got p && decide (2 * p.length ≤ got.length)
def apartOk (x : Str) (b : Bool) (k : Int) : Bool := ellB (pieceOf x b k) x
def apartL (x : Str) (b : Bool) : List Int := (PySem.W.rangeKs 1 ((x.length : Int) - 1).toNat).filter (apartOk x b)
def ApInv (x : Str) (b : Bool) (pre sizes : List Int) : Prop := sizes = pre.filter (apartOk x b)
theorem ap_start {x : Str} {b : Bool} : ApInv x b [] [] ∧ ([] : List Int).length ≤ ([] : List Int).length := ⟨rfl, Nat.le_refl _⟩
theorem ap_grow {x : Str} {b : Bool} {pre : List Int} {sizes : List Int} {k : Int} (h : ApInv x b pre sizes) (hl : sizes.length ≤ pre.length) (hk : apartOk x b k = true) : ApInv x b (pre ++ [k]) (sizes ++ [k]) ∧ (sizes ++ [k]).length ≤ (pre ++ [k]).length := by
  refine ⟨?_, by simp only [List.length_append, List.length_cons, List.length_nil]; omega⟩
  unfold ApInv at *
  rw [List.filter_append, h, List.filter_cons_of_pos hk, List.filter_nil]
theorem ap_same {x : Str} {b : Bool} {pre : List Int} {sizes : List Int} {k : Int} (h : ApInv x b pre sizes) (hl : sizes.length ≤ pre.length) (hk : apartOk x b k = false) : ApInv x b (pre ++ [k]) sizes ∧ sizes.length ≤ (pre ++ [k]).length := by
  refine ⟨?_, by simp only [List.length_append, List.length_cons, List.length_nil]; omega⟩
  unfold ApInv at *
  rw [List.filter_append, h, List.filter_cons_of_neg (by simp [hk]), List.filter_nil, List.append_nil]
def PreEq (x y : Str) (i : Int) : Prop := x.cps.toList.take i.toNat = y.cps.toList.take i.toNat
theorem pre_start {x y : Str} (hl : x.length = y.length) (h : (x == y) = false) : 0 ≤ (0 : Int) ∧ (0 : Int) < x.length ∧ PreEq x y 0 := by
  refine ⟨Int.le_refl _, ?_, rfl⟩
  rcases Nat.eq_zero_or_pos x.length with h0 | h0
  · exfalso
    have e1 : x.cps.toList = [] := List.length_eq_zero_iff.mp (by rw [len_list]; exact h0)
    have e2 : y.cps.toList = [] := List.length_eq_zero_iff.mp (by rw [len_list]; omega)
    have : x = y := Str.ext' (Array.toList_inj.mp (by rw [e1, e2]))
    subst this
    simp at h
  · omega
theorem item_nonneg {x : Str} {i : Int} (h0 : 0 ≤ i) (h1 : i < x.length) : Txt.item x i = ⟨#[x.cps.toList[i.toNat]?.getD 0]⟩ := by
  unfold Txt.item Txt.charAt
  rw [StrLaws.seqIndex_nonneg h0 h1]
  simp
theorem item_neg {x : Str} {i : Int} (h0 : i < 0) (h1 : -(x.length : Int) ≤ i) : Txt.item x i = ⟨#[x.cps.toList[(i + x.length).toNat]?.getD 0]⟩ := by
  unfold Txt.item Txt.charAt
  rw [StrLaws.seqIndex_neg h0 h1]
  simp
theorem item_eq_iff {x y : Str} {i j : Nat} (hi : i < x.length) (hj : j < y.length) (h : ((⟨#[x.cps.toList[i]?.getD 0]⟩ : Str) == ⟨#[y.cps.toList[j]?.getD 0]⟩) = true) : x.cps.toList[i]? = y.cps.toList[j]? := by
  have h1 := eq_of_beq h
  have h2 : x.cps.toList[i]?.getD 0 = y.cps.toList[j]?.getD 0 := by
    have := congrArg Str.cps h1
    simpa using this
  rw [← len_list] at hi hj
  rw [List.getElem?_eq_getElem hi, List.getElem?_eq_getElem hj] at h2 ⊢
  exact congrArg some h2
theorem str_ext {x y : Str} (h : x.cps.toList = y.cps.toList) : x = y := Str.ext' (Array.toList_inj.mp h)
theorem pre_step {x y : Str} {i : Int} (hl : x.length = y.length) (h : (x == y) = false) (h0 : 0 ≤ i) (h1 : i < x.length) (hp : PreEq x y i) (hi : (Txt.item x i == Txt.item y i) = true) : 0 ≤ i + 1 ∧ i + 1 < (x.length : Int) ∧ PreEq x y (i + 1) := by
  rw [item_nonneg h0 h1, item_nonneg h0 (by omega)] at hi
  have e := item_eq_iff (by omega) (by omega) hi
  have hs : PreEq x y (i + 1) := by
    unfold PreEq at *
    have e1 : (i + 1).toNat = i.toNat + 1 := by omega
    rw [e1, List.take_add_one, List.take_add_one, hp, e]
  refine ⟨by omega, ?_, hs⟩
  rcases Int.lt_or_le (i + 1) x.length with h2 | h2
  · exact h2
  · exfalso
    unfold PreEq at hs
    rw [List.take_of_length_le (by rw [len_list]; omega), List.take_of_length_le (by rw [len_list]; omega)] at hs
    have := str_ext hs
    subst this
    simp at h
theorem item_slice0 {x : Str} {i : Int} (h0 : 0 ≤ i) (h1 : i < x.length) : Txt.item (Txt.slice x (some i) none) 0 = Txt.item x i := by
  have hl := slice_from_len h0 (Int.le_of_lt h1)
  rw [item_nonneg h0 h1, item_nonneg (Int.le_refl _) (by omega), slice_from h0 (Int.le_of_lt h1)]
  simp
theorem mid_head {x y : Str} {i : Int} (hl : x.length = y.length) (h0 : 0 ≤ i) (h1 : i < x.length) (hi : (Txt.item x i == Txt.item y i) = false) : (Txt.item (Txt.slice x (some i) none) 0 == Txt.item (Txt.slice y (some i) none) 0) = false := by
  rw [item_slice0 h0 h1, item_slice0 h0 (by omega)]; exact hi
theorem mid_len {x y : Str} {i : Int} (hl : x.length = y.length) (h0 : 0 ≤ i) (h1 : i < x.length) : (Txt.slice x (some i) none).length = (Txt.slice y (some i) none).length ∧ 1 ≤ (Txt.slice x (some i) none).length ∧ (Txt.slice x (some i) none).length ≤ x.length := by
  rw [slice_from_len h0 (by omega), slice_from_len h0 (by omega)]; omega
theorem post_step {a b : Str} {j : Int} (hl : a.length = b.length) (hh : (Txt.item a 0 == Txt.item b 0) = false) (h0 : -(a.length : Int) < j) (h1 : j ≤ 0) (hi : (Txt.item a (j - 1) == Txt.item b (j - 1)) = true) : -(a.length : Int) < j - 1 ∧ j - 1 ≤ 0 := by
  refine ⟨?_, by omega⟩
  rcases Int.lt_or_le (-(a.length : Int)) (j - 1) with h2 | h2
  · exact h2
  · exfalso
    rw [item_neg (by omega) (by omega), item_neg (by omega) (by omega)] at hi
    rw [item_nonneg (Int.le_refl _) (by omega), item_nonneg (Int.le_refl _) (by omega)] at hh
    have e1 : (j - 1 + a.length).toNat = (0 : Int).toNat := by omega
    have e2 : (j - 1 + b.length).toNat = (0 : Int).toNat := by omega
    rw [e1, e2] at hi
    rw [hi] at hh
    cases hh
theorem slice_nn (x : Str) : Txt.slice x none none = x := by
  unfold Txt.slice
  split
  · rfl
  · rename_i h
    exfalso
    apply h
    rw [StrLaws.sliceIdx_none_lo, StrLaws.sliceIdx_none_hi, show (0 : Int) = ((0 : Nat) : Int) from rfl, StrLaws.strSliceIndices_plain (Nat.zero_le _) (Nat.le_refl _)]
    simp
theorem slice_neg {x : Str} {j : Int} (h0 : j < 0) (h1 : -(x.length : Int) < j) : Txt.slice x none (some j) = ⟨(x.cps.toList.take (x.length + j).toNat).toArray⟩ := by
  have e : Txt.slice x none (some j) = Txt.slice x none (some (j + x.length)) := by
    rw [slice_is, slice_is]
    exact StrLaws.sliceText_neg_hi x none h0 (by omega)
  rw [e, slice_to (by omega) (by omega), Int.add_comm]
theorem slice_neg_len {x : Str} {j : Int} (h0 : j < 0) (h1 : -(x.length : Int) < j) : ((Txt.slice x none (some j)).length : Int) = x.length + j := by
  rw [slice_neg h0 h1, len_mk, List.length_take, len_list]; omega
theorem slice_neg_item {x : Str} {j : Int} (h0 : j < 0) (h1 : -(x.length : Int) < j) : Txt.item (Txt.slice x none (some j)) 0 = Txt.item x 0 := by
  have hl := slice_neg_len h0 h1
  rw [item_nonneg (Int.le_refl _) (by omega), item_nonneg (Int.le_refl _) (by omega), slice_neg h0 h1]
  simp [List.getElem?_take]
  rw [if_pos (by omega)]
structure SameHead (z x : Str) : Prop where
  eq : Txt.item z 0 = Txt.item x 0
structure HeadNe (a b : Str) : Prop where
  ne : (Txt.item a 0 == Txt.item b 0) = false
theorem HeadNe.same {a b z y : Str} (h : HeadNe a b) (h1 : SameHead z a) (h2 : SameHead y b) : HeadNe z y := ⟨by rw [h1.eq, h2.eq]; exact h.ne⟩
structure IsSuf (z x : Str) (i : Int) : Prop where
  eq : z = Txt.slice x (some i) none
theorem suf_len {x : Str} {i : Int} (h0 : 0 ≤ i) (h1 : i ≤ x.length) : ((Txt.slice x (some i) none).length : Int) = x.length - i := by
  rw [slice_from_len h0 h1]; omega
theorem suf_head {x y a b : Str} {i : Int} (ha : IsSuf a x i) (hb : IsSuf b y i) (hl : x.length = y.length) (h0 : 0 ≤ i) (h1 : i < x.length) (hi : (Txt.item x i == Txt.item y i) = false) : HeadNe a b := by
  obtain ⟨rfl⟩ := ha
  obtain ⟨rfl⟩ := hb
  exact ⟨mid_head hl h0 h1 hi⟩
theorem bne_t {a : Int} (h : a ≠ 0) : (a != 0) = true := by simp [h]
theorem bne_f {a : Int} (h : a = 0) : ¬ (a != 0) = true := by simp [h]
end

section
open PySem PySem.W PySem.Calls PySem.Spec PyProof.Rows
local macro_rules | `(tactic| walk_at "mine step") => `(tactic| first | walk1 | (dsimp only; walk1) | (leave1; walk_say "STEP leave1"; (try dsimp only)))
local macro_rules | `(tactic| walk_at "go pyIter") => `(tactic| repeat' (first | (k_unfold; (try dsimp only)) | (k_end; kc_close) | ((fail_if_success (with_reducible show wpAny _ _ (pyIter _) _ _ _)); walk_at "mine step")))
local macro_rules | `(tactic| walk_at "go call ref") => `(tactic| repeat' (first | (k_unfold; (try dsimp only)) | (k_end; kc_close) | ((fail_if_success (with_reducible show wpAny _ _ (call (Value.ref _) _) _ _ _)); walk_at "mine step")))
local macro_rules | `(tactic| walk_at "go call type:list") => `(tactic| repeat' (first | (k_unfold; (try dsimp only)) | (k_end; kc_close) | ((fail_if_success (with_reducible show wpAny _ _ (call (Value.type "list") _) _ _ _)); walk_at "mine step")))
local macro_rules | `(tactic| walk_at "go compareOp Eq int int") => `(tactic| repeat' (first | (k_unfold; (try dsimp only)) | (k_end; kc_close) | ((fail_if_success (with_reducible show wpAny _ _ (compareOp CmpOp.Eq (Value.int _ _) (Value.int _ _)) _ _ _)); walk_at "mine step")))
local macro_rules | `(tactic| walk_at "go exec Return") => `(tactic| repeat' (first | (k_unfold; (try dsimp only)) | (k_end; kc_close) | ((fail_if_success (with_reducible show wpAny _ _ (exec (Stmt.Return _ _) _) _ _ _)); walk_at "mine step")))
local macro_rules | `(tactic| walk_at "go exec While") => `(tactic| repeat' (first | (k_unfold; (try dsimp only)) | (k_end; kc_close) | ((fail_if_success (with_reducible show wpAny _ _ (exec (Stmt.While _ _ _ _) _) _ _ _)); walk_at "mine step")))
local macro_rules | `(tactic| walk_at "go storeName") => `(tactic| repeat' (first | (k_unfold; (try dsimp only)) | (k_end; kc_close) | ((fail_if_success (with_reducible show wpAny _ _ (storeName _ _ _) _ _ _)); walk_at "mine step")))
local macro_rules | `(tactic| walk_at "go UnrEndW") => `(tactic| repeat' (first | (k_unfold; (try dsimp only)) | (k_end; kc_close) | ((fail_if_success (with_reducible show UnrEndW _ _ _ _ _ _)); walk_at "mine step")))
local macro_rules | `(tactic| walk_at "go qqq") => `(tactic| repeat' (first | (k_unfold; (try dsimp only)) | (k_end; kc_close) | (walk_at "mine step")))
set_option hygiene false
local macro_rules | `(tactic| walk_at "mine prem") => `(tactic| ((case k1 => k_asm); (case k2 => k_asm); (case k3 => k_asm); (case k4 => k_asm); (case k5 => k_asm); (case kK => first | exact rfl | assumption); (case kd => ktr_room); (case ku => ktr_units)))
set_option hygiene true

section
open PySem PySem.W PySem.Calls PySem.Spec PyProof.Rows
theorem my_split {prog : Program} {w : World} {A : Around} {E : Value → Shared → Prop} {s : Shared} {h₀ : Heap} {L : Addr} {m : PySem.Str → Option Value} {news : List (Addr × Obj)} {p : PySem.Str} {t u : Tok} {Q : Value → Shared → Prop}
    (hF : Fr h₀ L s.heap m) (hN : News h₀ L s.heap news) (hp : NoDots p) (hsz : p.length ≤ 100)
    (h : ∀ D t t' h' k, Fr h₀ L h' m → News h₀ L h' ((D, listOf [.str p t, .str p t'].toArray 0) :: news) → (∀ q ∈ news, q.1 < D) → Q (.ref D) { s with heap := h', toks := k }) :
    wpAny (model prog w) A (call (.builtin "str.split") [.str (p ++ (Str.ofString "..." ++ p)) t, .str (Str.ofString "...") u]) Q E s := by
  refine KSpl.split1 hF hN (by decide) ?_ (by rw [cat_len, sizeLine_eq]; omega)
  intro D l h' k e _ F N hl
  rw [dots_split hp] at e
  obtain ⟨t1, l1, e1, e2⟩ := KSpl.cons_of e
  obtain ⟨t2, l2, e3, e4⟩ := KSpl.cons_of e2
  have e5 := KSpl.nil_of e4
  subst e5 e3 e1
  exact h D t1 t2 h' k F N hl

local macro_rules | `(tactic| walk_at "call builtin:str.split") => `(tactic| (k_here; (with_reducible show wpAny _ _ (call (Value.builtin "str.split") _) _ _ _); refine my_split (by k_asm) (by k_asm) (by assumption) (by assumption) ?_; intro D' t8 t9 h' k' F' N' l1; (try k_lt l1)))

theorem iter_empty {prog : Program} {w : World} {A : Around} {E : Value → Shared → Prop} {s : Shared} {env : Env} {h₀ : Heap} {x : Str} {body : List Stmt} {Q : Flow → Shared → Prop} {l : Addr} {nn : Nat} {m₀ : Str → Option Value} {news : List (Addr × Obj)}
    (hh : A.handled = none) (hl : (l, listOf [].toArray nn) ∈ news) (F : Fr h₀ env.locals s.heap m₀) (N : News h₀ env.locals s.heap news)
    (done : ∀ (u : Str → Option Value) h tk, Fr h₀ env.locals h (fun y => if y = x then u y else m₀ y) → News h₀ env.locals h news → Q .next { s with heap := h, toks := tk }) :
    wpAny (model prog w) A (pyIter (.ref l)) (fun it s₂ => LoopAtV prog w A h₀ env x body Q E it s₂) E s := by
  refine kst_listL (σ := Unit) (vs := []) (ns := []) (nn := nn) (fun _ => news) (fun _ => []) (fun _ => True) [] (fun _ _ => True) () hh (fun _ => hl) .nil F N trivial (fun _ h => nomatch h) trivial ?_ ?_
  · intro c pre post n t u h tk own e hn
    cases hn
  · intro c u h tk _ _ F' N'
    refine done u h tk ?_ N'
    exact F'

local macro_rules | `(tactic| walk_at "exec For Name Name cons nil") => `(tactic| (k_here; (rename Fr _ _ _ _ => lF'); (with_unfolding_all refine' For_invVF lF' ?k1 ?k2 ?_; (case k1 => exact rfl); (case k2 => exact rfl); k_whole)))
local macro_rules | `(tactic| walk_at "pyIter ref") => `(tactic| (k_here; (with_reducible show wpAny _ _ (pyIter (Value.ref _)) (fun it s₂ => LoopAtV _ _ _ _ _ _ _ _ _ it s₂) _ _); (with_unfolding_all refine' iter_empty ?k1 ?k2 ?k3 ?k4 ?_; (case k1 => exact rfl); (case k3 => k_asm); (case k4 => k_asm); (case k2 => k_mem)); intro u' h' tk' F' N'))

local macro_rules | `(tactic| walk_at "ell eq") => `(tactic| (unfold ellB; first
         | (rw [(by assumption : Txt.startswith _ _ = false)]; rfl)
         | (rw [(by assumption : Txt.startswith _ _ = true), (by assumption : Txt.endswith _ _ = false)]; rfl)
         | (rw [(by assumption : Txt.startswith _ _ = true), (by assumption : Txt.endswith _ _ = true)]; symm; first | exact decide_eq_true (by omega) | exact decide_eq_false (by omega))))
local macro_rules | `(tactic| walk_at "ell news") => `(tactic| first | k_asm | (refine cb_drop (by k_asm) ?_; intro q hq; repeat (first | exact hq | apply List.Mem.tail)))

set_option maxHeartbeats 4000000 in
theorem ell_c {w : World} {mean : ExcName → Option Value} {mg mb : Str → Option Value} {dp un : Nat} {gd : Option (List Code)} {cn : Str} {cs : Scope} {a : Addr} {ccd : Value} {cl : List (Str × Addr)} {outer : List Env} {A₀ : Around} {base h₀ : Heap} {L : Addr} {m : Str → Option Value} {s : Shared} {Q E : Value → Shared → Prop}
    {news : List (Addr × Obj)} {p got : Str} {t0 t1 : Tok} (hp1 : 1 ≤ p.length) (hp8 : p.length ≤ 100) (hpd : NoDots p) (hg8 : got.length ≤ 100)
    (B : Below A₀ base outer h₀) (F : Fr h₀ L s.heap m) (X : (hd.heap_39 w.params).In h₀) (N : News h₀ L s.heap news) (T : Top hd.view_39 (looseW hd.view_39 []) mean mg mb h₀) (hk : cs.kind = .function) (hdp : dp + 1 < recursionLimit) (hun : un + 8 < cLine)
    (hret : ∀ (t : Tok) h' tk', Fr h₀ L h' m → News h₀ L h' news → Q (.bool (ellB p got)) { s with heap := h', toks := tk' }) :
    wpAny (model (RowW.prog Challenge.rw_rl0040_01.row.toRowW) w) (ktrTop dp un gd cn cs L a ccd cl outer) (call (.ref 21) [.str (p ++ Str.ofString "..." ++ p) t0, .str got t1]) Q E s := by
  have kf : (fun (_ : Params → Frag) (_ : OpenLaw) => True) hd.heap_39 PySem.Challenge.rw_rl0040_01 := by k_fill; trivial
  clear kf
  rw [Str.append_assoc]
  k_with_none
  w_on
  refine wpAny_call ?_
  k_dflt cell_enter
  k_steps
  all_goals first
    | (exfalso; have h9 := dots_found hpd; simp_all; done)
    | exact cb_retB hret (by walk_at "ell eq") (by k_asm) (by walk_at "ell news")
    | skip
  all_goals exact cb_retB hret (by walk_at "ell eq") (by k_asm) (by walk_at "ell news")
end

section
open PySem PySem.W PySem.Calls PySem.Spec PyProof.Rows
theorem nf_f {v : Bool} (h : (v != false) = false) : v = false := by cases v <;> first | rfl | cases h
theorem nf_t {v : Bool} (h : (v == true) = true) : v = true := by cases v <;> first | rfl | cases h
theorem nf_no {v : Bool} (h : (v != false) = true) (h' : (v == true) = false) : False := by cases v <;> first | (cases h; done) | (cases h'; done)
local macro_rules | `(tactic| walk_at "call builtin:list.append") => `(tactic| (k_here; (show wpAny _ _ (call (Value.builtin "list.append") [Value.ref _, _]) _ _ _); k_dflt (refine' append_K ?k1 ?k2 ?k3 ?_ ?z; (case k1 => k_asm); (case k2 => k_asm); (case k3 => k_upd); (case z => size_fits); k_whole); intro h' F' N'; (try k_sweep)))
local macro_rules | `(tactic| walk_at "call builtin:list.append") => `(tactic| (exfalso; exact nf_no (by assumption) (by assumption)))

section
open PySem PySem.W PySem.Calls PySem.Spec PyProof.Rows
local macro_rules | `(tactic| walk_at "mine pad") => `(tactic| skip)
theorem ap_t {x : Str} {b v : Bool} {k : Int} (hb : b = true) (h : ellB (Txt.slice x none (some k)) x = v) : apartOk x b k = v := by
  subst hb; exact h
theorem ap_f {x : Str} {b v : Bool} {k : Int} (hb : b = false) (h : ellB (Txt.slice x (some ((x.length : Int) - k)) none) x = v) : apartOk x b k = v := by
  subst hb; exact h

local macro_rules | `(tactic| walk_at "piece len") => `(tactic| first | (rw [slice_to_len (by omega) (by omega)]; omega) | (rw [slice_from_len (by omega) (by omega)]; omega))
local macro_rules | `(tactic| walk_at "piece free") => `(tactic| first | exact noDots_to (by assumption) (by omega) (by omega) | exact noDots_from (by assumption) (by omega) (by omega))
local macro_rules | `(tactic| walk_at "call ref") => `(tactic| (k_here; (with_reducible show wpAny _ _ (call (Value.ref 21) _) _ _ _); k_dflt (refine' ell_c ?p1 ?p2 ?p3 ?p4 ?k1 ?k2 ?k3 ?k4 ?k5 ?kK ?kd ?ku ?_; walk_at "mine prem"; (case p1 => walk_at "piece len"); (case p2 => walk_at "piece len"); (case p3 => walk_at "piece free"); (case p4 => assumption)); intro t9 h9 tk9 F9 N9; (try dsimp only); (try k_fold)))


set_option maxHeartbeats 4000000 in
theorem apart_c {w : World} {mean : ExcName → Option Value} {mg mb : Str → Option Value} {dp un : Nat} {gd : Option (List Code)} {cn : Str} {cs : Scope} {a : Addr} {ccd : Value} {cl : List (Str × Addr)} {outer : List Env} {A₀ : Around} {base h₀ : Heap} {L : Addr} {m : Str → Option Value} {s : Shared} {Q E : Value → Shared → Prop}
    {news : List (Addr × Obj)} {x : Str} {b : Bool} {t0 : Tok} (hx8 : x.length ≤ 100) (hxd : NoDots x)
    (B : Below A₀ base outer h₀) (F : Fr h₀ L s.heap m) (X : (hd.heap_39 w.params).In h₀) (N : News h₀ L s.heap news) (T : Top hd.view_39 (looseW hd.view_39 []) mean mg mb h₀) (hk : cs.kind = .function) (hdp : dp + 3 < recursionLimit) (hun : un + 30 < cLine)
    (hret : ∀ (D : Addr) (vs : List Value) (n : Nat) h' tk', IntsAre vs (apartL x b) → Fr h₀ L h' m → News h₀ L h' ((D, listOf vs.toArray n) :: news) → (∀ q ∈ news, q.1 < D) → Q (.ref D) { s with heap := h', toks := tk' }) :
    wpAny (model (RowW.prog Challenge.rw_rl0040_01.row.toRowW) w) (ktrTop dp un gd cn cs L a ccd cl outer) (call (.ref 54) [.str x t0, .bool b]) Q E s := by
  have kf : (fun (_ : Params → Frag) (_ : OpenLaw) => True) hd.heap_39 PySem.Challenge.rw_rl0040_01 := by k_fill; trivial
  clear kf
  have hI0 : IntsAre [] [] := .nil
  k_with_none
  w_on
  (k_with "state" => first | exact ap_start | exact ap_grow (by assumption) (by assumption) (by first | exact ap_t (by assumption) (nf_t (by assumption)) | exact ap_f (by assumption) (nf_t (by assumption))) | exact ap_same (by assumption) (by assumption) (by first | exact ap_t (by assumption) (nf_f (by assumption)) | exact ap_f (by assumption) (nf_f (by assumption))))
  refine wpAny_call ?_
  k_dflt cell_enter
  walk_at "go pyIter"
  k_state (fun pre sizes => ApInv x b pre sizes ∧ sizes.length ≤ pre.length) "sizes"
  all_goals walk_at "go pyIter"
  (rename ApInv _ _ _ _ => hA)
  unfold ApInv at hA
  subst hA
  exact hret _ _ _ _ _ (by assumption) (by assumption) (by assumption) (by assumption)
end

section
open PySem PySem.W PySem.Calls PySem.Spec PyProof.Rows
set_option maxHeartbeats 4000000 in
theorem sub_c {w : World} {mean : ExcName → Option Value} {mg mb : Str → Option Value} {dp un : Nat} {gd : Option (List Code)} {cn : Str} {cs : Scope} {a : Addr} {ccd : Value} {cl : List (Str × Addr)} {outer : List Env} {A₀ : Around} {base h₀ : Heap} {L : Addr} {m : Str → Option Value} {s : Shared} {Q E : Value → Shared → Prop}
    {news : List (Addr × Obj)} {x y : Str} {t0 t1 : Tok} (hx8 : x.length ≤ 100) (hy8 : y.length ≤ 100)
    (B : Below A₀ base outer h₀) (F : Fr h₀ L s.heap m) (X : (hd.heap_39 w.params).In h₀) (N : News h₀ L s.heap news) (T : Top hd.view_39 (looseW hd.view_39 []) mean mg mb h₀) (hk : cs.kind = .function) (hdp : dp + 1 < recursionLimit) (hun : un + 8 < cLine)
    (hret : ∀ (c : Int) (t : Tok) h' tk', 0 ≤ c → c ≤ 2 → (x ≠ y → 1 ≤ c) → Fr h₀ L h' m → News h₀ L h' news → Q (.int c t) { s with heap := h', toks := tk' }) :
    wpAny (model (RowW.prog Challenge.rw_rl0040_01.row.toRowW) w) (ktrTop dp un gd cn cs L a ccd cl outer) (call (.ref 35) [.str x t0, .str y t1]) Q E s := by
  have kf : (fun (_ : Params → Frag) (_ : OpenLaw) => True) hd.heap_39 PySem.Challenge.rw_rl0040_01 := by k_fill; trivial
  clear kf
  k_with_none
  w_on
  refine wpAny_call ?_
  k_dflt cell_enter
  walk_at "go pyIter"
  all_goals first
    | exact hret _ _ _ _ (by decide) (by decide) (fun h => absurd (eq_of_beq (by assumption)) h) (by k_asm) (by k_asm)
    | exact hret _ _ _ _ (by decide) (by decide) (fun _ => by decide) (by k_asm) (by k_asm)
end

section
open PySem PySem.W PySem.Calls PySem.Spec PyProof.Rows
structure AllPos (ns : List Int) : Prop where
  all : ∀ v ∈ ns, 1 ≤ v
theorem row_ints : ∀ (vs : List Value) (a : Int), 1 ≤ a → (∀ (j : Nat) (v : Value), vs[j]? = some v → ∃ t, v = .int (a + j * 2) t) → ∃ ns, IntsAre vs ns ∧ ns.length = vs.length ∧ AllPos ns
  | [], a, _, _ => ⟨[], .nil, rfl, ⟨fun _ h => nomatch h⟩⟩
  | v :: r, a, ha, h => by
    obtain ⟨t, ht⟩ := h 0 v rfl
    obtain ⟨ns, h1, h2, h3⟩ := row_ints r (a + 2) (by omega) fun j v hj => by
      obtain ⟨t', ht'⟩ := h (j + 1) v hj
      refine ⟨t', ht'.trans ?_⟩
      congr 1
      omega
    subst ht
    refine ⟨_ :: ns, IntsAre.cons _ _ h1, by rw [List.length_cons, List.length_cons, h2], ⟨fun v hv => ?_⟩⟩
    rcases List.mem_cons.mp hv with rfl | hv
    · simp; omega
    · exact h3.all v hv
section
variable {prog : Program} {w : World} {A : Around} {E : Value → Shared → Prop} {s : Shared} {h₀ : Heap} {L r : Addr} {m : Str → Option Value} {news : List (Addr × Obj)} {k : Int} {t₀ u₀ v₀ : Tok} {Q : Value → Shared → Prop}
theorem my_row (hh : A.handled = none) (F : Fr h₀ L s.heap m) (N : News h₀ L s.heap news) (hr : IsRange s.heap r 2 (2 * (k + 1)) 2 t₀ u₀ v₀) (h0 : 0 ≤ k) (h1 : k ≤ 100)
    (h : ∀ D us ns c h' tk, (ns.length : Int) = k → AllPos ns → Fr h₀ L h' m → News h₀ L h' ((D, listOf (List.toArray us) c) :: news) → (∀ p ∈ news, p.1 < D) → IntsAre us ns → Q (.ref D) { s with heap := h', toks := tk }) :
    wpAny (model prog w) A (call (.type "list") [.ref r]) Q E s := by
  have hsz : Builtin.Range.rangeSize 2 (2 * (k + 1)) 2 = (k.toNat : Int) := by
    unfold Builtin.Range.rangeSize
    rw [if_pos (by decide)]
    split <;> omega
  have hsm : Builtin.Range.small 2 (2 * (k + 1)) 2 = true := by
    unfold Builtin.Range.small
    rw [hsz]
    simp only [Builtin.Range.rangeFitsLong, Bool.and_eq_true, Bool.or_eq_true, decide_eq_true_eq, beq_iff_eq, show (2 : Int) > 0 by decide, if_true]
    omega
  refine call_list_range hh hr hsm hsz (by omega) fun h' tk acc c hk hD hI => ?_
  have hD' : h'.get? s.heap.objs.size = some (listOf (List.toArray acc.toList) c) := by
    rw [Array.toArray_toList]
    exact hD
  obtain ⟨ns, i1, i2, i3⟩ := row_ints acc.toList 2 (by decide) fun j v hj => hI.2 j v (by rw [← hj, Array.getElem?_toList])
  exact h _ acc.toList ns c h' tk (by rw [i2, Array.length_toList, hI.1]; omega) i3 (F.keeps hk) (news_pushed F N hk hD' rfl) (fun p hp => Heap.lt_size (N p hp).1) i1
end
theorem getD_pos {row : List Int} (hp : AllPos row) {i : Nat} (hi : i < row.length) : 1 ≤ row.getD i 0 := by
  rw [List.getD_eq_getElem?_getD, List.getElem?_eq_getElem hi]
  exact hp.all _ (List.getElem_mem hi)
theorem set_pos {row : List Int} (hp : AllPos row) {i : Nat} {R : Int} (hR : 1 ≤ R) : AllPos (row.set i R) := by
  refine ⟨fun v hv => ?_⟩
  rcases List.mem_or_eq_of_mem_set hv with h | h
  · exact hp.all v h
  · omega
theorem lev_turn {a b : Str} {pre row : List Int} {k d r mn c R mn' : Int} (hm : HeadNe a b) (hk : k = 0 + (pre.length : Int)) (hlt : pre.length < ((a.length : Int) - 0).toNat) (hl : (row.length : Int) = a.length) (hp : AllPos row) (hmn : 1 ≤ mn) (hr : 0 ≤ r) (hd : 0 ≤ d) (hor : pre = [] ∨ 1 ≤ d) (hc : 0 ≤ c) (hne : Txt.item b 0 ≠ Txt.item a k → 1 ≤ c)
    (hR : R = if d + c < (if row.getD k.toNat 0 < r then row.getD k.toNat 0 else r) + 2 then d + c else (if row.getD k.toNat 0 < r then row.getD k.toNat 0 else r) + 2) (hM : mn' = R ∨ mn' = mn) :
    ((row.set k.toNat R).length : Int) = a.length ∧ AllPos (row.set k.toNat R) ∧ 1 ≤ mn' ∧ 0 ≤ R ∧ 0 ≤ row.getD k.toNat 0 ∧ (pre ++ [k] = [] ∨ 1 ≤ row.getD k.toNat 0) := by
  have h1 : 1 ≤ row.getD k.toNat 0 := getD_pos hp (by omega)
  have h2 : 1 ≤ d + c := by
    rcases hor with rfl | h
    · have e : k = 0 := by rw [hk]; rfl
      subst e
      have := hne (fun e => by have h := hm.ne; rw [e] at h; simp at h)
      omega
    · omega
  have h3 : 1 ≤ R := by
    rw [hR]
    split <;> (try split) <;> omega
  refine ⟨by rw [List.length_set]; exact hl, set_pos hp h3, ?_, by omega, by omega, .inr h1⟩
  rcases hM with rfl | rfl <;> assumption
end

section
open PySem PySem.W PySem.Calls PySem.Spec PyProof.Rows
section
variable {prog : Program} {w : World} {A : Around} {E : Value → Shared → Prop} {s : Shared} {value slice : PySem.Expr} {x : Str} {t : Tok} {h₀ : Heap} {L : Addr} {m : Str → Option Value} {news : List (Addr × Obj)} {Q : Value → Shared → Prop}
theorem my_slice_nn (hF : Fr h₀ L s.heap m) (hN : News h₀ L s.heap news) (hsz : x.length ≤ 100) (h : ∀ h' t' k, Fr h₀ L h' m → News h₀ L h' news → Q (.str x t') { s with heap := h', toks := k })
    (hs : subscripted slice false (.str x t) (.ref s.heap.objs.size) = operate [.ref s.heap.objs.size, .str x t] (getItem (.str x t) (.ref s.heap.objs.size)) := by with_unfolding_all rfl)
    (ht : ∀ r, letTemporaryGo value (.str x t) r = pure () := by intro _; with_unfolding_all rfl) :
    wpAny (model prog w) A (subscriptTail value slice (.str x t) (.ref s.heap.objs.size)) Q E { s with heap := s.heap.push { cls := .type "slice", data := .fields #[.none, .none, .none] } } := by
  refine slice_strN_nn hF hN ?_ hs ht (by rw [sizeLine_eq]; omega)
  rw [slice_nn]
  exact h
theorem my_slice_neg {j : Int} {uj : Tok} (hF : Fr h₀ L s.heap m) (hN : News h₀ L s.heap news) (hsz : x.length ≤ 100) (h0 : j < 0) (h1 : -(x.length : Int) < j)
    (h : ∀ z h' t' k, (z.length : Int) = x.length + j → SameHead z x → Fr h₀ L h' m → News h₀ L h' news → Q (.str z t') { s with heap := h', toks := k })
    (hs : subscripted slice false (.str x t) (.ref s.heap.objs.size) = operate [.ref s.heap.objs.size, .str x t] (getItem (.str x t) (.ref s.heap.objs.size)) := by with_unfolding_all rfl)
    (ht : ∀ r, letTemporaryGo value (.str x t) r = pure () := by intro _; with_unfolding_all rfl) :
    wpAny (model prog w) A (subscriptTail value slice (.str x t) (.ref s.heap.objs.size)) Q E { s with heap := s.heap.push { cls := .type "slice", data := .fields #[.none, .int j uj, .none] } } :=
  slice_strN_ns hF hN (fun h' t' k a b => h _ h' t' k (slice_neg_len h0 h1) ⟨slice_neg_item h0 h1⟩ a b) hs ht (by rw [sizeLine_eq]; omega)
theorem my_slice_from {i : Int} {ui : Tok} (hF : Fr h₀ L s.heap m) (hN : News h₀ L s.heap news) (hsz : x.length ≤ 100) (h0 : 0 ≤ i) (h1 : i ≤ x.length)
    (h : ∀ z h' t' k, (z.length : Int) = x.length - i → IsSuf z x i → Fr h₀ L h' m → News h₀ L h' news → Q (.str z t') { s with heap := h', toks := k })
    (hs : subscripted slice false (.str x t) (.ref s.heap.objs.size) = operate [.ref s.heap.objs.size, .str x t] (getItem (.str x t) (.ref s.heap.objs.size)) := by with_unfolding_all rfl)
    (ht : ∀ r, letTemporaryGo value (.str x t) r = pure () := by intro _; with_unfolding_all rfl) :
    wpAny (model prog w) A (subscriptTail value slice (.str x t) (.ref s.heap.objs.size)) Q E { s with heap := s.heap.push { cls := .type "slice", data := .fields #[.int i ui, .none, .none] } } :=
  slice_strN_sn hF hN (fun h' t' k a b => h _ h' t' k (suf_len h0 h1) ⟨rfl⟩ a b) hs ht (by rw [sizeLine_eq]; omega)
end
local macro_rules | `(tactic| walk_at "subscriptTail Name Slice str ref") => `(tactic| ((with_reducible show wpAny _ _ (subscriptTail _ (Expr.Slice (some (Expr.Name _ _)) none none _) (Value.str _ _) (Value.ref _)) _ _ _); (with_reducible rename Fr _ _ _ _ => F'); (with_reducible rename News _ _ _ _ => N'); (refine my_slice_from (s := ⟨_, _, _, _, _⟩) F' N' (by omega) (by omega) (by omega) ?_; intro z' h' t' k' z1 z2 F' N')))
local macro_rules | `(tactic| walk_at "subscriptTail Name Slice str ref") => `(tactic| ((with_reducible show wpAny _ _ (subscriptTail _ (Expr.Slice none (some (Expr.BoolOp _ _ _)) none _) (Value.str _ _) (Value.ref _)) _ _ _); (with_reducible rename Fr _ _ _ _ => F'); (with_reducible rename News _ _ _ _ => N'); (first
  | (refine my_slice_nn (s := ⟨_, _, _, _, _⟩) F' N' (by omega) ?_; intro h' t' k' F' N')
  | (refine my_slice_neg (s := ⟨_, _, _, _, _⟩) F' N' (by omega) (by omega) (by omega) ?_; intro z' h' t' k' z1 z2 F' N'))))

local macro_rules | `(tactic| walk_at "ite") => `(tactic| ((with_reducible show if (Txt.item _ _ == Txt.item _ _) = true then _ else _); refine split_bool ?_ ?_ <;> intro _))
local macro_rules | `(tactic| walk_at "ite") => `(tactic| ((with_reducible show if ((_ : Int) != 0) = true then _ else _); first | refine ite_pos (bne_t (by omega)) ?_ | refine ite_neg (bne_f (by omega)) ?_))
local macro_rules | `(tactic| walk_at "call ref") => `(tactic| (k_here; (with_reducible show wpAny _ _ (call (Value.ref 35) _) _ _ _); k_dflt (refine' sub_c ?p1 ?p2 ?k1 ?k2 ?k3 ?k4 ?k5 ?kK ?kd ?ku ?_; walk_at "mine prem"; (case p1 => omega); (case p2 => omega)); intro c9 t9 h9 tk9 c0 c2 c1 F9 N9; (try dsimp only); (try k_fold)))
local macro_rules | `(tactic| walk_at "InvEndN") => `(tactic| ((rename News _ _ _ _ => nE'); (try simp only [List.push_toArray] at nE'); (refine kst_end ⟨_, _, _, _, _, _, _, _, _⟩ (by assumption) nE' (by kst_inAny) (by first | (intro p hp; kst_mem) | kst_anyIn) (by rfl) (by kst_facts) (by kst_all) (by kst_same) (by kst_p))))
local macro_rules | `(tactic| walk_at "call type:list") => `(tactic| (k_here; (with_reducible show wpAny _ _ (call (Value.type "list") [Value.ref _]) _ _ _); (rename IsRange _ _ _ _ _ _ _ _ => rgX); (with_unfolding_all refine' my_row ?k0 ?k1 ?k2 ?k3 ?k4 ?k5 ?_; (case k0 => rfl); (case k1 => k_asm); (case k2 => k_asm); (case k3 => exact rgX); (case k4 => omega); (case k5 => omega)); intro D' us' ns' c' h' tk' e' p' F' N' l1 hI'; (try k_lt l1); (try k_sweep)))

set_option maxHeartbeats 8000000 in
theorem lev_c {w : World} {mean : ExcName → Option Value} {mg mb : Str → Option Value} {dp un : Nat} {gd : Option (List Code)} {cn : Str} {cs : Scope} {a : Addr} {ccd : Value} {cl : List (Str × Addr)} {outer : List Env} {A₀ : Around} {base h₀ : Heap} {L : Addr} {m : Str → Option Value} {s : Shared} {Q E : Value → Shared → Prop}
    {news : List (Addr × Obj)} {x y : Str} {t0 t1 t2 : Tok} (hx8 : x.length ≤ 30) (hxy : x.length = y.length)
    (B : Below A₀ base outer h₀) (F : Fr h₀ L s.heap m) (X : (hd.heap_39 w.params).In h₀) (N : News h₀ L s.heap news) (T : Top hd.view_39 (looseW hd.view_39 []) mean mg mb h₀) (hk : cs.kind = .function) (hdp : dp + 3 < recursionLimit) (hun : un + 30 < cLine)
    (hret : ∀ (t : Tok) h' tk', Fr h₀ L h' m → News h₀ L h' news → Q (.int (if x = y then 0 else 1) t) { s with heap := h', toks := tk' }) :
    wpAny (model (RowW.prog Challenge.rw_rl0040_01.row.toRowW) w) (ktrTop dp un gd cn cs L a ccd cl outer) (call (.ref 42) [.str x t0, .str y t1, .int 0 t2]) Q E s := by
  have kf : (fun (_ : Params → Frag) (_ : OpenLaw) => True) hd.heap_39 PySem.Challenge.rw_rl0040_01 := by k_fill; trivial
  clear kf
  have hI0 : IntsAre [] [] := .nil
  k_with_none
  w_on
  refine wpAny_call ?_
  k_dflt cell_enter
  walk_at "go exec While"
  · (rename (x == y) = true => hE)
    rw [if_pos (eq_of_beq hE)] at hret
    exact hret _ _ _ (by k_asm) (by k_asm)
  (rename (x == y) = false => hE)
  rw [if_neg (fun h => by rw [h] at hE; simp at hE)] at hret
  (k_with "state" => first | exact pre_step hxy hE (by omega) (by omega) (by with_reducible assumption) (by with_reducible assumption) | exact pre_start hxy hE)
  k_while (fun _ i => 0 ≤ i ∧ i < (x.length : Int) ∧ PreEq x y i) (fun _ i => x.length - i.toNat) "pre"
  walk_at "go exec While"
  all_goals (try (exfalso; omega))
  have hm2 := suf_head (by with_reducible assumption) (by with_reducible assumption) hxy (by omega) (by omega) (by with_reducible assumption)
  (rename PreEq x y _ => hP)
  clear hP
  k_with_none
  (k_with "state" => first | exact post_step (by omega) hm2.ne (by omega) (by omega) (by with_reducible assumption) | omega)
  k_while_given ["a", "b"] (fun a b _ j => -(a.length : Int) < j ∧ j ≤ 0) (fun a b _ j => (a.length + j).toNat) "post"
  walk_at "go call type:list"
  all_goals (first | have hm3 := HeadNe.same hm2 (by with_reducible assumption) (by with_reducible assumption) | have hm3 := hm2)
  all_goals (repeat ((rename (_ ∧ _) => hq); clear hq))
  all_goals (walk_at "go pyIter")
  all_goals (repeat ((rename IsRange _ _ 2 _ _ _ _ _ => hq); clear hq))
  all_goals (focus
    (k_with_none)
    (k_with "state" => exact rfl)
    k_state (fun pre _ => pre = []) "result"
    rotate_left
    · exfalso
      have hq := congrArg List.length kInv
      rw [rangeKs_length, List.length_nil] at hq
      omega
    subst kInv
    have kN0 : kN = 0 := by rw [kEq]; rfl
    subst kN0
    walk_at "go pyIter"
    (k_with_none)
    (k_with "state" => first
      | exact lev_turn hm3 kEq kLt (by with_reducible assumption) (by with_reducible assumption) (by with_reducible assumption) (by with_reducible assumption) (by with_reducible assumption) (by with_reducible assumption) (by with_reducible assumption) (by with_reducible assumption) rfl (.inl rfl)
      | exact lev_turn hm3 kEq kLt (by with_reducible assumption) (by with_reducible assumption) (by with_reducible assumption) (by with_reducible assumption) (by with_reducible assumption) (by with_reducible assumption) (by with_reducible assumption) (by with_reducible assumption) rfl (.inr rfl)
      | exact ⟨by with_reducible assumption, by with_reducible assumption, by decide, by decide, by decide, .inl rfl⟩)
    k_state_given ["a"] (fun a pre d r mn row => (row.length : Int) = a.length ∧ AllPos row ∧ 1 ≤ mn ∧ 0 ≤ r ∧ 0 ≤ d ∧ (pre = [] ∨ 1 ≤ d)) "distance" "result" "minimum" "row"
    all_goals walk_at "go pyIter"
    all_goals exact cb_retI hret rfl (by k_asm) (by refine cb_drop (by k_asm) ?_; intro q hq; exact List.Mem.tail _ (List.mem_append.mpr (.inl hq))))
end

section
open PySem PySem.W PySem.Calls PySem.Spec PyProof.Rows
set_option maxHeartbeats 4000000 in
theorem iseof_c {w : World} {mean : ExcName → Option Value} {mg mb : Str → Option Value} {dp un : Nat} {gd : Option (List Code)} {cn : Str} {cs : Scope} {a : Addr} {ccd : Value} {cl : List (Str × Addr)} {outer : List Env} {A₀ : Around} {base h₀ : Heap} {L : Addr} {m : Str → Option Value} {s : Shared} {Q E : Value → Shared → Prop}
    {news : List (Addr × Obj)} {c : Int} {t0 : Tok}
    (B : Below A₀ base outer h₀) (F : Fr h₀ L s.heap m) (X : (hd.heap_39 w.params).In h₀) (N : News h₀ L s.heap news) (T : Top hd.view_39 (looseW hd.view_39 []) mean mg mb h₀) (hk : cs.kind = .function) (hdp : dp + 1 < recursionLimit) (hun : un + 8 < cLine)
    (hret : ∀ (t : Tok) h' tk', Fr h₀ L h' m → News h₀ L h' news → Q (.bool (c == 0)) { s with heap := h', toks := tk' }) :
    wpAny (model (RowW.prog Challenge.rw_rl0040_01.row.toRowW) w) (ktrTop dp un gd cn cs L a ccd cl outer) (call (.ref 28) [.int c t0]) Q E s := by
  have kf : (fun (_ : Params → Frag) (_ : OpenLaw) => True) hd.heap_39 PySem.Challenge.rw_rl0040_01 := by k_fill; trivial
  clear kf
  k_with_none
  w_on
  refine wpAny_call ?_
  k_dflt cell_enter
  walk_at "go pyIter"
  exact cb_retB hret rfl (by k_asm) (by k_asm)
end

section
open PySem PySem.W PySem.Calls PySem.Spec PyProof.Rows
def borderOk (x : Str) (k : Int) : Bool := decide (Txt.slice x none (some k) = Txt.slice x (some ((x.length : Int) - k)) none)
def borderL (x : Str) : List Int := (rangeKs 1 ((x.length : Int) - 1).toNat).filter (borderOk x)
def BoInv (x : Str) (pre sizes : List Int) : Prop := sizes = pre.filter (borderOk x)
theorem bo_start {x : Str} : BoInv x [] [] ∧ ([] : List Int).length ≤ ([] : List Int).length := ⟨rfl, Nat.le_refl _⟩
theorem bo_grow {x : Str} {pre sizes : List Int} {k : Int} (h : BoInv x pre sizes) (hl : sizes.length ≤ pre.length) (hk : borderOk x k = true) : BoInv x (pre ++ [k]) (sizes ++ [k]) ∧ (sizes ++ [k]).length ≤ (pre ++ [k]).length := by
  refine ⟨?_, by simp only [List.length_append, List.length_cons, List.length_nil]; omega⟩
  unfold BoInv at *
  rw [List.filter_append, h, List.filter_cons_of_pos hk, List.filter_nil]
theorem bo_same {x : Str} {pre sizes : List Int} {k : Int} (h : BoInv x pre sizes) (hl : sizes.length ≤ pre.length) (hk : borderOk x k = false) : BoInv x (pre ++ [k]) sizes ∧ sizes.length ≤ (pre ++ [k]).length := by
  refine ⟨?_, by simp only [List.length_append, List.length_cons, List.length_nil]; omega⟩
  unfold BoInv at *
  rw [List.filter_append, h, List.filter_cons_of_neg (by simp [hk]), List.filter_nil, List.append_nil]
theorem bo_is {x : Str} {k : Int} {v : Bool} (h : ((if Txt.slice x none (some k) = Txt.slice x (some ((x.length : Int) - k)) none then (0 : Int) else 1) == 0) = v) : borderOk x k = v := by
  subst h
  unfold borderOk
  split <;> simp_all

local macro_rules | `(tactic| walk_at "call ref") => `(tactic| (k_here; (with_reducible show wpAny _ _ (call (Value.ref 42) _) _ _ _); k_dflt (refine' lev_c ?p1 ?p2 ?k1 ?k2 ?k3 ?k4 ?k5 ?kK ?kd ?ku ?_; walk_at "mine prem"; (case p1 => (rw [slice_to_len (by omega) (by omega)]; omega)); (case p2 => (rw [slice_to_len (by omega) (by omega), slice_from_len (by omega) (by omega)]; omega))); intro t9 h9 tk9 F9 N9; (try dsimp only); (try k_fold)))
local macro_rules | `(tactic| walk_at "call ref") => `(tactic| (k_here; (with_reducible show wpAny _ _ (call (Value.ref 28) _) _ _ _); k_dflt (refine' iseof_c ?k1 ?k2 ?k3 ?k4 ?k5 ?kK ?kd ?ku ?_; walk_at "mine prem"); intro t9 h9 tk9 F9 N9; (try dsimp only); (try k_fold)))

set_option maxHeartbeats 4000000 in
theorem border_c {w : World} {mean : ExcName → Option Value} {mg mb : Str → Option Value} {dp un : Nat} {gd : Option (List Code)} {cn : Str} {cs : Scope} {a : Addr} {ccd : Value} {cl : List (Str × Addr)} {outer : List Env} {A₀ : Around} {base h₀ : Heap} {L : Addr} {m : Str → Option Value} {s : Shared} {Q E : Value → Shared → Prop}
    {news : List (Addr × Obj)} {x : Str} {t0 : Tok} (hx8 : x.length ≤ 30)
    (B : Below A₀ base outer h₀) (F : Fr h₀ L s.heap m) (X : (hd.heap_39 w.params).In h₀) (N : News h₀ L s.heap news) (T : Top hd.view_39 (looseW hd.view_39 []) mean mg mb h₀) (hk : cs.kind = .function) (hdp : dp + 5 < recursionLimit) (hun : un + 60 < cLine)
    (hret : ∀ (D : Addr) (vs : List Value) (n : Nat) h' tk', IntsAre vs (borderL x) → Fr h₀ L h' m → News h₀ L h' ((D, listOf vs.toArray n) :: news) → (∀ q ∈ news, q.1 < D) → Q (.ref D) { s with heap := h', toks := tk' }) :
    wpAny (model (RowW.prog Challenge.rw_rl0040_01.row.toRowW) w) (ktrTop dp un gd cn cs L a ccd cl outer) (call (.ref 61) [.str x t0]) Q E s := by
  have kf : (fun (_ : Params → Frag) (_ : OpenLaw) => True) hd.heap_39 PySem.Challenge.rw_rl0040_01 := by k_fill; trivial
  clear kf
  have hI0 : IntsAre [] [] := .nil
  k_with_none
  w_on
  refine wpAny_call ?_
  k_dflt cell_enter
  walk_at "go pyIter"
  (k_with "state" => first | exact bo_grow (by with_reducible assumption) (by with_reducible assumption) (bo_is (nf_t (by with_reducible assumption))) | exact bo_same (by with_reducible assumption) (by with_reducible assumption) (bo_is (nf_f (by with_reducible assumption))) | exact bo_start)
  k_state (fun pre sizes => BoInv x pre sizes ∧ sizes.length ≤ pre.length) "sizes"
  all_goals walk_at "go pyIter"
  (rename BoInv _ _ _ => hA)
  unfold BoInv at hA
  subst hA
  exact hret _ _ _ _ _ (by assumption) (by assumption) (by assumption) (by assumption)
end

end

section
open PySem PySem.W PySem.Calls PySem.Spec PyProof.Rows
theorem pow3_ne (m : Nat) : (3 : Int) ^ m ≠ 0 := Int.pow_ne_zero (by decide)
theorem pow3_py {m : Nat} (h : m ≤ 5) : ((3 : Int) ^ m).natAbs.log2 < 9000 := by
  match m, h with
  | 0, _ => decide +kernel
  | 1, _ => decide +kernel
  | 2, _ => decide +kernel
  | 3, _ => decide +kernel
  | 4, _ => decide +kernel
  | 5, _ => decide +kernel
theorem fm3 (k : Int) : (k.fmod (3 + 0)).toNat ≤ 5 := by
  have := Int.fmod_lt_of_pos k (b := 3 + 0) (by decide)
  omega
theorem fm4 (k : Int) : (k.fmod (3 + 1)).toNat ≤ 5 := by
  have := Int.fmod_lt_of_pos k (b := 3 + 1) (by decide)
  omega
theorem fmod2 (n : Int) : n.fmod 2 = 0 ∨ n.fmod 2 = 1 := by
  rw [Int.fmod_eq_emod_of_nonneg n (by decide)]; omega
theorem fm34 (k n : Int) : (k.fmod (3 + n.fmod 2)).toNat ≤ 5 := by
  rcases fmod2 n with h | h <;> rw [h]
  · exact fm3 k
  · exact fm4 k
structure Digits (n0 sz : Int) (L : List Int) : Prop where
  eq : L = (rangeKs 0 8).map fun k => (n0.fdiv (3 ^ (k.fmod sz).toNat)).fmod 3
theorem Digits.bound {n0 sz : Int} {L : List Int} (h : Digits n0 sz L) : ∀ v ∈ L, 0 ≤ v ∧ v < 3 := by
  intro v hv
  rw [h.eq] at hv
  obtain ⟨k, _, rfl⟩ := List.mem_map.mp hv
  exact ⟨Int.fmod_nonneg_of_pos _ (by decide), Int.fmod_lt_of_pos _ (by decide)⟩
theorem digits_of {ys : List Value} {n0 sz : Int} (h : IntsAre ys ((rangeKs 0 (8 - 0 : Int).toNat).map fun k => (n0.fdiv (3 ^ (k.fmod sz).toNat)).fmod 3)) : ∃ L, IntsAre ys L ∧ L.length = 8 ∧ ys.length = 8 ∧ Digits n0 sz L := by
  refine ⟨_, h, ?_, ?_, ⟨rfl⟩⟩
  · rw [List.length_map, rangeKs_length]; rfl
  · rw [h.length, List.length_map, rangeKs_length]; rfl
structure Bound3 (L : List Int) : Prop where
  all : ∀ v ∈ L, 0 ≤ v ∧ v < 3
theorem Bound3.set {L : List Int} (h : Bound3 L) {i : Nat} {a : Int} : Bound3 (L.set i (a.fmod 3)) := by
  refine ⟨fun v hv => ?_⟩
  rcases List.mem_or_eq_of_mem_set hv with h' | h'
  · exact h.all v h'
  · rw [h']; exact ⟨Int.fmod_nonneg_of_pos _ (by decide), Int.fmod_lt_of_pos _ (by decide)⟩
theorem three_of {ns : List Int} (h : ns.length = 3) : ∃ n0 n1 n2, ns = [n0, n1, n2] := by
  match ns, h with
  | [a, b, c], _ => exact ⟨a, b, c, rfl⟩
theorem ints_three {vs : List Value} {a b c : Int} (h : IntsAre vs [a, b, c]) : ∃ t0 t1 t2, vs = [.int a t0, .int b t1, .int c t2] := by
  cases h with
  | cons _ t0 h => cases h with
    | cons _ t1 h => cases h with
      | cons _ t2 h => cases h with
        | nil => exact ⟨_, _, _, rfl⟩
structure WordL (n0 n1 n2 : Int) (L2 : List Int) : Prop where
  is : ∃ L, Digits n0 (3 + n2.fmod 2) L ∧ L2 = if n1.fmod 9 < 8 then L.set (n1.fmod 9).toNat ((L.getD (n1.fmod 9).toNat 0 + 1 + (n1.fdiv 9).fmod 2).fmod 3) else L
def wordText (L : List Int) : Str := Txt.join (Str.ofString "") (L.map fun k => Txt.item (Str.ofString "aAb") k)
def IsWord (W : Str) : Prop := ∃ n0 n1 n2 L, WordL n0 n1 n2 L ∧ W = wordText L
theorem wordL_set {n0 n1 n2 : Int} {L : List Int} (h : Digits n0 (3 + n2.fmod 2) L) (hp : n1.fmod 9 < 8) : WordL n0 n1 n2 (L.set (n1.fmod 9).toNat ((L.getD (n1.fmod 9).toNat 0 + 1 + (n1.fdiv 9).fmod 2).fmod 3)) := ⟨L, h, by rw [if_pos hp]⟩
theorem wordL_same {n0 n1 n2 : Int} {L : List Int} (h : Digits n0 (3 + n2.fmod 2) L) (hp : ¬ n1.fmod 9 < 8) : WordL n0 n1 n2 L := ⟨L, h, by rw [if_neg hp]⟩
section
variable {prog : Program} {w : World} {A : Around} {E : Value → Shared → Prop} {s : Shared} {env : Env} {h₀ : Heap} {x : Str} {body : List Stmt} {Q : Flow → Shared → Prop}
theorem loop3 {r D : Addr} {b₀ : Int} {t₀ u₀ v₀ : Tok} {n : Nat} {vs₀ : List Value} {ns₀ : List Int} {c₀ : Nat} {rest : List (Addr × Obj)} {m₀ : Str → Option Value}
    (hh : A.handled = none) (hr : IsRange s.heap r 0 b₀ 1 t₀ u₀ v₀) (hsmall : Builtin.Range.small 0 b₀ 1 = true) (hn : Builtin.Range.rangeSize 0 b₀ 1 = (n : Int)) (F : Fr h₀ env.locals s.heap m₀) (N : News h₀ env.locals s.heap ((D, listOf vs₀.toArray c₀) :: rest)) (hi : IntsAre vs₀ ns₀) (hl : ns₀.length = 3)
    (turn : ∀ (vs : List Value) (ns : List Int) (c : Nat) (pre : List Int) (k : Int) t h tk own, k = 0 + (pre.length : Int) → pre.length < n → OwnOff own (D :: rest.map (·.1)) → IntsAre vs ns → ns.length = 3 →
      Fr h₀ env.locals h (fun y => if y = x then some (.int k t) else m₀ y) → News h₀ env.locals h ((D, listOf vs.toArray c) :: (rest ++ own)) →
      wpAny (model prog w) A (execs body env) (InvPostN h₀ env.locals (KstS (fun c : List Value × List Int × Nat => (D, listOf c.1.toArray c.2.2) :: rest) (fun _ => []) (fun c => IntsAre c.1 c.2.1) x [] m₀ (fun _ c => c.2.1.length = 3) (pre ++ [k])) own (D :: rest.map (·.1)) { s with heap := h, toks := tk } Q) E { s with heap := h, toks := tk })
    (done : ∀ (vs : List Value) (ns : List Int) (c : Nat) (u : Str → Option Value) h tk, IntsAre vs ns → ns.length = 3 → Fr h₀ env.locals h (fun y => if y = x then u y else m₀ y) → News h₀ env.locals h ((D, listOf vs.toArray c) :: rest) → Q .next { s with heap := h, toks := tk }) :
    wpAny (model prog w) A (pyIter (.ref r)) (fun it s₂ => LoopAtV prog w A h₀ env x body Q E it s₂) E s := by
  refine kst_range (σ := List Value × List Int × Nat) (fun c => (D, listOf c.1.toArray c.2.2) :: rest) (fun _ => []) (fun c => IntsAre c.1 c.2.1) [] (fun _ c => c.2.1.length = 3) (vs₀, ns₀, c₀) hh hr hsmall hn F N hi (fun _ h => nomatch h) hl ?_ ?_
  · intro c pre k t u h tk own e hlt ho hf hp F' N'
    exact turn c.1 c.2.1 c.2.2 pre k t h tk own e hlt ho hf hp F' N'
  · intro c u h tk hf hp F' N'
    exact done c.1 c.2.1 c.2.2 u h tk hf hp F' N'
end

local macro_rules | `(tactic| walk_at "binaryOp FloorDiv int int") => `(tactic| ((with_reducible show wpAny _ _ (binaryOp Operator.FloorDiv (Value.int _ _) (Value.int (3 ^ _) _)) _ _ _); refine floordiv_int (pow3_ne _) ?_ (Or.inl (PyProof.noPylong_of_log2 (pow3_py (by first | exact fm34 _ _ | exact fm3 _ | exact fm4 _))))))
section
variable {prog : Program} {w : World} {A : Around} {E : Value → Shared → Prop} {s : Shared} {value slice : PySem.Expr} {t u : Tok} {i : Int} {L : List Int} {Q : Value → Shared → Prop}
theorem my_item (hk : i ∈ L) (hb : Bound3 L) (h : Q (.str (Txt.item (Str.ofString "aAb") i) s.toks) { s with toks := s.toks + 1 })
    (hs : subscripted slice false (.str (Str.ofString "aAb") t) (.int i u) = operate [.int i u, .str (Str.ofString "aAb") t] (getItem (.str (Str.ofString "aAb") t) (.int i u)) := by with_unfolding_all rfl)
    (ht : ∀ r, letTemporaryGo value (.str (Str.ofString "aAb") t) r = pure () := by intro _; with_unfolding_all rfl) :
    wpAny (model prog w) A (subscriptTail value slice (.str (Str.ofString "aAb") t) (.int i u)) Q E s := by
  have h3 : (Str.ofString "aAb").length = 3 := by decide +kernel
  have hi := hb.all i hk
  exact tail_of_ItemOn (SBL.item (by omega) (by omega) (by omega) fun _ => h) hs ht
end
local macro_rules | `(tactic| walk_at "subscriptTail Constant str Name str int") => `(tactic| ((with_reducible show wpAny _ _ (subscriptTail _ _ (Value.str (Str.ofString "aAb") _) (Value.int _ _)) _ _ _); refine my_item (by with_reducible assumption) (by with_reducible assumption) ?_))
local macro_rules | `(tactic| walk_at "call builtin:str.join") => `(tactic| (k_here; (show wpAny _ _ (call (Value.builtin "str.join") [Value.str (Str.ofString "") _, Value.ref _]) _ _ _); (with_reducible rename CarriedAll _ (List.map _ _) => ktC); (refine KT.join_1 (by exact News.isList (by k_asm) (by k_mem)) ktC (by intro ktA ktM; rfl) (by first | omega | (rw [List.length_set]; omega)) ?_; intro tJ kJ ktE)))
local macro_rules | `(tactic| walk_at "eval ListComp") => `(tactic| (k_here; k_dflt (refine LCg.ListComp_U (F₀ := by k_asm) (by with_unfolding_all rfl) (by decide) (by rfl) (by decide) (by rfl) ?_)))
local macro_rules | `(tactic| walk_at "CompSrc") => `(tactic| (k_here; k_dflt (refine LCg.CompSrc.ledger (by rfl) (by k_asm) (by k_asm) (by k_mem) (by rw [List.size_toArray, sizeLine_eq]; (try rw [List.length_set]); omega) ?_; intro g'; (refine' kct_list (fun k => Txt.item (Str.ofString "aAb") k) (by with_reducible assumption) (fun k' t' I' oI' C' oC' D' m' ys' h' tk' E' hk' hC' hx' F' N' off' ne' => ?_) ?_); (all_goals (try (simp only [LCg.Off3, and_true] at off'))); (all_goals (try ((show KPfMark → _); intro hMark'))); kcf_last)))

set_option maxHeartbeats 4000000 in
theorem word_c {w : World} {mean : ExcName → Option Value} {mg mb : Str → Option Value} {dp un : Nat} {gd : Option (List Code)} {cn : Str} {cs : Scope} {a : Addr} {ccd : Value} {cl : List (Str × Addr)} {outer : List Env} {A₀ : Around} {base h₀ : Heap} {L : Addr} {m : Str → Option Value} {s : Shared} {Q E : Value → Shared → Prop}
    {d0 : Addr} {o0 : Obj} {l : Addr} {vs : List Value} {ns : List Int} (hl : base.IsList l vs.toArray) (hi : IntsAre vs ns) (hn : ns.length ≤ 63)
    (B : Below A₀ base outer h₀) (F : Fr h₀ L s.heap m) (X : (hd.heap_39 w.params).In h₀) (N : News h₀ L s.heap [(d0, o0)]) (T : Top hd.view_39 (looseW hd.view_39 []) mean mg mb h₀) (hk : cs.kind = .function) (hdp : dp + 3 < recursionLimit) (hun : un + 30 < cLine)
    (hret : ∀ (W : Str) (t : Tok) h' tk', IsWord W → Fr h₀ L h' m → News h₀ L h' [(d0, o0)] → Q (.str W t) { s with heap := h', toks := tk' }) :
    wpAny (model (RowW.prog Challenge.rw_rl0040_01.row.toRowW) w) (ktrTop dp un gd cn cs L a ccd cl outer) (call (.ref 47) [.ref l]) Q E s := by
  have kf : (fun (_ : Params → Frag) (_ : OpenLaw) => True) hd.heap_39 PySem.Challenge.rw_rl0040_01 := by k_fill; trivial
  clear kf
  k_with_none
  w_on
  refine wpAny_call ?_
  k_dflt (refine' code_defC ?k1 ?k2 ?k3 ?k4 ?k5 ?kA ?kF ?kK ?k6 ?k7 ?k8 ?k9 ?kB ?kD ?_ ?c2 ?c3 ?c4; (case kA => exact rfl); (case kF => exact rfl); (case kK => assumption); (case k1 => k_asm); (case k2 => k_asm); (case k3 => k_asm); (case k4 => k_asm); (case k5 => k_asm); (case k6 => k_is); (case k7 => k_is); (case k8 => ktr_room); (case k9 => exact BindsTo.of_eq rfl); (case kB => exact rfl); (case kD => decide +kernel); (case c2 => exact rfl); (case c3 => exact rfl); (case c4 => exact rfl); k_whole; intro g' L' h' tk' cells' FG' F' N' Y' B' X' T' l1; (try k_lt l1); k_cells Y'; (try simp only [List.cons_append, List.nil_append] at N'); (try dsimp only); (try k_lift B'); (try k_fold))
  walk_at "go pyIter"
  (rename IsRange _ _ _ _ _ _ _ _ => rgX)
  (rename Fr _ _ _ _ => lF')
  (rename News _ _ _ _ => lN')
  (with_unfolding_all refine' loop3 ?k1 rgX ?k2 ?k3 lF' lN' ?k4 ?k5 ?_ ?_)
  case k1 => rfl
  case k2 => exact small_one (by omega) (by omega) (by omega) (by omega)
  case k3 => exact rangeSize_nat _ _
  case k4 => exact .cons _ _ (.cons _ _ (.cons _ _ .nil))
  case k5 => rfl
  · intro vs' ns' c' kPre kN kT kH kTk kOwn kEq kLt kOff kInts kLen3 kFr kNews
    have kMark := kstMark
    simp only [List.cons_append, List.nil_append] at kNews
    (k_with_none)
    (k_with "state" => (simp only [List.length_set]; assumption))
    walk_at "go qqq"
  · intro vs' ns' c' u' kH kTk kInts kLen3 kFr kNews
    obtain ⟨n0, n1, n2, e3⟩ : ∃ n0 n1 n2, ns' = [n0, n1, n2] := three_of kLen3
    subst e3
    obtain ⟨t0, t1, t2, e4⟩ := ints_three kInts
    subst e4
    clear kInts
    walk_at "go storeName"
    rw [show ([n0, n1, n2] : List Int).getD (Int.toNat 2) 0 = n2 from rfl]
    rcases fmod2 n2 with hc | hc <;> rw [hc]
    all_goals (focus
      walk1
      walk_at "go storeName"
      obtain ⟨Ls, hLi, hL8, hY8, hLd⟩ := digits_of (n0 := n0) (by assumption)
      (rename IntsAre _ (List.map _ _) => hq)
      clear hq
      (rename (_ = List.length (List.map _ _)) => hq)
      clear hq
      rw [← hc] at hLd
      have hLb : Bound3 Ls := ⟨hLd.bound⟩
      have hp0 : 0 ≤ n1.fmod 9 := Int.fmod_nonneg_of_pos _ (by decide)
      rw [show ([n0, n1, n2] : List Int).getD (Int.toNat 1) 0 = n1 from rfl]
      walk_at "go exec Return"
      · (rename n1.fmod 9 < 8 => hp)
        have hW : WordL n0 n1 n2 (Ls.set (n1.fmod 9).toNat ((Ls.getD (n1.fmod 9).toNat 0 + 1 + ((([n0, n1, n2] : List Int).getD (Int.toNat 1) 0).fdiv 9).fmod 2).fmod 3)) := wordL_set (n0 := n0) (n1 := n1) (n2 := n2) hLd hp
        have hB2 := hLb.set (i := (n1.fmod 9).toNat) (a := Ls.getD (n1.fmod 9).toNat 0 + 1 + ((([n0, n1, n2] : List Int).getD (Int.toNat 1) 0).fdiv 9).fmod 2)
        walk_at "go qqq"
        all_goals exact hret _ _ _ _ ⟨n0, n1, n2, _, hW, rfl⟩ (by k_asm) (by refine cb_drop (by k_asm) ?_; intro q hq; repeat (first | exact hq | apply List.Mem.tail))
      · (rename ¬ n1.fmod 9 < 8 => hp)
        have hW := wordL_same (n0 := n0) (n1 := n1) (n2 := n2) hLd hp
        walk_at "go qqq"
        all_goals exact hret _ _ _ _ ⟨n0, n1, n2, _, hW, rfl⟩ (by k_asm) (by refine cb_drop (by k_asm) ?_; intro q hq; repeat (first | exact hq | apply List.Mem.tail)))
end

section
open PySem PySem.W PySem.Calls PySem.Spec PyProof.Rows
structure WFacts (W : Str) : Prop where
  len : W.length = 8
  nd : NoDots W
  word : IsWord W
def stepJ (W : Str) (i l j : Int) : Int := if apartL (Txt.slice W (some i) (some j)) true = [] then (if l < j - i then j - i else l) else l
def gDue (n : Int) (l : List Int) (k : Int) : List Int := if 2 * k ≤ n then l ++ [k] else l
abbrev gDueOf {vs : List Value} {x : Str} (_ : IntsAre vs (borderL x)) : List Int → Int → List Int := gDue (x.length : Int)
theorem gDue_t {n : Int} {l : List Int} {k : Int} (h : 2 * k ≤ n) : gDue n l k = l ++ [k] := if_pos h
theorem gDue_f {n : Int} {l : List Int} {k : Int} (h : ¬ 2 * k ≤ n) : gDue n l k = l := if_neg h
theorem gDue_grows (n : Int) : KPfGrows (gDue n) := by
  intro l k
  unfold gDue
  split
  · simp
  · omega
theorem gDue_fold (n : Int) : ∀ (ns l : List Int), ns.foldl (gDue n) l = l ++ ns.filter (fun k => decide (2 * k ≤ n))
  | [], l => by simp
  | a :: r, l => by
    rw [List.foldl_cons, gDue_fold n r]
    by_cases h : 2 * a ≤ n
    · rw [gDue_t h, List.filter_cons_of_pos (by simpa using h), List.append_assoc]; rfl
    · rw [gDue_f h, List.filter_cons_of_neg (by simpa using h)]
theorem bord_size {vs : List Value} {x : Str} (h : IntsAre vs (borderL x)) (hx : x.length ≤ 100) : vs.toArray.size ≤ sizeLine := by
  have h1 : (borderL x).length ≤ x.length := by
    unfold borderL
    refine Nat.le_trans (List.length_filter_le _ _) ?_
    rw [rangeKs_length]; omega
  rw [List.size_toArray, h.length, sizeLine_eq]; omega
end

section
open PySem PySem.W PySem.Calls PySem.Spec PyProof.Rows
theorem slice_eq_iff {x : Str} {k : Int} (h0 : 1 ≤ k) (h1 : k < x.length) : borderOk x k = (x.cps.toList.take k.toNat == x.cps.toList.drop (x.length - k.toNat)) := by
  unfold borderOk
  rw [slice_to (by omega) (by omega), slice_from (by omega) (by omega), show ((x.length : Int) - k).toNat = x.length - k.toNat by omega]
  rw [Bool.eq_iff_iff, decide_eq_true_eq, beq_iff_eq]
  constructor
  · intro h
    have := congrArg (fun z => z.cps.toList) h
    simpa using this
  · intro h; rw [h]
theorem starts_list (x p : Str) (hp : p.length ≤ x.length) : Txt.startswith x p = (x.cps.toList.take p.length == p.cps.toList) := by
  unfold Txt.startswith
  rw [StrLaws.subAt_eq, List.drop_zero, decide_eq_true (by omega), Bool.true_and]
theorem ends_list (x p : Str) (hp : p.length ≤ x.length) : Txt.endswith x p = ((x.cps.toList.drop (x.length - p.length)).take p.length == p.cps.toList) := by
  unfold Txt.endswith
  rw [StrLaws.subAt_eq, decide_eq_true (by omega), Bool.true_and]
theorem apart_ok {x : Str} {b : Bool} {k : Int} (h0 : 1 ≤ k) (h1 : k < x.length) : apartOk x b k = (borderOk x k && decide (2 * k ≤ (x.length : Int))) := by
  rw [slice_eq_iff h0 h1]
  unfold apartOk pieceOf
  have hx := len_list x
  cases b with
  | true =>
    simp only [if_true]
    unfold ellB
    have hl := slice_to_len (x := x) (k := k) (by omega) (by omega)
    rw [starts_list _ _ (by omega), ends_list _ _ (by omega), hl, slice_to (by omega) (by omega)]
    have e1 : (x.cps.toList.drop (x.length - k.toNat)).take k.toNat = x.cps.toList.drop (x.length - k.toNat) := List.take_of_length_le (by rw [List.length_drop]; omega)
    simp only [e1]
    rw [Bool.eq_iff_iff]
    simp only [Bool.and_eq_true, beq_iff_eq, decide_eq_true_eq]
    constructor
    · rintro ⟨⟨_, h⟩, h'⟩; exact ⟨h.symm, by omega⟩
    · rintro ⟨h, h'⟩; exact ⟨⟨trivial, h.symm⟩, by omega⟩
  | false =>
    simp only [Bool.false_eq_true, if_false]
    unfold ellB
    have hl := slice_from_len (x := x) (k := (x.length : Int) - k) (by omega) (by omega)
    have hl' : (Txt.slice x (some ((x.length : Int) - k)) none).length = k.toNat := by omega
    rw [starts_list _ _ (by omega), ends_list _ _ (by omega), hl', slice_from (by omega) (by omega), show ((x.length : Int) - k).toNat = x.length - k.toNat by omega]
    have e1 : (x.cps.toList.drop (x.length - k.toNat)).take k.toNat = x.cps.toList.drop (x.length - k.toNat) := List.take_of_length_le (by rw [List.length_drop]; omega)
    simp only [e1]
    rw [Bool.eq_iff_iff]
    simp only [Bool.and_eq_true, beq_iff_eq, decide_eq_true_eq]
    constructor
    · rintro ⟨⟨h, _⟩, h'⟩; exact ⟨h, by omega⟩
    · rintro ⟨h, h'⟩; exact ⟨⟨h, trivial⟩, by omega⟩
theorem apart_due (x : Str) (b : Bool) : apartL x b = (borderL x).foldl (gDue (x.length : Int)) [] := by
  rw [gDue_fold, List.nil_append]
  unfold apartL borderL
  rw [List.filter_filter]
  apply List.filter_congr
  intro k hk
  have h := mem_rangeKs hk
  rw [apart_ok h.1 (by omega), Bool.and_comm]
section
variable {prog : Program} {w : World} {A : Around} {E : Value → Shared → Prop} {s : Shared} {a b : Addr} {xs ys : List Value} {x : Str} {v : Bool} {Q : Value → Shared → Prop}
theorem ne_due (ha : s.heap.IsList a xs.toArray) (hb : s.heap.IsList b ys.toArray) (hi : IntsAre xs (apartL x v)) (hj : IntsAre ys ((borderL x).foldl (gDue (x.length : Int)) [])) (hu : A.units + 64 < cLine) (h : Q (.bool false) s) :
    wpAny (model prog w) A (compareOp .NotEq (.ref a) (.ref b)) Q E s := by
  refine ke_ne_ints ha hb hi hj hu ?_
  rw [decide_eq_true (apart_due x v)]
  exact h
end
def stepI (W : Str) (l i : Int) : Int := (rangeKs (i + 2) ((W.length : Int) + 1 - (i + 2)).toNat).foldl (stepJ W i) l
structure LongJ (W : Str) (i l0 : Int) (pre : List Int) (l : Int) : Prop where
  eq : l = pre.foldl (stepJ W i) l0
structure LongI (W : Str) (pre : List Int) (l : Int) : Prop where
  eq : l = pre.foldl (stepI W) 1
theorem longJ_start {W : Str} {i l0 : Int} : LongJ W i l0 [] l0 := ⟨rfl⟩
theorem longJ_t {W : Str} {i l0 l j : Int} {pre : List Int} (h : LongJ W i l0 pre l) (hA : decide (apartL (Txt.slice W (some i) (some j)) true = []) = true) : LongJ W i l0 (pre ++ [j]) (if l < j - i then j - i else l) := by
  refine ⟨?_⟩
  rw [List.foldl_append, ← h.eq]
  show _ = stepJ W i l j
  unfold stepJ
  rw [if_pos (of_decide_eq_true hA)]
theorem longJ_f {W : Str} {i l0 l j : Int} {pre : List Int} (h : LongJ W i l0 pre l) (hA : decide (apartL (Txt.slice W (some i) (some j)) true = []) = false) : LongJ W i l0 (pre ++ [j]) l := by
  refine ⟨?_⟩
  rw [List.foldl_append, ← h.eq]
  show _ = stepJ W i l j
  unfold stepJ
  rw [if_neg (of_decide_eq_false hA)]
theorem longI_start {W : Str} : LongI W [] 1 := ⟨rfl⟩
theorem longI_step {W : Str} {pre : List Int} {l l' i : Int} (h : LongI W pre l) (hJ : LongJ W i l (rangeKs (i + 2) ((W.length : Int) + 1 - (i + 2)).toNat) l') : LongI W (pre ++ [i]) l' := by
  refine ⟨?_⟩
  rw [List.foldl_append, ← h.eq]
  exact hJ.eq
structure IsRev (z x : Str) : Prop where
  eq : z.cps.toList = x.cps.toList.reverse
theorem rev_is (x : Str) (u : Tok) : IsRev (Txt.sliceBy x none none (-1, u)) x := by
  refine ⟨?_⟩
  rw [step_rev_list]
  apply List.ext_getElem?
  intro i
  rcases Nat.lt_or_ge i x.length with h | h
  · rw [List.getElem?_map, List.getElem?_range h, List.getElem?_reverse (by rw [len_list]; exact h), len_list]
    have h2 : x.length - 1 - i < x.cps.toList.length := by rw [len_list]; omega
    rw [List.getElem?_eq_getElem h2]
    have h3 : x.length - 1 - i < x.cps.size := by simpa using h2
    simp [Array.getD, h3]
  · rw [List.getElem?_eq_none (by simp; omega), List.getElem?_eq_none (by simp only [List.length_reverse, len_list]; omega)]
section
variable {prog : Program} {w : World} {A : Around} {E : Value → Shared → Prop} {s : Shared} {value slice : PySem.Expr} {x : Str} {t uk : Tok} {h₀ : Heap} {L : Addr} {m : Str → Option Value} {news : List (Addr × Obj)} {Q : Value → Shared → Prop}
theorem my_rev (hF : Fr h₀ L s.heap m) (hN : News h₀ L s.heap news) (hsz : x.length ≤ 100)
    (h : ∀ z h' t' c, z.length = x.length → IsRev z x → Fr h₀ L h' m → News h₀ L h' news → Q (.str z t') { s with heap := h', toks := c })
    (hs : subscripted slice false (.str x t) (.ref s.heap.objs.size) = operate [.ref s.heap.objs.size, .str x t] (getItem (.str x t) (.ref s.heap.objs.size)) := by with_unfolding_all rfl)
    (ht : ∀ r, letTemporaryGo value (.str x t) r = pure () := by intro _; with_unfolding_all rfl) :
    wpAny (model prog w) A (subscriptTail value slice (.str x t) (.ref s.heap.objs.size)) Q E { s with heap := s.heap.push { cls := .type "slice", data := .fields #[.none, .none, .int (-1) uk] } } :=
  slice_strK_nn hF hN (by decide) (fun h' t' c a b => h _ h' t' c (step_rev_len x uk) (rev_is x uk) a b) hs ht (by rw [sizeLine_eq]; omega)
end
theorem mul2_len (x : Str) (i : Int) : (Txt.mul (Txt.item x i) 2).length = 2 := rfl
def oddB (x : Str) : Bool := (x == Txt.slice x none (some 2) ++ Txt.mul (Txt.item x 0) 2 ++ Txt.item x 4 ++ Txt.item x 1 ++ Txt.mul (Txt.item x 0) 2) && (Builtin.Str.occurrences (Txt.item x 1 ++ Txt.item x 4) (Txt.item x 0) 0 (Txt.item x 1 ++ Txt.item x 4).length 1).isEmpty
structure OddIs (x : Str) (b : Bool) : Prop where
  eq : oddB x = b
theorem odd_1 {x : Str} (h : (x == Txt.slice x none (some 2) ++ Txt.mul (Txt.item x 0) 2 ++ Txt.item x 4 ++ Txt.item x 1 ++ Txt.mul (Txt.item x 0) 2) = false) : OddIs x false := ⟨by unfold oddB; rw [h]; rfl⟩
theorem odd_2 {x : Str} (h2 : (Builtin.Str.occurrences (Txt.item x 1 ++ Txt.item x 4) (Txt.item x 0) 0 (Txt.item x 1 ++ Txt.item x 4).length 1).isEmpty = false) : OddIs x false := ⟨by unfold oddB; rw [h2, Bool.and_false]⟩
theorem odd_3 {x : Str} (h : (x == Txt.slice x none (some 2) ++ Txt.mul (Txt.item x 0) 2 ++ Txt.item x 4 ++ Txt.item x 1 ++ Txt.mul (Txt.item x 0) 2) = true) (h2 : (Builtin.Str.occurrences (Txt.item x 1 ++ Txt.item x 4) (Txt.item x 0) 0 (Txt.item x 1 ++ Txt.item x 4).length 1).isEmpty = true) : OddIs x true := ⟨by unfold oddB; rw [h, h2]; rfl⟩
theorem bord_len (x : Str) : (borderL x).length ≤ x.length := by
  unfold borderL
  refine Nat.le_trans (List.length_filter_le _ _) ?_
  rw [rangeKs_length]; omega
theorem bord_len0 (x : Str) (h : x.length ≤ 100) : ([0] : List Int).length + (borderL x).length ≤ sizeLine := by
  have := bord_len x
  rw [sizeLine_eq]; simp only [List.length_cons, List.length_nil]; omega
theorem eq_tt {prog : Program} {w : World} {A : Around} {E : Value → Shared → Prop} {s : Shared} {a b : Int} {t u : Tok} {Q : Value → Shared → Prop} (h : a = b) (hQ : Q (.bool true) s) : wpAny (model prog w) A (compareOp .Eq (.int a t) (.int b u)) Q E s := by
  refine eq_int ?_
  rw [show (a == b) = true from by rw [h]; exact beq_self_eq_true b]
  exact hQ
end

section
open PySem PySem.W PySem.Calls PySem.Spec PyProof.Rows
def bordK (l : List Nat) (k : Nat) : Bool := l.take k == l.drop (l.length - k)
def apartN (l : List Nat) : Bool := (List.range (l.length - 1)).any fun k => Nat.ble (2 * (k + 1)) l.length && bordK l (k + 1)
def subL (l : List Nat) (i j : Nat) : List Nat := (l.drop i).take (j - i)
def longN (l : List Nat) : Nat := (List.range l.length).foldl (fun lng i => (List.range (l.length + 1 - (i + 2))).foldl (fun lng k => if apartN (subL l i (i + 2 + k)) then lng else if Nat.ble (k + 2) lng then lng else k + 2) lng) 1
def maxN (l : List Nat) : Nat := (List.range (l.length - 1)).foldl (fun m k => if bordK l (k + 1) then k + 1 else m) 0
def oddN (l : List Nat) : Bool := match l with
  | [a, b, c, d, e, f, g, h] => c.beq a && d.beq a && f.beq b && g.beq a && h.beq a && !(a.beq b) && !(a.beq e)
  | _ => false
def checkN (l : List Nat) : Bool := (longN l + maxN l + (if oddN l then 1 else 0) + (if oddN l.reverse then 1 else 0)).beq l.length
def code : Nat → Nat
  | 0 => 97
  | 1 => 65
  | _ => 98
def digit (a q k : Nat) : Nat := a / 3 ^ (k % (3 + q)) % 3
def wordN (a p q : Nat) : List Nat := (List.range 8).map fun k => code (if (p % 9).beq k then (digit a q k + 1 + p / 9 % 2) % 3 else digit a q k)
def bordE (w n k : Nat) : Bool := Nat.beq (w % 128 ^ k) (w / 128 ^ (n - k))
def anyE (w n m : Nat) : Bool := (List.range m).any fun k => bordE w n (k + 1)
def longE (w n : Nat) : Nat := (List.range n).foldl (fun lng i => (List.range (n + 1 - (i + 2))).foldl (fun lng k => cond (Nat.ble (k + 2) lng) lng (cond (anyE ((w / 128 ^ i) % 128 ^ (k + 2)) (k + 2) ((k + 2) / 2)) lng (k + 2))) lng) 1
def maxE (w n : Nat) : Nat := (List.range (n - 1)).foldl (fun m k => cond (bordE w n (k + 1)) (k + 1) m) 0
def at7 (w k : Nat) : Nat := w / 128 ^ k % 128
def oddE (w : Nat) : Nat := cond ((at7 w 2).beq (at7 w 0) && (at7 w 3).beq (at7 w 0) && (at7 w 5).beq (at7 w 1) && (at7 w 6).beq (at7 w 0) && (at7 w 7).beq (at7 w 0) && !((at7 w 0).beq (at7 w 1)) && !((at7 w 0).beq (at7 w 4))) 1 0
def oddR (w : Nat) : Nat := cond ((at7 w 5).beq (at7 w 7) && (at7 w 4).beq (at7 w 7) && (at7 w 2).beq (at7 w 6) && (at7 w 1).beq (at7 w 7) && (at7 w 0).beq (at7 w 7) && !((at7 w 7).beq (at7 w 6)) && !((at7 w 7).beq (at7 w 3))) 1 0
def checkE (w : Nat) : Bool := (longE w 8 + maxE w 8 + oddE w + oddR w).beq 8
def enc (l : List Nat) : Nat := l.foldr (fun c a => c + 128 * a) 0
structure Small (l : List Nat) : Prop where
  all : ∀ c ∈ l, c < 128
theorem Small.tail {c : Nat} {r : List Nat} (h : Small (c :: r)) : Small r := ⟨fun x hx => h.all x (List.mem_cons_of_mem _ hx)⟩
theorem Small.head {c : Nat} {r : List Nat} (h : Small (c :: r)) : c < 128 := h.all c (List.mem_cons_self)
theorem Small.take {l : List Nat} (h : Small l) (k : Nat) : Small (l.take k) := ⟨fun x hx => h.all x (List.mem_of_mem_take hx)⟩
theorem Small.drop {l : List Nat} (h : Small l) (k : Nat) : Small (l.drop k) := ⟨fun x hx => h.all x (List.mem_of_mem_drop hx)⟩
theorem enc_drop : ∀ (k : Nat) (l : List Nat), Small l → enc (l.drop k) = enc l / 128 ^ k
  | 0, l, _ => by rw [List.drop_zero, Nat.pow_zero, Nat.div_one]
  | k + 1, [], _ => by rw [List.drop_nil]; show 0 = 0 / _; rw [Nat.zero_div]
  | k + 1, c :: r, h => by
    have hc := h.head
    rw [List.drop_succ_cons, enc_drop k r h.tail, Nat.pow_succ, Nat.mul_comm, ← Nat.div_div_eq_div_mul]
    congr 1
    show enc r = (c + 128 * enc r) / 128
    omega
theorem enc_take : ∀ (k : Nat) (l : List Nat), Small l → enc (l.take k) = enc l % 128 ^ k
  | 0, l, _ => by rw [List.take_zero, Nat.pow_zero, Nat.mod_one]; rfl
  | k + 1, [], _ => by rw [List.take_nil]; show 0 = 0 % _; rw [Nat.zero_mod]
  | k + 1, c :: r, h => by
    have hc := h.head
    rw [List.take_succ_cons]
    show c + 128 * enc (r.take k) = (c + 128 * enc r) % 128 ^ (k + 1)
    rw [enc_take k r h.tail, Nat.pow_succ, Nat.mul_comm (128 ^ k), Nat.mod_mul]
    rw [show (c + 128 * enc r) % 128 = c by omega, show (c + 128 * enc r) / 128 = enc r by omega]
theorem enc_inj : ∀ (l m : List Nat), l.length = m.length → Small l → Small m → enc l = enc m → l = m
  | [], [], _, _, _, _ => rfl
  | c :: r, d :: t, hl, h1, h2, he => by
    have hc := h1.head
    have hd := h2.head
    have he' : c + 128 * enc r = d + 128 * enc t := he
    have e1 : c = d := by omega
    have e2 : enc r = enc t := by omega
    rw [List.length_cons, List.length_cons] at hl
    rw [e1, enc_inj r t (by omega) h1.tail h2.tail e2]
theorem bord_enc {l : List Nat} (h : Small l) {k : Nat} (hk : k ≤ l.length) : bordK l k = bordE (enc l) l.length k := by
  unfold bordK bordE
  rw [← enc_take k l h, ← enc_drop _ l h, Bool.eq_iff_iff, beq_iff_eq, Nat.beq_eq]
  constructor
  · intro e; rw [e]
  · intro e
    exact enc_inj _ _ (by rw [List.length_take, List.length_drop]; omega) (h.take _) (h.drop _) e
theorem anyE_iff (w n m : Nat) : anyE w n m = true ↔ ∃ k, k < m ∧ bordE w n (k + 1) = true := by
  unfold anyE
  rw [List.any_eq_true]
  constructor
  · rintro ⟨k, h1, h2⟩; exact ⟨k, List.mem_range.mp h1, h2⟩
  · rintro ⟨k, h1, h2⟩; exact ⟨k, List.mem_range.mpr h1, h2⟩
theorem apart_enc {l : List Nat} (h : Small l) : apartN l = anyE (enc l) l.length (l.length / 2) := by
  rw [Bool.eq_iff_iff, anyE_iff]
  unfold apartN
  rw [List.any_eq_true]
  constructor
  · rintro ⟨k, hk, h2⟩
    rw [Bool.and_eq_true] at h2
    have h3 := Nat.le_of_ble_eq_true h2.1
    exact ⟨k, by omega, by rw [← bord_enc h (by omega)]; exact h2.2⟩
  · rintro ⟨k, hk, h2⟩
    refine ⟨k, List.mem_range.mpr (by omega), ?_⟩
    rw [bord_enc h (by omega), h2, Nat.ble_eq_true_of_le (by omega)]
    rfl
theorem foldl_same {f g : Nat → Nat → Nat} : ∀ (L : List Nat) (a : Nat), (∀ k ∈ L, ∀ a, f a k = g a k) → L.foldl f a = L.foldl g a
  | [], _, _ => rfl
  | k :: r, a, h => by
    rw [List.foldl_cons, List.foldl_cons, h k (List.mem_cons_self) a]
    exact foldl_same r _ fun k hk => h k (List.mem_cons_of_mem _ hk)
theorem long_enc {l : List Nat} (h : Small l) : longN l = longE (enc l) l.length := by
  unfold longN longE
  refine foldl_same _ _ fun i hi a => foldl_same _ _ fun k hk a => ?_
  have h1 := List.mem_range.mp hi
  have h2 := List.mem_range.mp hk
  have hl : (subL l i (i + 2 + k)).length = k + 2 := by
    unfold subL
    rw [List.length_take, List.length_drop]; omega
  have he : enc (subL l i (i + 2 + k)) = (enc l / 128 ^ i) % 128 ^ (k + 2) := by
    unfold subL
    rw [enc_take _ _ (h.drop i), enc_drop _ _ h, show i + 2 + k - i = k + 2 by omega]
  have hs : Small (subL l i (i + 2 + k)) := (h.drop i).take _
  rw [apart_enc hs, hl, he]
  cases anyE ((enc l / 128 ^ i) % 128 ^ (k + 2)) (k + 2) ((k + 2) / 2) <;> cases Nat.ble (k + 2) a <;> rfl
theorem max_enc {l : List Nat} (h : Small l) : maxN l = maxE (enc l) l.length := by
  unfold maxN maxE
  refine foldl_same _ _ fun k hk a => ?_
  have h2 := List.mem_range.mp hk
  rw [bord_enc h (by omega)]
  cases bordE (enc l) l.length (k + 1) <;> rfl
theorem at_enc {l : List Nat} (h : Small l) {k c : Nat} {r : List Nat} (hd : l.drop k = c :: r) : at7 (enc l) k = c := by
  unfold at7
  rw [← enc_drop k l h, hd]
  have hc : c < 128 := (h.drop k).all c (by rw [hd]; exact List.mem_cons_self)
  show (c + 128 * enc r) % 128 = c
  omega
theorem odd_enc {l : List Nat} (h : Small l) (h8 : l.length = 8) : (if oddN l then 1 else 0) = oddE (enc l) ∧ (if oddN l.reverse then 1 else 0) = oddR (enc l) := by
  match l, h8 with
  | [a, b, c, d, e, f, g, i], _ =>
    unfold oddE oddR
    rw [at_enc h (k := 0) (c := a) rfl, at_enc h (k := 1) (c := b) rfl, at_enc h (k := 2) (c := c) rfl, at_enc h (k := 3) (c := d) rfl, at_enc h (k := 4) (c := e) rfl, at_enc h (k := 5) (c := f) rfl, at_enc h (k := 6) (c := g) rfl, at_enc h (k := 7) (c := i) rfl]
    refine ⟨?_, ?_⟩
    · show (if (c.beq a && d.beq a && f.beq b && g.beq a && i.beq a && !(a.beq b) && !(a.beq e)) then 1 else 0) = _
      generalize (c.beq a && d.beq a && f.beq b && g.beq a && i.beq a && !(a.beq b) && !(a.beq e)) = v
      cases v <;> rfl
    · show (if (f.beq i && e.beq i && c.beq g && b.beq i && a.beq i && !(i.beq g) && !(i.beq d)) then 1 else 0) = _
      generalize (f.beq i && e.beq i && c.beq g && b.beq i && a.beq i && !(i.beq g) && !(i.beq d)) = v
      cases v <;> rfl
theorem check_enc {l : List Nat} (h : Small l) (h8 : l.length = 8) (hc : checkE (enc l) = true) : checkN l = true := by
  unfold checkE at hc
  unfold checkN
  rw [(odd_enc h h8).1, (odd_enc h h8).2, long_enc h, max_enc h, h8]
  exact hc
theorem word_small (a p q : Nat) : Small (wordN a p q) ∧ (wordN a p q).length = 8 := by
  unfold wordN
  refine ⟨⟨fun c hc => ?_⟩, by rw [List.length_map, List.length_range]⟩
  obtain ⟨k, _, rfl⟩ := List.mem_map.mp hc
  unfold code
  split <;> decide
def okFrom (a0 q : Nat) : Bool := (List.range 9).all fun a => (List.range 18).all fun p => checkE (enc (wordN (a0 + a) p q))
theorem chunk00 : okFrom 0 0 = true := by decide +kernel
theorem chunk01 : okFrom 9 0 = true := by decide +kernel
theorem chunk02 : okFrom 18 0 = true := by decide +kernel
theorem chunk10 : okFrom 0 1 = true := by decide +kernel
theorem chunk11 : okFrom 9 1 = true := by decide +kernel
theorem chunk12 : okFrom 18 1 = true := by decide +kernel
theorem chunk13 : okFrom 27 1 = true := by decide +kernel
theorem chunk14 : okFrom 36 1 = true := by decide +kernel
theorem chunk15 : okFrom 45 1 = true := by decide +kernel
theorem chunk16 : okFrom 54 1 = true := by decide +kernel
theorem chunk17 : okFrom 63 1 = true := by decide +kernel
theorem chunk18 : okFrom 72 1 = true := by decide +kernel
theorem okFrom_use {a0 q a p : Nat} (h : okFrom a0 q = true) (h1 : a0 ≤ a) (h2 : a < a0 + 9) (hp : p < 18) : checkN (wordN a p q) = true := by
  have h3 := List.all_eq_true.mp h (a - a0) (List.mem_range.mpr (by omega))
  have h4 := List.all_eq_true.mp h3 p (List.mem_range.mpr hp)
  rw [show a0 + (a - a0) = a by omega] at h4
  exact check_enc (word_small a p q).1 (word_small a p q).2 h4
theorem check_all {a p q : Nat} (ha : a < 81) (hp : p < 18) (hq : q < 2) (h0 : q = 0 → a < 27) : checkN (wordN a p q) = true := by
  rcases Nat.lt_or_ge q 1 with hq0 | hq1
  · have e : q = 0 := by omega
    subst e
    have h27 := h0 rfl
    rcases Nat.lt_or_ge a 9 with h | h
    · exact okFrom_use chunk00 (by omega) (by omega) hp
    rcases Nat.lt_or_ge a 18 with h' | h'
    · exact okFrom_use chunk01 (by omega) (by omega) hp
    · exact okFrom_use chunk02 (by omega) (by omega) hp
  · have e : q = 1 := by omega
    subst e
    rcases (by omega : a < 9 ∨ (9 ≤ a ∧ a < 18) ∨ (18 ≤ a ∧ a < 27) ∨ (27 ≤ a ∧ a < 36) ∨ (36 ≤ a ∧ a < 45) ∨ (45 ≤ a ∧ a < 54) ∨ (54 ≤ a ∧ a < 63) ∨ (63 ≤ a ∧ a < 72) ∨ (72 ≤ a ∧ a < 81)) with h | h | h | h | h | h | h | h | h
    · exact okFrom_use chunk10 (by omega) (by omega) hp
    · exact okFrom_use chunk11 (by omega) (by omega) hp
    · exact okFrom_use chunk12 (by omega) (by omega) hp
    · exact okFrom_use chunk13 (by omega) (by omega) hp
    · exact okFrom_use chunk14 (by omega) (by omega) hp
    · exact okFrom_use chunk15 (by omega) (by omega) hp
    · exact okFrom_use chunk16 (by omega) (by omega) hp
    · exact okFrom_use chunk17 (by omega) (by omega) hp
    · exact okFrom_use chunk18 (by omega) (by omega) hp
end

section
open PySem PySem.W PySem.Calls PySem.Spec PyProof.Rows
theorem join_list : ∀ xs : List Str, (Str.join (Str.ofString "") xs).cps.toList = (xs.map fun x => x.cps.toList).flatten
  | [] => by decide +kernel
  | [x] => by simp [Str.join]
  | x :: y :: r => by
    show (x ++ Str.ofString "" ++ Str.join (Str.ofString "") (y :: r)).cps.toList = _
    have h0 : (Str.ofString "").cps.toList = [] := by decide +kernel
    rw [Str.cps_append, Str.cps_append, Array.toList_append, Array.toList_append, join_list (y :: r), h0]
    simp
def codeZ (k : Int) : Nat := code k.toNat
theorem item_code {k : Int} (h0 : 0 ≤ k) (h1 : k < 3) : (Txt.item (Str.ofString "aAb") k).cps.toList = [codeZ k] := by
  have h3 : (Str.ofString "aAb").length = 3 := by decide +kernel
  have hl : (Str.ofString "aAb").cps.toList = [97, 65, 98] := by decide +kernel
  rw [item_nonneg h0 (by omega), hl]
  have : k = 0 ∨ k = 1 ∨ k = 2 := by omega
  rcases this with rfl | rfl | rfl <;> rfl
theorem word_list {L : List Int} (h : Bound3 L) : (wordText L).cps.toList = L.map codeZ := by
  unfold wordText
  show (Builtin.Str.glued _ _).cps.toList = _
  rw [StrLaws.glued_eq_join, join_list, List.map_map]
  have : ∀ L : List Int, (∀ v ∈ L, 0 ≤ v ∧ v < 3) → (L.map ((fun x : Str => x.cps.toList) ∘ fun k => Txt.item (Str.ofString "aAb") k)).flatten = L.map codeZ := by
    intro L
    induction L with
    | nil => intro _; rfl
    | cons a r ih =>
      intro hb
      rw [List.map_cons, List.flatten_cons, ih (fun v hv => hb v (List.mem_cons_of_mem _ hv)), List.map_cons]
      have ha := hb a (List.mem_cons_self)
      show (Txt.item _ a).cps.toList ++ _ = _
      rw [item_code ha.1 ha.2]
      rfl
  exact this L h.all
end

section
open PySem PySem.W PySem.Calls PySem.Spec PyProof.Rows
theorem fd (n : Int) {d : Int} (h : 0 ≤ d) : n.fdiv d = n / d := Int.fdiv_eq_ediv_of_nonneg n h
theorem fm (n : Int) {d : Int} (h : 0 ≤ d) : n.fmod d = n % d := Int.fmod_eq_emod_of_nonneg n h
theorem dz81 (n : Int) : (n.fdiv (3 ^ 0)).fmod 3 = (((n % 81).toNat / 3 ^ 0 % 3 : Nat) : Int) ∧ (n.fdiv (3 ^ 1)).fmod 3 = (((n % 81).toNat / 3 ^ 1 % 3 : Nat) : Int) ∧ (n.fdiv (3 ^ 2)).fmod 3 = (((n % 81).toNat / 3 ^ 2 % 3 : Nat) : Int) ∧ (n.fdiv (3 ^ 3)).fmod 3 = (((n % 81).toNat / 3 ^ 3 % 3 : Nat) : Int) := by
  have e1 : (3 : Int) ^ 0 = 1 := rfl
  have e2 : (3 : Int) ^ 1 = 3 := rfl
  have e3 : (3 : Int) ^ 2 = 9 := rfl
  have e4 : (3 : Int) ^ 3 = 27 := rfl
  have f1 : (3 : Nat) ^ 0 = 1 := rfl
  have f2 : (3 : Nat) ^ 1 = 3 := rfl
  have f3 : (3 : Nat) ^ 2 = 9 := rfl
  have f4 : (3 : Nat) ^ 3 = 27 := rfl
  rw [e1, e2, e3, e4, f1, f2, f3, f4]
  rw [fd n (by decide), fd n (by decide), fd n (by decide), fd n (by decide), fm _ (by decide), fm _ (by decide), fm _ (by decide), fm _ (by decide)]
  omega
theorem dz27 (n : Int) : (n.fdiv (3 ^ 0)).fmod 3 = (((n % 27).toNat / 3 ^ 0 % 3 : Nat) : Int) ∧ (n.fdiv (3 ^ 1)).fmod 3 = (((n % 27).toNat / 3 ^ 1 % 3 : Nat) : Int) ∧ (n.fdiv (3 ^ 2)).fmod 3 = (((n % 27).toNat / 3 ^ 2 % 3 : Nat) : Int) := by
  have e1 : (3 : Int) ^ 0 = 1 := rfl
  have e2 : (3 : Int) ^ 1 = 3 := rfl
  have e3 : (3 : Int) ^ 2 = 9 := rfl
  have f1 : (3 : Nat) ^ 0 = 1 := rfl
  have f2 : (3 : Nat) ^ 1 = 3 := rfl
  have f3 : (3 : Nat) ^ 2 = 9 := rfl
  rw [e1, e2, e3, f1, f2, f3]
  rw [fd n (by decide), fd n (by decide), fd n (by decide), fm _ (by decide), fm _ (by decide), fm _ (by decide)]
  omega
theorem digits4 (n : Int) : (rangeKs 0 8).map (fun k => (n.fdiv (3 ^ (k.fmod (3 + 1)).toNat)).fmod 3) = (List.range 8).map fun k => ((digit (n % 81).toNat 1 k : Nat) : Int) := by
  obtain ⟨h0, h1, h2, h3⟩ := dz81 n
  show [(n.fdiv (3 ^ 0)).fmod 3, (n.fdiv (3 ^ 1)).fmod 3, (n.fdiv (3 ^ 2)).fmod 3, (n.fdiv (3 ^ 3)).fmod 3, (n.fdiv (3 ^ 0)).fmod 3, (n.fdiv (3 ^ 1)).fmod 3, (n.fdiv (3 ^ 2)).fmod 3, (n.fdiv (3 ^ 3)).fmod 3] = _
  rw [h0, h1, h2, h3]
  rfl
theorem digits3 (n : Int) : (rangeKs 0 8).map (fun k => (n.fdiv (3 ^ (k.fmod (3 + 0)).toNat)).fmod 3) = (List.range 8).map fun k => ((digit (n % 27).toNat 0 k : Nat) : Int) := by
  obtain ⟨h0, h1, h2⟩ := dz27 n
  show [(n.fdiv (3 ^ 0)).fmod 3, (n.fdiv (3 ^ 1)).fmod 3, (n.fdiv (3 ^ 2)).fmod 3, (n.fdiv (3 ^ 0)).fmod 3, (n.fdiv (3 ^ 1)).fmod 3, (n.fdiv (3 ^ 2)).fmod 3, (n.fdiv (3 ^ 0)).fmod 3, (n.fdiv (3 ^ 1)).fmod 3] = _
  rw [h0, h1, h2]
  rfl
end

section
open PySem PySem.W PySem.Calls PySem.Spec PyProof.Rows
theorem range8 {α : Type} (f : Nat → α) : (List.range 8).map f = [f 0, f 1, f 2, f 3, f 4, f 5, f 6, f 7] := rfl
theorem codeZ_nat (x : Nat) : codeZ (x : Int) = code x := rfl
theorem set_word (d : Nat → Nat) (p : Nat) (hp : p < 18) :
    ((if ((p % 9 : Nat) : Int) < 8 then ((List.range 8).map fun k => ((d k : Nat) : Int)).set (p % 9) (((((List.range 8).map fun k => ((d k : Nat) : Int)).getD (p % 9) 0) + 1 + ((p / 9 % 2 : Nat) : Int)).fmod 3) else (List.range 8).map fun k => ((d k : Nat) : Int)).map codeZ)
      = (List.range 8).map fun k => code (if (p % 9).beq k then (d k + 1 + p / 9 % 2) % 3 else d k) := by
  generalize hg : p / 9 % 2 = g
  have hv : ∀ x : Nat, codeZ (((x : Int) + 1 + (g : Int)).fmod 3) = code ((x + 1 + g) % 3) := by
    intro x
    rw [fm _ (by decide), show ((x : Int) + 1 + (g : Int)) % 3 = (((x + 1 + g) % 3 : Nat) : Int) by omega]
    rfl
  have h9 : p % 9 = 0 ∨ p % 9 = 1 ∨ p % 9 = 2 ∨ p % 9 = 3 ∨ p % 9 = 4 ∨ p % 9 = 5 ∨ p % 9 = 6 ∨ p % 9 = 7 ∨ p % 9 = 8 := by omega
  rcases h9 with h | h | h | h | h | h | h | h | h <;> rw [h]
  · rw [if_pos (by decide)]; show [codeZ _, _, _, _, _, _, _, _] = _; rw [show (((List.range 8).map fun k => ((d k : Nat) : Int)).getD 0 0) = ((d 0 : Nat) : Int) from rfl, hv]; rfl
  · rw [if_pos (by decide)]; show [_, codeZ _, _, _, _, _, _, _] = _; rw [show (((List.range 8).map fun k => ((d k : Nat) : Int)).getD 1 0) = ((d 1 : Nat) : Int) from rfl, hv]; rfl
  · rw [if_pos (by decide)]; show [_, _, codeZ _, _, _, _, _, _] = _; rw [show (((List.range 8).map fun k => ((d k : Nat) : Int)).getD 2 0) = ((d 2 : Nat) : Int) from rfl, hv]; rfl
  · rw [if_pos (by decide)]; show [_, _, _, codeZ _, _, _, _, _] = _; rw [show (((List.range 8).map fun k => ((d k : Nat) : Int)).getD 3 0) = ((d 3 : Nat) : Int) from rfl, hv]; rfl
  · rw [if_pos (by decide)]; show [_, _, _, _, codeZ _, _, _, _] = _; rw [show (((List.range 8).map fun k => ((d k : Nat) : Int)).getD 4 0) = ((d 4 : Nat) : Int) from rfl, hv]; rfl
  · rw [if_pos (by decide)]; show [_, _, _, _, _, codeZ _, _, _] = _; rw [show (((List.range 8).map fun k => ((d k : Nat) : Int)).getD 5 0) = ((d 5 : Nat) : Int) from rfl, hv]; rfl
  · rw [if_pos (by decide)]; show [_, _, _, _, _, _, codeZ _, _] = _; rw [show (((List.range 8).map fun k => ((d k : Nat) : Int)).getD 6 0) = ((d 6 : Nat) : Int) from rfl, hv]; rfl
  · rw [if_pos (by decide)]; show [_, _, _, _, _, _, _, codeZ _] = _; rw [show (((List.range 8).map fun k => ((d k : Nat) : Int)).getD 7 0) = ((d 7 : Nat) : Int) from rfl, hv]; rfl
  · rw [if_neg (by decide)]; rfl
end

section
open PySem PySem.W PySem.Calls PySem.Spec PyProof.Rows
theorem wordN_of {n0 n1 n2 : Int} {L2 : List Int} (h : WordL n0 n1 n2 L2) : ∃ a p q : Nat, a < 81 ∧ p < 18 ∧ q < 2 ∧ (q = 0 → a < 27) ∧ L2.map codeZ = wordN a p q ∧ Bound3 L2 := by
  obtain ⟨L, hD, rfl⟩ := h.is
  have hb : Bound3 L := ⟨hD.bound⟩
  have e9 : n1.fmod 9 = (((n1 % 18).toNat % 9 : Nat) : Int) := by rw [fm _ (by decide)]; omega
  have e2 : (n1.fdiv 9).fmod 2 = (((n1 % 18).toNat / 9 % 2 : Nat) : Int) := by rw [fd _ (by decide), fm _ (by decide)]; omega
  have hp : (n1 % 18).toNat < 18 := by omega
  have key : ∀ (d : Nat → Nat), L = ((List.range 8).map fun k => ((d k : Nat) : Int)) → (if n1.fmod 9 < 8 then L.set (n1.fmod 9).toNat ((L.getD (n1.fmod 9).toNat 0 + 1 + (n1.fdiv 9).fmod 2).fmod 3) else L).map codeZ = (List.range 8).map fun k => code (if ((n1 % 18).toNat % 9).beq k then (d k + 1 + (n1 % 18).toNat / 9 % 2) % 3 else d k) := by
    intro d hd
    rw [e9, e2, hd]
    exact set_word d _ hp
  have hB2 : Bound3 (if n1.fmod 9 < 8 then L.set (n1.fmod 9).toNat ((L.getD (n1.fmod 9).toNat 0 + 1 + (n1.fdiv 9).fmod 2).fmod 3) else L) := by
    split
    · exact hb.set
    · exact hb
  rcases fmod2 n2 with hq | hq
  · have hd := hD.eq
    rw [hq, digits3] at hd
    exact ⟨(n0 % 27).toNat, (n1 % 18).toNat, 0, by omega, hp, by decide, fun _ => by omega, key _ hd, hB2⟩
  · have hd := hD.eq
    rw [hq, digits4] at hd
    exact ⟨(n0 % 81).toNat, (n1 % 18).toNat, 1, by omega, hp, by decide, (fun h => absurd h (by decide)), key _ hd, hB2⟩
theorem check_word {W : Str} (h : IsWord W) : checkN W.cps.toList = true ∧ W.length = 8 ∧ ∀ c ∈ W.cps.toList, c ≠ 46 := by
  obtain ⟨n0, n1, n2, L, hL, rfl⟩ := h
  obtain ⟨a, p, q, ha, hp, hq, h0, e, hb⟩ := wordN_of hL
  have hl := word_list hb
  rw [e] at hl
  refine ⟨by rw [hl]; exact check_all ha hp hq h0, ?_, ?_⟩
  · rw [← len_list, hl]; unfold wordN; rw [List.length_map, List.length_range]
  · rw [hl]
    intro c hc
    obtain ⟨k, _, rfl⟩ := List.mem_map.mp hc
    unfold code
    split <;> decide
end

section
open PySem PySem.W PySem.Calls PySem.Spec PyProof.Rows
theorem foldl_cast {f : Int → Int → Int} {g : Nat → Nat → Nat} : ∀ (L : List Nat) (a : Nat), (∀ k ∈ L, ∀ a : Nat, f (a : Int) (k : Int) = ((g a k : Nat) : Int)) → (L.map fun (i : Nat) => (0 : Int) + (i : Int)).foldl f (a : Int) = ((L.foldl g a : Nat) : Int)
  | [], _, _ => rfl
  | k :: r, a, h => by
    rw [List.map_cons, List.foldl_cons, List.foldl_cons, Int.zero_add, h k (List.mem_cons_self) a]
    exact foldl_cast r _ fun k hk => h k (List.mem_cons_of_mem _ hk)
theorem foldl_cast' {f : Int → Int → Int} {g : Nat → Nat → Nat} {c : Int} : ∀ (L : List Nat) (a : Nat), (∀ k ∈ L, ∀ a : Nat, f (a : Int) (c + (k : Int)) = ((g a k : Nat) : Int)) → (L.map fun (i : Nat) => c + (i : Int)).foldl f (a : Int) = ((L.foldl g a : Nat) : Int)
  | [], _, _ => rfl
  | k :: r, a, h => by
    rw [List.map_cons, List.foldl_cons, List.foldl_cons, h k (List.mem_cons_self) a]
    exact foldl_cast' r _ fun k hk => h k (List.mem_cons_of_mem _ hk)
theorem bordK_of {x : Str} {k : Nat} (h1 : k + 1 < x.length) : borderOk x (1 + (k : Int)) = bordK x.cps.toList (k + 1) := by
  rw [slice_eq_iff (by omega) (by omega)]
  unfold bordK
  rw [len_list, show (1 + (k : Int)).toNat = k + 1 by omega]
theorem apartN_of {x : Str} : apartN x.cps.toList = true ↔ apartL x true ≠ [] := by
  unfold apartN apartL rangeKs
  rw [len_list, show ((x.length : Int) - 1).toNat = x.length - 1 by omega]
  constructor
  · intro h hn
    obtain ⟨k, hk, h2⟩ := List.any_eq_true.mp h
    have hk' := List.mem_range.mp hk
    rw [Bool.and_eq_true] at h2
    have h3 := Nat.le_of_ble_eq_true h2.1
    have hm : (1 + (k : Int)) ∈ List.filter (apartOk x true) (List.map (fun (i : Nat) => (1 : Int) + (i : Int)) (List.range (x.length - 1))) := by
      refine List.mem_filter.mpr ⟨List.mem_map.mpr ⟨k, hk, rfl⟩, ?_⟩
      rw [apart_ok (by omega) (by omega), bordK_of (by omega), h2.2, decide_eq_true (by omega)]
      rfl
    rw [hn] at hm
    cases hm
  · intro h
    obtain ⟨v, hv⟩ := List.exists_mem_of_ne_nil _ h
    have hv' := List.mem_filter.mp hv
    obtain ⟨k, hk, rfl⟩ := List.mem_map.mp hv'.1
    have hk' := List.mem_range.mp hk
    have h2 := hv'.2
    rw [apart_ok (by omega) (by omega), bordK_of (by omega), Bool.and_eq_true, decide_eq_true_eq] at h2
    refine List.any_eq_true.mpr ⟨k, hk, ?_⟩
    rw [h2.1, Bool.and_true]
    exact Nat.ble_eq_true_of_le (by omega)
theorem stepJ_cast {W : Str} {i k : Nat} (h : i + 2 + k ≤ W.length) (a : Nat) : stepJ W (i : Int) (a : Int) ((i : Int) + 2 + (k : Int)) = ((if apartN (subL W.cps.toList i (i + 2 + k)) then a else if Nat.ble (k + 2) a then a else k + 2 : Nat) : Int) := by
  have hs : (Txt.slice W (some (i : Int)) (some ((i : Int) + 2 + (k : Int)))).cps.toList = subL W.cps.toList i (i + 2 + k) := by
    rw [slice_both (by omega) (by omega) (by omega)]
    unfold subL
    rw [show ((i : Int) + 2 + (k : Int) - (i : Int)).toNat = i + 2 + k - i by omega, show ((i : Int)).toNat = i by omega]
  unfold stepJ
  rw [← hs]
  by_cases h1 : apartL (Txt.slice W (some (i : Int)) (some ((i : Int) + 2 + (k : Int)))) true = []
  · rw [if_pos h1]
    have h2 : apartN (Txt.slice W (some (i : Int)) (some ((i : Int) + 2 + (k : Int)))).cps.toList = false := by
      rw [Bool.eq_false_iff]; intro hc; exact apartN_of.mp hc h1
    rw [h2]
    simp only [Bool.false_eq_true, if_false]
    by_cases h3 : k + 2 ≤ a
    · rw [if_pos (Nat.ble_eq_true_of_le h3), if_neg (by omega)]
    · rw [if_pos (by omega), if_neg (by intro hc; exact h3 (Nat.le_of_ble_eq_true hc))]
      omega
  · rw [if_neg h1, if_pos (apartN_of.mpr h1)]
theorem long_cast {W : Str} {l : Int} (h : LongI W (rangeKs 0 ((W.length : Int) - 0).toNat) l) : l = (longN W.cps.toList : Int) := by
  rw [h.eq]
  unfold longN rangeKs
  rw [len_list, show ((W.length : Int) - 0).toNat = W.length by omega, show (1 : Int) = ((1 : Nat) : Int) from rfl]
  refine foldl_cast' (List.range W.length) 1 ?_
  intro i hi a
  have hi' := List.mem_range.mp hi
  unfold stepI rangeKs
  rw [Int.zero_add, show ((W.length : Int) + 1 - ((i : Int) + 2)).toNat = W.length + 1 - (i + 2) by omega]
  refine foldl_cast' (List.range (W.length + 1 - (i + 2))) a ?_
  intro k hk a
  have hk' := List.mem_range.mp hk
  exact stepJ_cast (by omega) a
theorem max_fold (P : Nat → Bool) : ∀ n : Nat, ((List.range n).foldl (fun m k => if P (k + 1) then k + 1 else m) 0 = 0 ∨ (1 ≤ (List.range n).foldl (fun m k => if P (k + 1) then k + 1 else m) 0 ∧ (List.range n).foldl (fun m k => if P (k + 1) then k + 1 else m) 0 ≤ n ∧ P ((List.range n).foldl (fun m k => if P (k + 1) then k + 1 else m) 0) = true)) ∧ ∀ k, k < n → P (k + 1) = true → k + 1 ≤ (List.range n).foldl (fun m k => if P (k + 1) then k + 1 else m) 0
  | 0 => ⟨.inl rfl, fun k h => absurd h (Nat.not_lt_zero k)⟩
  | n + 1 => by
    have ih := max_fold P n
    rw [List.range_succ, List.foldl_append, List.foldl_cons, List.foldl_nil]
    generalize (List.range n).foldl (fun m k => if P (k + 1) then k + 1 else m) 0 = v at ih ⊢
    by_cases h : P (n + 1) = true
    · rw [if_pos h]
      exact ⟨.inr ⟨by omega, by omega, h⟩, fun k hk _ => by omega⟩
    · rw [if_neg h]
      refine ⟨?_, fun k hk hp => ?_⟩
      · rcases ih.1 with h1 | ⟨h1, h2, h3⟩
        · exact .inl h1
        · exact .inr ⟨h1, by omega, h3⟩
      · rcases Nat.lt_or_ge k n with h1 | h1
        · exact ih.2 k h1 hp
        · have : k = n := by omega
          subst this
          exact absurd hp h
theorem max_cast {W : Str} {M : Int} (hM : M ∈ [0] ++ borderL W) (hM2 : ∀ a, a ∈ [0] ++ borderL W → a ≤ M) : M = (maxN W.cps.toList : Int) := by
  have h := max_fold (bordK W.cps.toList) (W.cps.toList.length - 1)
  unfold maxN
  rw [len_list] at h ⊢
  generalize (List.range (W.length - 1)).foldl (fun m k => if bordK W.cps.toList (k + 1) then k + 1 else m) 0 = v at h ⊢
  obtain ⟨h1, h2⟩ := h
  have hv : (v : Int) ∈ [0] ++ borderL W := by
    rcases h1 with h0 | ⟨ha, hb, hc⟩
    · subst h0; exact List.mem_append_left _ (List.mem_cons_self)
    · refine List.mem_append_right _ (List.mem_filter.mpr ⟨List.mem_map.mpr ⟨v - 1, List.mem_range.mpr (by omega), by omega⟩, ?_⟩)
      have := bordK_of (x := W) (k := v - 1) (by omega)
      rw [show 1 + ((v - 1 : Nat) : Int) = (v : Int) by omega, show v - 1 + 1 = v by omega] at this
      rw [this]; exact hc
  have hle := hM2 _ hv
  rcases List.mem_append.mp hM with h0 | h0
  · have := List.mem_singleton.mp h0
    omega
  · obtain ⟨hr, hb⟩ := List.mem_filter.mp h0
    obtain ⟨k, hk, rfl⟩ := List.mem_map.mp hr
    have hk' := List.mem_range.mp hk
    rw [bordK_of (by omega)] at hb
    have := h2 k (by omega) hb
    omega
theorem one_list {x : Str} {i : Int} (h0 : 0 ≤ i) (h1 : i < x.length) : (Txt.item x i).cps.toList = [x.cps.toList[i.toNat]?.getD 0] := by
  rw [item_nonneg h0 h1]
theorem occ_one {y : Str} {a b e : Nat} (hy : y.cps.toList = [b, e]) {x : Str} (hx : x.cps.toList = [a]) : (Builtin.Str.occurrences y x 0 y.length 1).isEmpty = (!(a.beq b) && !(a.beq e)) := by
  have hyl : y.length = 2 := by rw [← len_list, hy]; rfl
  have hxl : x.length = 1 := by rw [← len_list, hx]; rfl
  have at_iff : ∀ i, StrLaws.At y x y.length i ↔ (i = 0 ∧ b = a) ∨ (i = 1 ∧ e = a) := by
    intro i
    unfold StrLaws.At
    rw [StrLaws.subAt_eq, hyl, hxl, hy, hx]
    constructor
    · rintro ⟨h1, h2⟩
      have : i = 0 ∨ i = 1 := by omega
      rcases this with rfl | rfl
      · left; exact ⟨rfl, by simpa using h2⟩
      · right; exact ⟨rfl, by simpa using h2⟩
    · rintro (⟨rfl, rfl⟩ | ⟨rfl, rfl⟩)
      · exact ⟨by omega, by simp⟩
      · exact ⟨by omega, by simp⟩
  rcases StrLaws.occ_head y x 1 (Nat.le_refl _) with ⟨h0, hn⟩ | ⟨i, r, h0, hi, _⟩
  · rw [h0]
    have n1 : a ≠ b := fun h => hn 0 ((at_iff 0).mpr (.inl ⟨rfl, h.symm⟩))
    have n2 : a ≠ e := fun h => hn 1 ((at_iff 1).mpr (.inr ⟨rfl, h.symm⟩))
    rw [Bool.eq_false_iff.mpr (fun h => n1 (Nat.eq_of_beq_eq_true h)), Bool.eq_false_iff.mpr (fun h => n2 (Nat.eq_of_beq_eq_true h))]
    rfl
  · rw [h0]
    have : Nat.beq a b = true ∨ Nat.beq a e = true := by
      rcases (at_iff i).mp hi with ⟨_, h⟩ | ⟨_, h⟩
      · exact .inl (by rw [h]; exact Nat.beq_refl a)
      · exact .inr (by rw [h]; exact Nat.beq_refl a)
    rcases this with h | h <;> rw [h]
    · rfl
    · rw [Bool.not_true, Bool.and_false]; rfl
theorem mul2_list {x : Str} {a : Nat} (h : x.cps.toList = [a]) : (Txt.mul x 2).cps.toList = [a, a] := by
  have hx : x.length = 1 := by rw [← len_list, h]; rfl
  unfold Txt.mul
  rw [if_neg (by decide), hx, if_neg (by decide)]
  show ((#[] ++ x.cps) ++ x.cps).toList = _
  rw [Array.toList_append, Array.toList_append, h]
  rfl
theorem odd_list {x : Str} {a b c d e f g h : Nat} (hx : x.cps.toList = [a, b, c, d, e, f, g, h]) : oddB x = oddN x.cps.toList := by
  have hl : x.length = 8 := by rw [← len_list, hx]; rfl
  have i0 : (Txt.item x 0).cps.toList = [a] := by rw [one_list (by decide) (by omega), hx]; rfl
  have i1 : (Txt.item x 1).cps.toList = [b] := by rw [one_list (by decide) (by omega), hx]; rfl
  have i4 : (Txt.item x 4).cps.toList = [e] := by rw [one_list (by decide) (by omega), hx]; rfl
  have s2 : (Txt.slice x none (some 2)).cps.toList = [a, b] := by rw [slice_to (by decide) (by omega), hx]; rfl
  unfold oddB
  rw [occ_one (a := a) (b := b) (e := e) (by rw [Str.cps_append, Array.toList_append, i1, i4]; rfl) i0]
  have hb : (x == Txt.slice x none (some 2) ++ Txt.mul (Txt.item x 0) 2 ++ Txt.item x 4 ++ Txt.item x 1 ++ Txt.mul (Txt.item x 0) 2) = (c.beq a && d.beq a && f.beq b && g.beq a && h.beq a) := by
    have hr : (Txt.slice x none (some 2) ++ Txt.mul (Txt.item x 0) 2 ++ Txt.item x 4 ++ Txt.item x 1 ++ Txt.mul (Txt.item x 0) 2).cps.toList = [a, b, a, a, e, b, a, a] := by
      simp only [Str.cps_append, Array.toList_append, mul2_list i0, i4, i1, s2]; rfl
    rw [Bool.eq_iff_iff, beq_iff_eq]
    simp only [Bool.and_eq_true, Nat.beq_eq]
    constructor
    · intro hh
      have h2 := congrArg (fun z => z.cps.toList) hh
      rw [hr, hx] at h2
      simp only [List.cons.injEq, and_true] at h2
      obtain ⟨_, _, h3, h4, _, h5, h6, h7⟩ := h2
      exact ⟨⟨⟨⟨h3, h4⟩, h5⟩, h6⟩, h7⟩
    · rintro ⟨⟨⟨⟨h3, h4⟩, h5⟩, h6⟩, h7⟩
      refine str_ext ?_
      rw [hr, hx, h3, h4, h5, h6, h7]
  rw [hb, hx]
  show _ = (c.beq a && d.beq a && f.beq b && g.beq a && h.beq a && !(a.beq b) && !(a.beq e))
  rw [Bool.and_assoc (c.beq a && d.beq a && f.beq b && g.beq a && h.beq a)]
theorem eight_of {l : List Nat} (h : l.length = 8) : ∃ a b c d e f g i, l = [a, b, c, d, e, f, g, i] := by
  match l, h with
  | [a, b, c, d, e, f, g, i], _ => exact ⟨a, b, c, d, e, f, g, i, rfl⟩
theorem odd_of {x : Str} (h : x.length = 8) : oddB x = oddN x.cps.toList := by
  obtain ⟨a, b, c, d, e, f, g, i, hx⟩ := eight_of (l := x.cps.toList) (by rw [len_list]; exact h)
  exact odd_list hx
theorem wfacts_of {W : Str} (h : IsWord W) : WFacts W := ⟨(check_word h).2.1, (check_word h).2.2, h⟩
theorem law_final {W z : Str} {l M : Int} {b1 b2 : Bool} (hWF : WFacts W) (hL : LongI W (rangeKs 0 ((W.length : Int) - 0).toNat) l) (hM : M ∈ [0] ++ borderL W) (hM2 : ∀ a, a ∈ [0] ++ borderL W → a ≤ M) (h1 : OddIs W b1) (hz : IsRev z W) (h2 : OddIs z b2) : l = (W.length : Int) - M - ((if b1 = true then 1 else 0) + (if b2 = true then 1 else 0)) := by
  have hc := (check_word hWF.word).1
  have h8 := hWF.len
  have hz8 : z.length = 8 := by rw [← len_list, hz.eq, List.length_reverse, len_list, h8]
  have e1 := h1.eq
  have e2 := h2.eq
  rw [odd_of h8] at e1
  rw [odd_of hz8, hz.eq] at e2
  unfold checkN at hc
  rw [e1, e2, len_list, h8] at hc
  have hc' := Nat.eq_of_beq_eq_true hc
  rw [long_cast hL, max_cast hM hM2, h8]
  cases b1 <;> cases b2 <;> simp only [Bool.false_eq_true, if_true, if_false] at hc' ⊢ <;> omega
end

section
open PySem PySem.W PySem.Calls PySem.Spec PyProof.Rows
local macro_rules | `(tactic| walk_at "call ref") => `(tactic| (k_here; (with_reducible show wpAny _ _ (call (Value.ref 61) _) _ _ _); k_dflt (refine' border_c ?p1 ?k1 ?k2 ?k3 ?k4 ?k5 ?kK ?kd ?ku ?_; walk_at "mine prem"; (case p1 => omega)); intro D9 vs9 n9 h9 tk9 I9 F9 N9 l9; (try k_lt l9); (try k_sweep); (try dsimp only); (try k_fold)))
local macro_rules | `(tactic| walk_at "call ref") => `(tactic| (k_here; (with_reducible show wpAny _ _ (call (Value.ref 54) _) _ _ _); k_dflt (refine' apart_c ?p1 ?p2 ?k1 ?k2 ?k3 ?k4 ?k5 ?kK ?kd ?ku ?_; walk_at "mine prem"; (case p1 => omega); (case p2 => walk_at "free of dots")); intro D9 vs9 n9 h9 tk9 I9 F9 N9 l9; (try k_lt l9); (try k_sweep); (try dsimp only); (try k_fold)))
local macro_rules | `(tactic| walk_at "free of dots") => `(tactic| first | assumption | exact noDots_from (by assumption) (by omega) (by omega) | exact noDots_both (by assumption) (by omega) (by omega) (by omega))
local macro_rules | `(tactic| walk_at "exec For Name List cons nil") => `(tactic| (k_here; (rename Fr _ _ _ _ => lF'); (with_unfolding_all refine' For_turns lF' ?_; k_whole)))
local macro_rules | `(tactic| walk_at "exec Assign cons ListComp") => `(tactic| (k_here; k_dflt (refine LCt.Assign_ListComp_T (F₀ := by k_asm) (by rfl) (by with_unfolding_all rfl) (by with_unfolding_all rfl) (by decide) (by rfl) (by decide) (by rfl) (by rfl) (by rfl) ?_)))
local macro_rules | `(tactic| walk_at "CompSrcT") => `(tactic| (k_here; (rename IntsAre _ (borderL _) => iB); k_dflt (refine LCt.CompSrcT.ledger (by rfl) (by k_asm) (by k_asm) (by k_mem) (by exact bord_size iB (by omega)) ?_; intro g'; (refine' kci_list (gDueOf iB) iB (fun k' t' I' oI' C' oC' D' m' ys' l' h' tk' E' hk' hI' hC' hx' F' N' off' ne' => ?_) ?_ (gDue_grows _)); (all_goals (try (simp only [LCg.Off3, and_true] at off'))); (all_goals (try ((show KPfMark → _); intro hMark'))); kcf_last)))
local macro_rules | `(tactic| walk_at "KCiEl") => `(tactic| exact kci_el (gDue_t (by omega)) (by with_unfolding_all rfl) (by with_unfolding_all rfl))
local macro_rules | `(tactic| walk_at "KCiNo") => `(tactic| exact kci_no (gDue_f (by omega)) (by with_unfolding_all rfl))
local macro_rules | `(tactic| walk_at "compareOp NotEq ref ref") => `(tactic| (k_here; k_dflt (refine ne_due (by exact News.isList (by k_asm) (by k_mem)) (by exact News.isList (by k_asm) (by k_mem)) (by with_reducible assumption) (by with_reducible assumption) (by walk_at "units here") ?_)))
local macro_rules | `(tactic| walk_at "units here") => `(tactic| first | exact Nat.lt_of_ble_eq_true rfl | ktr_units | omega)
local macro_rules | `(tactic| walk_at "subscriptTail Name Slice str ref") => `(tactic| ((with_reducible show wpAny _ _ (subscriptTail _ (Expr.Slice none none (some _) _) (Value.str _ _) (Value.ref _)) _ _ _); (with_reducible rename Fr _ _ _ _ => F'); (with_reducible rename News _ _ _ _ => N'); (refine my_rev (s := ⟨_, _, _, _, _⟩) F' N' (by omega) ?_; intro z' h' t' k' z1 z2 F' N')))
local macro_rules | `(tactic| walk_at "binaryOp Add str str") => `(tactic| (refine SBL.add (hsz := ?hz) ?_; (case hz => (simp only [Str.length_append, mul2_len, len_item, sizeLine_eq]; omega)); intro tA kA hLen))
local macro_rules | `(tactic| walk_at "binaryOp Add ref ref") => `(tactic| (k_here; k_dflt (refine kmk_add_ints (by k_asm) (by k_asm) (by exact News.isList (by k_asm) (by k_mem)) (by exact News.isList (by k_asm) (by k_mem)) (by exact .cons _ _ .nil) (by with_reducible assumption) ?_ (bord_len0 _ (by omega))); intro D' ws' h' F' N' l1 hI'; (try k_lt l1)))
local macro_rules | `(tactic| walk_at "call builtin:max") => `(tactic| (k_here; (show wpAny _ _ (call (Value.builtin "max") [Value.ref _]) _ _ _); k_dflt (refine kso_max (by k_asm) (by k_asm) (by exact News.isList (by k_asm) (by k_mem)) (by with_reducible assumption) (by simp) (by rfl) ?_); intro h' M' t' k' F' N' a' b'))
local macro_rules | `(tactic| walk_at "InvEndN") => `(tactic| ((rename News _ _ _ _ => nE'); (refine kst_end ⟨_, _⟩ (by assumption) nE' (by kst_inAny) (by first | (intro p hp; kst_mem) | kst_anyIn) (by rfl) (by kst_facts) (by kst_all) (by kst_same) (by kst_p))))
local macro_rules | `(tactic| walk_at "exec For Name Call cons nil") => `(tactic| (k_here; (rename Fr _ _ _ _ => lF'); (with_unfolding_all refine' For_invVF lF' ?k1 ?k2 ?_; (case k1 => exact rfl); (case k2 => exact rfl); k_whole)))

set_option maxHeartbeats 8000000 in
theorem law_holds : PySem.Challenge.rw_rl0040_01.Holds := hd (by
  w_strict (
    k_go0
    (all_goals try k_fold)
    walk_at "go call ref"
    (k_dflt (refine' word_c ?p1 ?p2 ?p3 ?k1 ?k2 ?k3 ?k4 ?k5 ?kK ?kd ?ku ?_; walk_at "mine prem"; (case p1 => assumption); (case p2 => assumption); (case p3 => omega)))
    intro W tW hpW tkW hWord FW NW
    (try dsimp only)
    (try k_fold)
    have hWF := wfacts_of hWord
    have hW5 : 5 ≤ W.length := Nat.le_trans (by decide : 5 ≤ 8) (Nat.le_of_eq hWF.len.symm)
    have hW20 : W.length ≤ 20 := Nat.le_trans (Nat.le_of_eq hWF.len) (by decide : 8 ≤ 20)
    have hWd := hWF.nd
    clear hWord
    walk_at "go UnrEndW"
    (rename News _ _ _ _ => N9)
    have N10 := cb_drop N9 (fun q hq => List.Mem.tail _ (List.Mem.tail _ (List.Mem.tail _ (List.Mem.tail _ hq))))
    clear N9
    (with_reducible show UnrEndW _ _ _ _ _ _)
    ktu_end
    (repeat ((rename IntsAre _ (apartL _ _) => hq); clear hq))
    walk_at "go UnrEndW"
    (rename News _ _ _ _ => N9)
    have N10 := cb_drop N9 (fun q hq => List.Mem.tail _ (List.Mem.tail _ (List.Mem.tail _ hq)))
    clear N9
    (with_reducible show UnrEndW _ _ _ _ _ _)
    ktu_end
    (repeat ((rename IntsAre _ (apartL _ _) => hq); clear hq))
    (repeat ((rename IntsAre _ (List.foldl _ _ _) => hq); clear hq))
    have hI0 : IntsAre [] [] := .nil
    walk_at "go pyIter"
    (k_with_none)
    (k_with "state" => first | exact longI_step (by with_reducible assumption) (by with_reducible assumption) | exact longI_start)
    k_state (fun pre l => LongI W pre l) "longest"
    (focus
      walk_at "go pyIter"
      (k_with_none)
      (k_with "state" => first | exact longJ_t (by with_reducible assumption) (by with_reducible assumption) | exact longJ_f (by with_reducible assumption) (by with_reducible assumption) | exact longJ_start)
      k_state_given ["longest!", "i"] (fun l0 i pre l => LongJ W i l0 pre l) "longest"
      (focus
        walk_at "go pyIter")
      k_with_none
      (k_with "state" => first | exact longI_step (by with_reducible assumption) (by with_reducible assumption) | exact longI_start)
      walk_at "go pyIter")
    walk_at "go UnrEndW"
    all_goals (first | have hO1 := odd_1 (x := W) (by with_reducible assumption) | have hO1 := odd_2 (x := W) (by with_reducible assumption) | have hO1 := odd_3 (x := W) (by with_reducible assumption) (by with_reducible assumption))
    all_goals (repeat ((with_reducible rename (_ ≤ _ ∧ _ ≤ _) => hq); clear hq))
    all_goals (repeat ((with_reducible rename (_ == _) = _ => hq); clear hq))
    all_goals (repeat ((with_reducible rename List.isEmpty _ = _ => hq); clear hq))
    all_goals (focus
      (with_reducible show UnrEndW _ _ _ _ _ _)
      ktu_end
      walk_at "go UnrEndW"
      all_goals (first | have hO2 := odd_1 (by with_reducible assumption) | have hO2 := odd_2 (by with_reducible assumption) | have hO2 := odd_3 (by with_reducible assumption) (by with_reducible assumption))
      all_goals (repeat ((with_reducible rename (_ ≤ _ ∧ _ ≤ _) => hq); clear hq))
      all_goals (focus
        (with_reducible show UnrEndW _ _ _ _ _ _)
        ktu_end
        walk_at "go compareOp Eq int int"
        have hF := law_final hWF kInv (by with_reducible assumption) (by with_reducible assumption) hO1 (by with_reducible assumption) hO2
        refine eq_tt (by first | (rw [hF]; rfl) | (simpa using hF)) ?_
        clear hF
        walk_at "go qqq"))))
end

end
end Mine

theorem PySem.Challenge.cw_rl0040_01_holds : PySem.Challenge.rw_rl0040_01.Holds := by
  exact Mine.law_holds
