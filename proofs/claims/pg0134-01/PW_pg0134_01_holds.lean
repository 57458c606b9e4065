import PyProof.Rows.All
import Wide.All
import OpenK.AllK
import Wide.FinOn
import Lean
import PySem.Challenge.RW_pg0134_01
set_option Elab.async false

/-! part Top0 -/
namespace Mine
section
open PySem PySem.W PyProof.Rows
set_option maxRecDepth 100000 in
set_option maxHeartbeats 8000000 in
open_top hd for PySem.Challenge.rw_pg0134_01
end
end Mine

/-! part Pure1 -/
namespace Mine
section
open PySem PySem.W PyProof.Rows
/-! texts as lists of code points -/
def ofL (l : List Nat) : Str := ⟨l.toArray⟩
theorem ofL_cps (l : List Nat) : (ofL l).cps.toList = l := by simp [ofL]
theorem ofL_length (l : List Nat) : (ofL l).length = l.length := by simp [ofL, Str.length]
theorem ofL_app (a b : List Nat) : ofL a ++ ofL b = ofL (a ++ b) := Str.ext' (by rw [Str.cps_append]; simp [ofL])
theorem ofL_inj {a b : List Nat} (h : ofL a = ofL b) : a = b := by have := congrArg (fun x => x.cps.toList) h; simpa [ofL] using this
theorem ofL_beq (a b : List Nat) : (ofL a == ofL b) = (a == b) := by
  by_cases h : a = b
  · subst h; simp
  · have : ofL a ≠ ofL b := fun e => h (ofL_inj e)
    rw [beq_eq_false_iff_ne.mpr this, beq_eq_false_iff_ne.mpr h]
theorem idx_hi {n : Nat} {j : Int} (l : Option Int) (h : (n : Int) ≤ j) : Builtin.Str.strSliceIndices l (some j) 1 n = Builtin.Str.strSliceIndices l (some (n : Int)) 1 n := by
  have h0 : ¬ j < 0 := by omega
  have h1 : ¬ ((n : Int) < 0) := by omega
  have h2 : (1 : Int) > 0 := by decide
  simp only [Builtin.Str.strSliceIndices, h0, h1, h2, if_false, if_true, Int.min_eq_right h, Int.min_self]
theorem slice_nn (l : List Nat) {a b : Nat} (hab : a ≤ b) (ha : a ≤ l.length) : Txt.slice (ofL l) (some (a : Int)) (some (b : Int)) = ofL ((l.drop a).take (b - a)) := by
  have hL := ofL_length l
  by_cases hb : b ≤ l.length
  · have := StrLaws.sliceText_nat (ofL l) hab (by rw [hL]; exact hb)
    rw [ofL_cps] at this
    exact this
  · have e : Txt.slice (ofL l) (some (a : Int)) (some (b : Int)) = Txt.slice (ofL l) (some (a : Int)) (some (((ofL l).length : Nat) : Int)) := by
      unfold Txt.slice
      rw [idx_hi _ (by rw [hL]; omega)]
    rw [e]
    have := StrLaws.sliceText_nat (ofL l) (a := a) (b := (ofL l).length) (by rw [hL]; exact ha) (Nat.le_refl _)
    rw [ofL_cps] at this
    refine Eq.trans this ?_
    rw [hL]
    unfold ofL
    rw [List.take_of_length_le (by simp), List.take_of_length_le (by simp; omega)]
theorem slice_0n (l : List Nat) (b : Nat) : Txt.slice (ofL l) none (some (b : Int)) = ofL (l.take b) := by
  have e : Txt.slice (ofL l) none (some (b : Int)) = Txt.slice (ofL l) (some ((0 : Nat) : Int)) (some (b : Int)) := by
    unfold Txt.slice
    rw [StrLaws.sliceIdx_none_lo]; rfl
  rw [e, slice_nn l (Nat.zero_le _) (Nat.zero_le _)]
  simp
theorem slice_n0 (l : List Nat) {a : Nat} (ha : a ≤ l.length) : Txt.slice (ofL l) (some (a : Int)) none = ofL (l.drop a) := by
  rw [slice_from_eq (b := ((ofL l).length : Int)) (by omega) (by rw [ofL_length]; omega) rfl, ofL_cps, ofL_length]
  unfold ofL
  rw [List.take_of_length_le (by simp)]
  simp
theorem slice_neg1 (l : List Nat) (h : 1 ≤ l.length) : Txt.slice (ofL l) none (some (-1)) = ofL (l.take (l.length - 1)) := by
  have := StrLaws.sliceText_to_neg (x := ofL l) (j := -1) (by decide) (by rw [ofL_length]; omega)
  rw [ofL_cps, ofL_length] at this
  refine Eq.trans this ?_
  unfold ofL
  rw [List.drop_zero, show ((-1 : Int) + (l.length : Int) - 0).toNat = l.length - 1 from by omega]
theorem item_at (l : List Nat) {k : Nat} (h : k < l.length) : Txt.item (ofL l) (k : Int) = ofL [l[k]] := by
  unfold Txt.item Txt.charAt
  rw [ofL_length, StrLaws.seqIndex_nonneg (by omega) (by omega)]
  simp [ofL, h]

/-! the quoted name: parse257 -/
def nameOf : List Nat → List Nat
  | [] => []
  | [c] => if c = 34 then [] else [c]
  | c :: d :: r => if c = 34 then (if d = 34 then 34 :: nameOf r else []) else c :: nameOf (d :: r)
/-- the invariant of parse257's loop: k signs are read, d stands for them -/
def PInv (t d : List Nat) (k : Nat) : Prop := k ≤ t.length ∧ d ++ nameOf (t.drop k) = nameOf t
theorem PInv.start (t : List Nat) : PInv t [] 0 := ⟨Nat.zero_le _, by simp⟩
theorem PInv.stop {t d : List Nat} {k : Nat} (h : PInv t d k) (hk : t.length ≤ k) : d = nameOf t := by
  have := h.2
  rw [List.drop_eq_nil_of_le hk] at this
  simpa [nameOf] using this
theorem nameOf_plain {c : Nat} (hc : c ≠ 34) (r : List Nat) : nameOf (c :: r) = c :: nameOf r := by
  cases r with
  | nil => simp [nameOf, hc]
  | cons e r => simp [nameOf, hc]
theorem PInv.plain {t d : List Nat} {k : Nat} (h : PInv t d k) (hk : k < t.length) (hc : t[k] ≠ 34) : PInv t (d ++ [t[k]]) (k + 1) := by
  refine ⟨hk, ?_⟩
  have := h.2
  rw [List.drop_eq_getElem_cons hk, nameOf_plain hc] at this
  simpa using this
theorem PInv.twice {t d : List Nat} {k : Nat} (h : PInv t d k) (hk : k + 1 < t.length) (hc : t[k] = 34) (hc' : t[k + 1] = 34) : PInv t (d ++ [34]) (k + 2) := by
  refine ⟨hk, ?_⟩
  have := h.2
  rw [List.drop_eq_getElem_cons (by omega), List.drop_eq_getElem_cons hk, hc, hc'] at this
  simpa [nameOf] using this
theorem PInv.endHere {t d : List Nat} {k : Nat} (h : PInv t d k) (hk : k < t.length) (hc : t[k] = 34) (hc' : ∀ h' : k + 1 < t.length, t[k + 1] ≠ 34) : d = nameOf t := by
  have := h.2
  rw [List.drop_eq_getElem_cons hk, hc] at this
  by_cases h1 : k + 1 < t.length
  · rw [List.drop_eq_getElem_cons h1] at this
    simpa [nameOf, hc' h1] using this
  · rw [List.drop_eq_nil_of_le (by omega)] at this
    simpa [nameOf] using this
end
end Mine

/-! part Pure2 -/
namespace Mine
section
open PySem PySem.W PyProof.Rows PySem.StrLaws PySem.Builtin PySem.Builtin.Str
/-! how often a sign stands in a text -/
theorem at_one {l : List Nat} {c i : Nat} : At (ofL l) ⟨#[c]⟩ (ofL l).length i ↔ l[i]? = some c := by
  have := subAt_one (ofL l) c i
  rw [ofL_cps] at this
  exact this
theorem count_chain (l : List Nat) (c : Nat) : ∀ (cuts : List Nat) (a f : Nat), ChainG (ofL l) ⟨#[c]⟩ (ofL l).length a cuts f → (∀ k, f ≤ k → ¬ At (ofL l) ⟨#[c]⟩ (ofL l).length k) → cuts.length = (l.drop a).count c
  | [], a, f, h, hn => by
    have e : f = a := h
    subst e
    refine (List.count_eq_zero.mpr ?_).symm
    intro hm
    obtain ⟨j, hj⟩ := List.getElem?_of_mem hm
    rw [List.getElem?_drop] at hj
    exact hn (f + j) (by omega) (at_one.mpr hj)
  | d :: r, a, f, h, hn => by
    obtain ⟨had, hA, hno, hr⟩ := h
    have ih := count_chain l c r (d + 1) f hr hn
    have hd := at_one.mp hA
    obtain ⟨hlt, hd'⟩ := List.getElem?_eq_some_iff.mp hd
    have e : l.drop a = (l.drop a).take (d - a) ++ c :: l.drop (d + 1) := by
      have h1 := List.take_append_drop (d - a) (l.drop a)
      rw [List.drop_drop, show a + (d - a) = d from by omega, List.drop_eq_getElem_cons hlt, hd'] at h1
      exact h1.symm
    have h0 : ((l.drop a).take (d - a)).count c = 0 := by
      refine List.count_eq_zero.mpr fun hm => ?_
      obtain ⟨j, hj⟩ := List.getElem?_of_mem hm
      have hj2 : j < d - a := by
        have h1 := (List.getElem?_eq_some_iff.mp hj).1
        simp at h1
        omega
      rw [List.getElem?_take_of_lt hj2, List.getElem?_drop] at hj
      exact hno (a + j) (by omega) (by omega) (at_one.mpr hj)
    rw [e, List.count_append, h0, List.count_cons_self, List.length_cons, ih]
    omega
theorem count_law (l : List Nat) (c : Nat) : Txt.count (ofL l) (ofL [c]) = (l.count c : Int) := by
  obtain ⟨f, h1, h2⟩ := occ_tight (ofL l) ⟨#[c]⟩ (by show 1 ≤ 1; exact Nat.le_refl _)
  have := count_chain l c _ 0 f h1 h2
  rw [List.drop_zero] at this
  unfold Txt.count
  exact congrArg (fun n : Nat => (n : Int)) this

/-! a text with two signs replaced -/
def repL (p q : Nat) (z : List Nat) : List Nat → List Nat
  | c :: d :: r => if c = p ∧ d = q then z ++ repL p q z r else c :: repL p q z (d :: r)
  | l => l
theorem at_two {l : List Nat} {p q i : Nat} : At (ofL l) ⟨#[p, q]⟩ (ofL l).length i ↔ ∃ r, l.drop i = p :: q :: r := by
  unfold At
  rw [subAt_eq, ofL_cps, ofL_length]
  show (i + 2 ≤ l.length ∧ ((l.drop i).take 2 == [p, q]) = true) ↔ _
  rw [beq_iff_eq]
  constructor
  · rintro ⟨-, h⟩
    refine ⟨(l.drop i).drop 2, ?_⟩
    have := List.take_append_drop 2 (l.drop i)
    rw [h] at this
    exact this.symm
  · rintro ⟨r, h⟩
    have hl := congrArg List.length h
    simp at hl
    refine ⟨by omega, by rw [h]; rfl⟩
theorem repL_no {p q : Nat} {z : List Nat} {c : Nat} {r : List Nat} (h : ¬ ∃ r', c :: r = p :: q :: r') : repL p q z (c :: r) = c :: repL p q z r := by
  cases r with
  | nil => rfl
  | cons d r =>
    have : ¬ (c = p ∧ d = q) := fun ⟨h1, h2⟩ => h ⟨r, by rw [h1, h2]⟩
    rw [repL, if_neg this]
theorem repL_skip {l : List Nat} {p q : Nat} {z : List Nat} : ∀ (n a d : Nat), d - a = n → a ≤ d → d ≤ l.length → (∀ k, a ≤ k → k < d → ¬ At (ofL l) ⟨#[p, q]⟩ (ofL l).length k) →
    repL p q z (l.drop a) = (l.drop a).take (d - a) ++ repL p q z (l.drop d)
  | 0, a, d, hn, had, _, _ => by
    have : a = d := by omega
    subst this
    simp
  | n + 1, a, d, hn, had, hd, hno => by
    have hlt : a < l.length := by omega
    have h1 := hno a (Nat.le_refl _) (by omega)
    rw [at_two] at h1
    have ih := repL_skip (z := z) n (a + 1) d (by omega) (by omega) hd (fun k h2 h3 => hno k (by omega) h3)
    rw [List.drop_eq_getElem_cons hlt] at h1 ⊢
    rw [repL_no h1, ih, show d - a = (d - (a + 1)) + 1 from by omega, List.take_succ_cons]
    rfl
theorem rep_chain (l : List Nat) (p q : Nat) (z : Str) : ∀ (cuts : List Nat) (a f : Nat), a ≤ l.length → ChainG (ofL l) ⟨#[p, q]⟩ (ofL l).length a cuts f → (∀ k, f ≤ k → ¬ At (ofL l) ⟨#[p, q]⟩ (ofL l).length k) →
    (Str.join z (partsFrom (ofL l) 2 a cuts)).cps.toList = repL p q z.cps.toList (l.drop a)
  | [], a, f, ha, h, hn => by
    have e : f = a := h
    subst e
    show (strSub (ofL l) f (ofL l).length).cps.toList = _
    rw [strSub_toList, ofL_cps, ofL_length, repL_skip (l.length - f) f l.length rfl ha (Nat.le_refl _) (fun k h1 _ => hn k h1)]
    simp [repL]
  | d :: r, a, f, ha, h, hn => by
    obtain ⟨had, hA, hno, hr⟩ := h
    obtain ⟨r', hd⟩ := at_two.mp hA
    have hl := congrArg List.length hd
    simp at hl
    have ih := rep_chain l p q z r (d + 2) f (by omega) hr hn
    obtain ⟨y, ys, hy⟩ := partsFrom_ne (ofL l) 2 (d + 2) r
    show (Str.join z (strSub (ofL l) a d :: partsFrom (ofL l) 2 (d + 2) r)).cps.toList = _
    rw [hy] at ih ⊢
    show (strSub (ofL l) a d ++ z ++ Str.join z (y :: ys)).cps.toList = _
    rw [Str.cps_append, Str.cps_append, Array.toList_append, Array.toList_append, ih, strSub_toList, ofL_cps, repL_skip (d - a) a d rfl had (by omega) hno, hd, repL, if_pos ⟨rfl, rfl⟩]
    have e2 : l.drop (d + 2) = r' := by
      rw [← List.drop_drop, hd]; rfl
    rw [e2, List.append_assoc]
theorem replace_law (l : List Nat) (p q : Nat) (z : List Nat) : Txt.replace (ofL l) (ofL [p, q]) (ofL z) = ofL (repL p q z l) := by
  obtain ⟨f, h1, h2⟩ := occ_tight (ofL l) ⟨#[p, q]⟩ (by show 1 ≤ 2; decide)
  have key := rep_chain l p q (ofL z) _ 0 f (Nat.zero_le _) h1 h2
  rw [ofL_cps, List.drop_zero] at key
  have e2 : (⟨#[p, q]⟩ : Str) = ofL [p, q] := rfl
  rw [e2] at key h1 h2
  unfold Txt.replace
  split
  · rename_i h
    rw [Bool.or_eq_true] at h
    have h' : (occurrences (ofL l) (ofL [p, q]) 0 (ofL l).length ((ofL l).length + 1)) = [] := by
      rcases h with h | h
      · simpa using h
      · exfalso
        simp [ofL_length] at h
    rw [h'] at key
    have : (Str.join (ofL z) (partsFrom (ofL l) 2 0 [])).cps.toList = l := by
      show (strSub (ofL l) 0 (ofL l).length).cps.toList = _
      rw [sub_whole, ofL_cps]
    rw [this] at key
    rw [← key]
  · rw [glued_eq_join, partsBetween_eq]
    refine Str.ext' ?_
    rw [show (ofL [p, q]).length = 2 from rfl]
    apply Array.toList_inj.mp
    rw [key, ofL_cps]

/-! the names that the replies tell -/
def headCons (c : Nat) : List (List Nat) → List (List Nat)
  | [] => [[c]]
  | x :: r => (c :: x) :: r
def repsOf : List Nat → List (List Nat)
  | [] => [[]]
  | [c] => if c = 34 then [[], []] else [[c]]
  | c :: d :: r => if c = 34 then (if d = 34 then headCons 34 (repsOf r) else [] :: repsOf (d :: r)) else headCons c (repsOf (d :: r))
def usedOf (u : List Nat) : Nat := (nameOf u).length + (nameOf u).count 34 + 1
theorem reps_used : ∀ u : List Nat, (usedOf u ≤ u.length ∧ repsOf u = nameOf u :: repsOf (u.drop (usedOf u))) ∨ (usedOf u = u.length + 1 ∧ repsOf u = [nameOf u])
  | [] => .inr ⟨rfl, rfl⟩
  | [c] => by
    by_cases hc : c = 34
    · subst hc
      exact .inl ⟨by decide, by decide⟩
    · refine .inr ⟨?_, ?_⟩
      · have : (c == 34) = false := by simpa using hc
        simp [usedOf, nameOf, hc, List.count_cons, this]
      · simp [repsOf, nameOf, hc]
  | c :: d :: r => by
    by_cases hc : c = 34
    · subst hc
      by_cases hd : d = 34
      · subst hd
        have ih := reps_used r
        have e1 : nameOf (34 :: 34 :: r) = 34 :: nameOf r := by simp [nameOf]
        have e2 : repsOf (34 :: 34 :: r) = headCons 34 (repsOf r) := by simp [repsOf]
        have e3 : usedOf (34 :: 34 :: r) = usedOf r + 2 := by
          unfold usedOf
          rw [e1, List.length_cons, List.count_cons_self]
          omega
        rw [e1, e2, e3]
        rcases ih with ⟨h1, h2⟩ | ⟨h1, h2⟩
        · refine .inl ⟨by simp; exact h1, ?_⟩
          rw [h2]
          rfl
        · refine .inr ⟨by simp; exact h1, ?_⟩
          rw [h2]
          rfl
      · have e1 : nameOf (34 :: d :: r) = [] := by simp [nameOf, hd]
        have e2 : repsOf (34 :: d :: r) = [] :: repsOf (d :: r) := by simp [repsOf, hd]
        have e3 : usedOf (34 :: d :: r) = 1 := by unfold usedOf; rw [e1]; rfl
        rw [e1, e2, e3]
        exact .inl ⟨by simp, rfl⟩
    · have ih := reps_used (d :: r)
      have e1 : nameOf (c :: d :: r) = c :: nameOf (d :: r) := by simp [nameOf, hc]
      have e2 : repsOf (c :: d :: r) = headCons c (repsOf (d :: r)) := by simp [repsOf, hc]
      have e3 : usedOf (c :: d :: r) = usedOf (d :: r) + 1 := by
        unfold usedOf
        rw [e1, List.length_cons, List.count_cons_of_ne hc]
        omega
      rw [e1, e2, e3]
      rcases ih with ⟨h1, h2⟩ | ⟨h1, h2⟩
      · refine .inl ⟨by simp at h1 ⊢; exact h1, ?_⟩
        rw [h2]
        rfl
      · refine .inr ⟨by simp at h1 ⊢; exact h1, ?_⟩
        rw [h2]
        rfl
/-- the invariant of _law_by_replies' loop: k signs are read, ns are the names so far -/
def RInv (t : List Nat) (ns : List (List Nat)) (k : Nat) : Prop := (k ≤ t.length ∧ ns ++ repsOf (t.drop k) = repsOf t) ∨ (k = t.length + 1 ∧ ns = repsOf t)
theorem RInv.start (t : List Nat) : RInv t [] 0 := .inl ⟨Nat.zero_le _, by simp⟩
theorem RInv.turn {t : List Nat} {ns : List (List Nat)} {k : Nat} (h : RInv t ns k) (hk : k ≤ t.length) : RInv t (ns ++ [nameOf (t.drop k)]) (k + usedOf (t.drop k)) := by
  rcases h with ⟨-, h⟩ | ⟨h, -⟩
  · rcases reps_used (t.drop k) with ⟨h1, h2⟩ | ⟨h1, h2⟩
    · refine .inl ⟨by simp at h1; omega, ?_⟩
      rw [h2, List.drop_drop] at h
      rw [List.append_assoc]
      exact h
    · refine .inr ⟨by simp at h1; omega, ?_⟩
      rw [h2] at h
      exact h
  · omega
theorem RInv.stop {t : List Nat} {ns : List (List Nat)} {k : Nat} (h : RInv t ns k) (hk : t.length < k) : ns = repsOf t := by
  rcases h with ⟨h, -⟩ | ⟨-, h⟩
  · omega
  · exact h
theorem nameOf_le : ∀ u : List Nat, (nameOf u).length ≤ u.length
  | [] => Nat.le_refl _
  | [c] => by
    by_cases hc : c = 34
    · simp [nameOf, hc]
    · simp [nameOf, hc]
  | c :: d :: r => by
    have h1 := nameOf_le r
    have h2 := nameOf_le (d :: r)
    by_cases hc : c = 34
    · by_cases hd : d = 34
      · simp [nameOf, hc, hd]; omega
      · simp [nameOf, hc, hd]
    · simp [nameOf, hc] at h2 ⊢; omega
end
end Mine

/-! part P1 -/
namespace Mine
section
open PySem PySem.W PyProof.Rows PySem.Calls PySem.Spec
theorem lit257 : Str.ofString "257 \"" = ofL [50, 53, 55, 32, 34] := by decide +kernel
theorem lit257a : Str.ofString "257" = ofL [50, 53, 55] := by decide +kernel
theorem lit257b : Str.ofString " \"" = ofL [32, 34] := by decide +kernel
theorem litQ : Str.ofString "\"" = ofL [34] := by decide +kernel
theorem litE : Str.ofString "" = ofL [] := by decide +kernel
theorem ite_cases {c : Prop} [Decidable c] {a b : Prop} (h1 : c → a) (h2 : ¬ c → b) : if c then a else b := by
  by_cases hc : c
  · rw [if_pos hc]; exact h1 hc
  · rw [if_neg hc]; exact h2 hc
theorem int_eq {v : Option Value} {x y : Int} {t : Tok} (h : v = some (.int x t)) (e : x = y) : v = some (.int y t) := e ▸ h
theorem str_eq {v : Option Value} {x y : Str} {t : Tok} (h : v = some (.str x t)) (e : x = y) : v = some (.str y t) := e ▸ h
theorem reply_len (t : List Nat) : (Str.ofString "257 \"" ++ ofL t).length = 5 + t.length := by
  rw [lit257, ofL_app, ofL_length]; simp; omega
theorem reply_item (t : List Nat) {k : Nat} (hk : k < t.length) : Txt.item (Str.ofString "257 \"" ++ ofL t) (5 + (k : Int)) = ofL [t[k]] := by
  rw [lit257, ofL_app, show (5 + (k : Int)) = ((5 + k : Nat) : Int) from by omega, item_at _ (by simp; omega)]
  simp [Nat.add_comm 5 k]
theorem reply_a (t : List Nat) : ¬ ((Txt.slice (Str.ofString "257 \"" ++ ofL t) none (some 3) != Str.ofString "257") = true) := by
  rw [lit257, lit257a, ofL_app, show (3 : Int) = ((3 : Nat) : Int) from rfl, slice_0n]
  simp
theorem reply_b (t : List Nat) : ¬ ((Txt.slice (Str.ofString "257 \"" ++ ofL t) (some 3) (some 5) != Str.ofString " \"") = true) := by
  rw [lit257, lit257b, ofL_app, show (3 : Int) = ((3 : Nat) : Int) from rfl, show (5 : Int) = ((5 : Nat) : Int) from rfl, slice_nn _ (by decide) (by simp)]
  simp
section
variable {w : World} {mean : ExcName → Option Value} {mg mb : Str → Option Value} {dp un : Nat} {gd : Option (List Code)} {cn : Str} {cs : Scope} {a : Addr} {ccd : Value} {cl : List (Str × Addr)} {outer : List Env} {A₀ : Around} {base h₀ : Heap} {L : Addr} {m : Str → Option Value} {news : List (Addr × Obj)} {s : Shared} {Q E : Value → Shared → Prop}
set_option maxRecDepth 100000 in
set_option maxHeartbeats 8000000 in
theorem parse257_spec 
  (t : List Nat) (tk : Tok) (B : Below A₀ base outer h₀) (F : Fr h₀ L s.heap m) (X : (hd.heap_39 w.params).In h₀) (N : News h₀ L s.heap news) (T : Top hd.view_39 (looseW hd.view_39 [Str.ofString "EXACT_TOKEN_TYPES"]) mean mg mb h₀) (hk : cs.kind = .function) (hdp : dp + 2 < recursionLimit) (hun : un + 16 < cLine)
  (hlen : t.length ≤ 1000)
  (hret : ∀ (t' : Tok) h' tk', Fr h₀ L h' m → News h₀ L h' news → Q (.str (ofL (nameOf t)) t') { s with heap := h', toks := tk' }) :
  wpAny (model PySem.Challenge.rw_pg0134_01.row.prog w) (ktrTop dp un gd cn cs L a ccd cl outer) (call (.ref 46) [.str (Str.ofString "257 \"" ++ ofL t) tk]) Q E s := by
  have hz : (ofL t).length ≤ 1000 := by rw [ofL_length]; exact hlen
  revert X; k_fill; intro X
  refine wpAny_call ?_
  k_dflt cell_enter
  (repeat' (first | (k_unfold; (try dsimp only)) | (with_reducible refine ite_pos (rfl : true = true) ?_) | (with_reducible refine ite_neg Bool.false_ne_true ?_) | (k_closed; k_dflt (first | refine ite_pos (by decide) ?_ | refine ite_neg (by decide) ?_)) | ((fail_if_success (with_reducible show KswEnd _ _ _ _ _ _ _ _ _ _ _ _)); (fail_if_success (with_reducible show InvEndN _ _ _ _ _ _ _)); (fail_if_success (with_reducible show wpAny _ _ (exec (Stmt.While _ _ _ _) _) _ _ _)); (fail_if_success (with_reducible show ite _ _ _)); (first | (k_end; wrow_close) | walk1 | (dsimp only; walk1) | ((simp only [List.cons_append, List.nil_append]); walk1) | (leave1; walk_say "STEP leave1"; try dsimp only))) | fail "no step"))
  refine ite_neg (reply_a t) ?_
  (repeat' (first | (k_unfold; (try dsimp only)) | (with_reducible refine ite_pos (rfl : true = true) ?_) | (with_reducible refine ite_neg Bool.false_ne_true ?_) | (k_closed; k_dflt (first | refine ite_pos (by decide) ?_ | refine ite_neg (by decide) ?_)) | ((fail_if_success (with_reducible show KswEnd _ _ _ _ _ _ _ _ _ _ _ _)); (fail_if_success (with_reducible show InvEndN _ _ _ _ _ _ _)); (fail_if_success (with_reducible show wpAny _ _ (exec (Stmt.While _ _ _ _) _) _ _ _)); (fail_if_success (with_reducible show ite _ _ _)); (first | (k_end; wrow_close) | walk1 | (dsimp only; walk1) | ((simp only [List.cons_append, List.nil_append]); walk1) | (leave1; walk_say "STEP leave1"; try dsimp only))) | fail "no step"))
  refine ite_neg (reply_b t) ?_
  (repeat' (first | (k_unfold; (try dsimp only)) | (with_reducible refine ite_pos (rfl : true = true) ?_) | (with_reducible refine ite_neg Bool.false_ne_true ?_) | (k_closed; k_dflt (first | refine ite_pos (by decide) ?_ | refine ite_neg (by decide) ?_)) | ((fail_if_success (with_reducible show KswEnd _ _ _ _ _ _ _ _ _ _ _ _)); (fail_if_success (with_reducible show InvEndN _ _ _ _ _ _ _)); (fail_if_success (with_reducible show wpAny _ _ (exec (Stmt.While _ _ _ _) _) _ _ _)); (fail_if_success (with_reducible show ite _ _ _)); (first | (k_end; wrow_close) | walk1 | (dsimp only; walk1) | ((simp only [List.cons_append, List.nil_append]); walk1) | (leave1; walk_say "STEP leave1"; try dsimp only))) | fail "no step"))
  (rename Fr _ _ _ _ => lF); (rename News _ _ _ _ => lN)
  with_unfolding_all refine' ksw_while (σ := Nat × Tok × List Nat × Tok) (fun _ => news) (fun c => [(Str.ofString "i", .int (5 + (c.1 : Int)) c.2.1), (Str.ofString "dirname", .str (ofL c.2.2.1) c.2.2.2)]) (fun _ => True) [Str.ofString "c"] (fun c => PInv t c.2.2.1 c.1 ∧ c.2.2.1.length ≤ c.1) (fun c => t.length - c.1) (0, _, [], _) lF lN True.intro ?kk ?kp ?_
  case kk => exact List.forall_mem_cons.mpr ⟨by with_unfolding_all rfl, List.forall_mem_cons.mpr ⟨by rw [← litE]; with_unfolding_all rfl, List.forall_mem_nil _⟩⟩
  case kp => exact ⟨PInv.start t, Nat.zero_le _⟩
  rintro ⟨k, ti, d, td⟩ u h tk9 - ⟨hP, hd⟩ F9 N9
  clear lF lN
  (try k_fold)
  dsimp only [kstB] at hP hd F9
  have hn : (Str.ofString "257 \"").length = 5 := by rw [lit257, ofL_length]; rfl
  have hm : (ofL t).length = t.length := ofL_length t
  (repeat' (first | (k_unfold; (try dsimp only)) | (with_reducible refine ite_pos (rfl : true = true) ?_) | (with_reducible refine ite_neg Bool.false_ne_true ?_) | (k_closed; k_dflt (first | refine ite_pos (by decide) ?_ | refine ite_neg (by decide) ?_)) | ((fail_if_success (with_reducible show KswEnd _ _ _ _ _ _ _ _ _ _ _ _)); (fail_if_success (with_reducible show InvEndN _ _ _ _ _ _ _)); (fail_if_success (with_reducible show wpAny _ _ (exec (Stmt.While _ _ _ _) _) _ _ _)); (fail_if_success (with_reducible show ite _ _ _)); (first | (k_end; wrow_close) | walk1 | (dsimp only; walk1) | ((simp only [List.cons_append, List.nil_append]); walk1) | (leave1; walk_say "STEP leave1"; try dsimp only))) | fail "no step"))
  refine ite_cases (fun hc => ?_) (fun hc => ?_)
  · have hkt : k < t.length := by simp only [decide_eq_true_eq] at hc; omega
    (repeat' (first | (k_unfold; (try dsimp only)) | (with_reducible refine ite_pos (rfl : true = true) ?_) | (with_reducible refine ite_neg Bool.false_ne_true ?_) | (k_closed; k_dflt (first | refine ite_pos (by decide) ?_ | refine ite_neg (by decide) ?_)) | ((fail_if_success (with_reducible show KswEnd _ _ _ _ _ _ _ _ _ _ _ _)); (fail_if_success (with_reducible show InvEndN _ _ _ _ _ _ _)); (fail_if_success (with_reducible show wpAny _ _ (exec (Stmt.While _ _ _ _) _) _ _ _)); (fail_if_success (with_reducible show ite _ _ _)); (fail_if_success (with_reducible show wpAny _ _ (subscriptTail _ _ (Value.str _ _) (Value.int _ _)) _ _ _)); (first | (k_end; wrow_close) | walk1 | (dsimp only; walk1) | ((simp only [List.cons_append, List.nil_append]); walk1) | (leave1; walk_say "STEP leave1"; try dsimp only))) | fail "no step"))
    refine KXi.item (n := 5 + t.length) (reply_len t) (by omega) (by omega) (by omega) ?_
    intro hi1
    rw [reply_item t hkt]
    have hs1 : (ofL d).length ≤ 1000 := by rw [ofL_length]; omega
    have hs2 : (ofL [t[k]]).length = 1 := ofL_length _
    (repeat' (first | (k_unfold; (try dsimp only)) | (with_reducible refine ite_pos (rfl : true = true) ?_) | (with_reducible refine ite_neg Bool.false_ne_true ?_) | (k_closed; k_dflt (first | refine ite_pos (by decide) ?_ | refine ite_neg (by decide) ?_)) | ((fail_if_success (with_reducible show KswEnd _ _ _ _ _ _ _ _ _ _ _ _)); (fail_if_success (with_reducible show InvEndN _ _ _ _ _ _ _)); (fail_if_success (with_reducible show wpAny _ _ (exec (Stmt.While _ _ _ _) _) _ _ _)); (fail_if_success (with_reducible show ite _ _ _)); (fail_if_success (with_reducible show wpAny _ _ (subscriptTail _ _ (Value.str _ _) (Value.int _ _)) _ _ _)); (first | (k_end; wrow_close) | walk1 | (dsimp only; walk1) | ((simp only [List.cons_append, List.nil_append]); walk1) | (leave1; walk_say "STEP leave1"; try dsimp only))) | fail "no step"))
    refine ite_cases (fun hc => ?_) (fun hc => ?_)
    · have hq : t[k] = 34 := by
        rw [litQ, ofL_beq] at hc
        simpa using hc
      (repeat' (first | (k_unfold; (try dsimp only)) | (with_reducible refine ite_pos (rfl : true = true) ?_) | (with_reducible refine ite_neg Bool.false_ne_true ?_) | (k_closed; k_dflt (first | refine ite_pos (by decide) ?_ | refine ite_neg (by decide) ?_)) | ((fail_if_success (with_reducible show KswEnd _ _ _ _ _ _ _ _ _ _ _ _)); (fail_if_success (with_reducible show InvEndN _ _ _ _ _ _ _)); (fail_if_success (with_reducible show wpAny _ _ (exec (Stmt.While _ _ _ _) _) _ _ _)); (fail_if_success (with_reducible show ite _ _ _)); (fail_if_success (with_reducible show wpAny _ _ (subscriptTail _ _ (Value.str _ _) (Value.int _ _)) _ _ _)); (first | (k_end; wrow_close) | walk1 | (dsimp only; walk1) | ((simp only [List.cons_append, List.nil_append]); walk1) | (leave1; walk_say "STEP leave1"; try dsimp only))) | fail "no step"))
      refine ite_cases (fun hc2 => ?_) (fun hc2 => ?_)
      · have hk2 : t.length ≤ k + 1 := by simp only [decide_eq_true_eq] at hc2; omega
        (repeat' (first | (k_unfold; (try dsimp only)) | (with_reducible refine ite_pos (rfl : true = true) ?_) | (with_reducible refine ite_neg Bool.false_ne_true ?_) | (k_closed; k_dflt (first | refine ite_pos (by decide) ?_ | refine ite_neg (by decide) ?_)) | ((fail_if_success (with_reducible show KswEnd _ _ _ _ _ _ _ _ _ _ _ _)); (fail_if_success (with_reducible show InvEndN _ _ _ _ _ _ _)); (fail_if_success (with_reducible show wpAny _ _ (exec (Stmt.While _ _ _ _) _) _ _ _)); (fail_if_success (with_reducible show ite _ _ _)); (fail_if_success (with_reducible show wpAny _ _ (subscriptTail _ _ (Value.str _ _) (Value.int _ _)) _ _ _)); (first | (k_end; wrow_close) | walk1 | (dsimp only; walk1) | ((simp only [List.cons_append, List.nil_append]); walk1) | (leave1; walk_say "STEP leave1"; try dsimp only))) | fail "no step"))
        rw [PInv.endHere hP hkt hq (fun h' => absurd h' (by omega))]
        exact hret _ _ _ (by k_asm) (by k_asm)
      · have hk2 : k + 1 < t.length := by simp only [decide_eq_true_eq] at hc2; omega
        (repeat' (first | (k_unfold; (try dsimp only)) | (with_reducible refine ite_pos (rfl : true = true) ?_) | (with_reducible refine ite_neg Bool.false_ne_true ?_) | (k_closed; k_dflt (first | refine ite_pos (by decide) ?_ | refine ite_neg (by decide) ?_)) | ((fail_if_success (with_reducible show KswEnd _ _ _ _ _ _ _ _ _ _ _ _)); (fail_if_success (with_reducible show InvEndN _ _ _ _ _ _ _)); (fail_if_success (with_reducible show wpAny _ _ (exec (Stmt.While _ _ _ _) _) _ _ _)); (fail_if_success (with_reducible show ite _ _ _)); (fail_if_success (with_reducible show wpAny _ _ (subscriptTail _ _ (Value.str _ _) (Value.int _ _)) _ _ _)); (first | (k_end; wrow_close) | walk1 | (dsimp only; walk1) | ((simp only [List.cons_append, List.nil_append]); walk1) | (leave1; walk_say "STEP leave1"; try dsimp only))) | fail "no step"))
        rw [show (5 + (k : Int) + 1) = 5 + ((k + 1 : Nat) : Int) from by omega]
        refine KXi.item (n := 5 + t.length) (reply_len t) (by omega) (by omega) (by omega) ?_
        intro hi2
        rw [reply_item t hk2]
        (repeat' (first | (k_unfold; (try dsimp only)) | (with_reducible refine ite_pos (rfl : true = true) ?_) | (with_reducible refine ite_neg Bool.false_ne_true ?_) | (k_closed; k_dflt (first | refine ite_pos (by decide) ?_ | refine ite_neg (by decide) ?_)) | ((fail_if_success (with_reducible show KswEnd _ _ _ _ _ _ _ _ _ _ _ _)); (fail_if_success (with_reducible show InvEndN _ _ _ _ _ _ _)); (fail_if_success (with_reducible show wpAny _ _ (exec (Stmt.While _ _ _ _) _) _ _ _)); (fail_if_success (with_reducible show ite _ _ _)); (fail_if_success (with_reducible show wpAny _ _ (subscriptTail _ _ (Value.str _ _) (Value.int _ _)) _ _ _)); (first | (k_end; wrow_close) | walk1 | (dsimp only; walk1) | ((simp only [List.cons_append, List.nil_append]); walk1) | (leave1; walk_say "STEP leave1"; try dsimp only))) | fail "no step"))
        refine ite_cases (fun hc3 => ?_) (fun hc3 => ?_)
        · have hq2 : t[k + 1] ≠ 34 := by
            rw [litQ, bne, ofL_beq] at hc3
            simpa using hc3
          (repeat' (first | (k_unfold; (try dsimp only)) | (with_reducible refine ite_pos (rfl : true = true) ?_) | (with_reducible refine ite_neg Bool.false_ne_true ?_) | (k_closed; k_dflt (first | refine ite_pos (by decide) ?_ | refine ite_neg (by decide) ?_)) | ((fail_if_success (with_reducible show KswEnd _ _ _ _ _ _ _ _ _ _ _ _)); (fail_if_success (with_reducible show InvEndN _ _ _ _ _ _ _)); (fail_if_success (with_reducible show wpAny _ _ (exec (Stmt.While _ _ _ _) _) _ _ _)); (fail_if_success (with_reducible show ite _ _ _)); (fail_if_success (with_reducible show wpAny _ _ (subscriptTail _ _ (Value.str _ _) (Value.int _ _)) _ _ _)); (first | (k_end; wrow_close) | walk1 | (dsimp only; walk1) | ((simp only [List.cons_append, List.nil_append]); walk1) | (leave1; walk_say "STEP leave1"; try dsimp only))) | fail "no step"))
          rw [PInv.endHere hP hkt hq (fun h' => hq2)]
          exact hret _ _ _ (by k_asm) (by k_asm)
        · have hq2 : t[k + 1] = 34 := by
            rw [litQ, bne, ofL_beq] at hc3
            simpa using hc3
          (repeat' (first | (k_unfold; (try dsimp only)) | (with_reducible refine ite_pos (rfl : true = true) ?_) | (with_reducible refine ite_neg Bool.false_ne_true ?_) | (k_closed; k_dflt (first | refine ite_pos (by decide) ?_ | refine ite_neg (by decide) ?_)) | ((fail_if_success (with_reducible show KswEnd _ _ _ _ _ _ _ _ _ _ _ _)); (fail_if_success (with_reducible show InvEndN _ _ _ _ _ _ _)); (fail_if_success (with_reducible show wpAny _ _ (exec (Stmt.While _ _ _ _) _) _ _ _)); (fail_if_success (with_reducible show ite _ _ _)); (fail_if_success (with_reducible show wpAny _ _ (subscriptTail _ _ (Value.str _ _) (Value.int _ _)) _ _ _)); (first | (k_end; wrow_close) | walk1 | (dsimp only; walk1) | ((simp only [List.cons_append, List.nil_append]); walk1) | (leave1; walk_say "STEP leave1"; try dsimp only))) | fail "no step"))
          refine' ksw_end (k + 2, ?_, d ++ [34], ?_) (by assumption) (by assumption) (fun _ hp => hp) True.intro (List.forall_mem_cons.mpr ⟨int_eq (by with_unfolding_all rfl) ?e1, List.forall_mem_cons.mpr ⟨str_eq (by with_unfolding_all rfl) ?e2, List.forall_mem_nil _⟩⟩) ?kr ⟨PInv.twice hP hk2 hq hq2, ?e3⟩ ?km
          case e1 => omega
          case e2 => rw [ofL_app, hq]
          case kr => ksw_same
          case e3 => simp; omega
          case km => dsimp only; omega
    · have hq : t[k] ≠ 34 := by
        rw [litQ, ofL_beq] at hc
        simpa using hc
      (repeat' (first | (k_unfold; (try dsimp only)) | (with_reducible refine ite_pos (rfl : true = true) ?_) | (with_reducible refine ite_neg Bool.false_ne_true ?_) | (k_closed; k_dflt (first | refine ite_pos (by decide) ?_ | refine ite_neg (by decide) ?_)) | ((fail_if_success (with_reducible show KswEnd _ _ _ _ _ _ _ _ _ _ _ _)); (fail_if_success (with_reducible show InvEndN _ _ _ _ _ _ _)); (fail_if_success (with_reducible show wpAny _ _ (exec (Stmt.While _ _ _ _) _) _ _ _)); (fail_if_success (with_reducible show ite _ _ _)); (fail_if_success (with_reducible show wpAny _ _ (subscriptTail _ _ (Value.str _ _) (Value.int _ _)) _ _ _)); (first | (k_end; wrow_close) | walk1 | (dsimp only; walk1) | ((simp only [List.cons_append, List.nil_append]); walk1) | (leave1; walk_say "STEP leave1"; try dsimp only))) | fail "no step"))
      refine' ksw_end (k + 1, ?_, d ++ [t[k]], ?_) (by assumption) (by assumption) (fun _ hp => hp) True.intro (List.forall_mem_cons.mpr ⟨int_eq (by with_unfolding_all rfl) ?e1, List.forall_mem_cons.mpr ⟨str_eq (by with_unfolding_all rfl) ?e2, List.forall_mem_nil _⟩⟩) ?kr ⟨PInv.plain hP hkt hq, ?e3⟩ ?km
      case e1 => omega
      case e2 => rw [ofL_app]
      case kr => ksw_same
      case e3 => simp; omega
      case km => dsimp only; omega
  · have hkt : t.length ≤ k := by simp only [decide_eq_true_eq] at hc; omega
    (repeat' (first | (k_unfold; (try dsimp only)) | (with_reducible refine ite_pos (rfl : true = true) ?_) | (with_reducible refine ite_neg Bool.false_ne_true ?_) | (k_closed; k_dflt (first | refine ite_pos (by decide) ?_ | refine ite_neg (by decide) ?_)) | ((fail_if_success (with_reducible show KswEnd _ _ _ _ _ _ _ _ _ _ _ _)); (fail_if_success (with_reducible show InvEndN _ _ _ _ _ _ _)); (fail_if_success (with_reducible show wpAny _ _ (exec (Stmt.While _ _ _ _) _) _ _ _)); (fail_if_success (with_reducible show ite _ _ _)); (first | (k_end; wrow_close) | walk1 | (dsimp only; walk1) | ((simp only [List.cons_append, List.nil_append]); walk1) | (leave1; walk_say "STEP leave1"; try dsimp only))) | fail "no step"))
    rw [PInv.stop hP hkt]
    exact hret _ _ _ (by k_asm) (by k_asm)
end
end
end Mine

/-! part P2 -/
namespace Mine
section
open PySem PySem.W PyProof.Rows PySem.Calls PySem.Spec
theorem ne_of_all {news : List (Addr × Obj)} {d : Addr} (h : ∀ p ∈ news, p.1 < d) : ∀ p ∈ news, p.1 ≠ d := fun p hp => Nat.ne_of_lt (h p hp)
section
local macro_rules | `(tactic| k_all) => `(tactic| exact ne_of_all (by assumption))
local macro_rules | `(tactic| size_fits) => `(tactic| ((try simp only [Array.size_push, List.size_toArray, Str.length_append, ofL_length, sizeLine_eq]); omega))
variable {w : World} {mean : ExcName → Option Value} {mg mb : Str → Option Value} {dp un : Nat} {gd : Option (List Code)} {cn : Str} {cs : Scope} {a : Addr} {ccd : Value} {cl : List (Str × Addr)} {outer : List Env} {A₀ : Around} {base h₀ : Heap} {L : Addr} {m : Str → Option Value} {news : List (Addr × Obj)} {s : Shared} {Q E : Value → Shared → Prop}
set_option maxRecDepth 100000 in
set_option maxHeartbeats 8000000 in
theorem replies_spec
  (t : List Nat) (tk : Tok) (B : Below A₀ base outer h₀) (F : Fr h₀ L s.heap m) (X : (hd.heap_39 w.params).In h₀) (N : News h₀ L s.heap news) (T : Top hd.view_39 (looseW hd.view_39 [Str.ofString "EXACT_TOKEN_TYPES"]) mean mg mb h₀) (hk : cs.kind = .function) (hdp : dp + 4 < recursionLimit) (hun : un + 32 < cLine)
  (hlen : t.length ≤ 100)
  (hret : ∀ r ws n h' tk', Fr h₀ L h' m → News h₀ L h' ((r, listOf (List.toArray ws) n) :: news) → (∀ p ∈ news, p.1 < r) → StrsAre ws ((repsOf t).map ofL) → Q (.ref r) { s with heap := h', toks := tk' }) :
  wpAny (model PySem.Challenge.rw_pg0134_01.row.prog w) (ktrTop dp un gd cn cs L a ccd cl outer) (call (.ref 77) [.str (ofL t) tk]) Q E s := by
  have hz : (ofL t).length ≤ 100 := by rw [ofL_length]; exact hlen
  revert X; k_fill; intro X
  refine wpAny_call ?_
  k_dflt cell_enter
  (repeat' (first | (k_unfold; (try dsimp only)) | (with_reducible refine ite_pos (rfl : true = true) ?_) | (with_reducible refine ite_neg Bool.false_ne_true ?_) | (k_closed; k_dflt (first | refine ite_pos (by decide) ?_ | refine ite_neg (by decide) ?_)) | ((fail_if_success (with_reducible show KswEnd _ _ _ _ _ _ _ _ _ _ _ _)); (fail_if_success (with_reducible show InvEndN _ _ _ _ _ _ _)); (fail_if_success (with_reducible show wpAny _ _ (exec (Stmt.While _ _ _ _) _) _ _ _)); (fail_if_success (with_reducible show ite _ _ _)); (fail_if_success (with_reducible show wpAny _ _ (call (Value.ref _) _) _ _ _)); (first | (k_end; wrow_close) | walk1 | (dsimp only; walk1) | ((simp only [List.cons_append, List.nil_append]); walk1) | (leave1; walk_say "STEP leave1"; try dsimp only))) | fail "no step"))
  (rename ∀ p ∈ news, p.1 < _ => l1); (rename Fr _ _ _ _ => lF); (rename News _ _ _ _ => lN); rename_i lA _ _ _ _
  with_unfolding_all refine' ksw_while (σ := Nat × Tok × List Value × Nat × List (List Nat)) (fun c => (_, listOf c.2.2.1.toArray c.2.2.2.1) :: news) (fun c => [(Str.ofString "place", .int (c.1 : Int) c.2.1)]) (fun c => StrsAre c.2.2.1 (c.2.2.2.2.map ofL)) [Str.ofString "name"] (fun c => RInv t c.2.2.2.2 c.1 ∧ c.2.2.2.2.length ≤ c.1 ∧ c.1 ≤ t.length + 1) (fun c => t.length + 1 - c.1) (0, _, [], 0, []) lF lN StrsAre.nil ?kk ?kp ?_
  case kk => exact List.forall_mem_cons.mpr ⟨by with_unfolding_all rfl, List.forall_mem_nil _⟩
  case kp => exact ⟨RInv.start t, Nat.zero_le _, Nat.zero_le _⟩
  rintro ⟨k, ti, ws, nn, ns⟩ u h tk9 hS ⟨hP, hd, hd2⟩ F9 N9
  clear lF lN
  (try k_fold)
  dsimp only [kstB] at hP hd hd2 F9 N9 hS
  (repeat' (first | (k_unfold; (try dsimp only)) | (with_reducible refine ite_pos (rfl : true = true) ?_) | (with_reducible refine ite_neg Bool.false_ne_true ?_) | (k_closed; k_dflt (first | refine ite_pos (by decide) ?_ | refine ite_neg (by decide) ?_)) | ((fail_if_success (with_reducible show KswEnd _ _ _ _ _ _ _ _ _ _ _ _)); (fail_if_success (with_reducible show InvEndN _ _ _ _ _ _ _)); (fail_if_success (with_reducible show wpAny _ _ (exec (Stmt.While _ _ _ _) _) _ _ _)); (fail_if_success (with_reducible show ite _ _ _)); (fail_if_success (with_reducible show wpAny _ _ (call (Value.ref _) _) _ _ _)); (first | (k_end; wrow_close) | walk1 | (dsimp only; walk1) | ((simp only [List.cons_append, List.nil_append]); walk1) | (leave1; walk_say "STEP leave1"; try dsimp only))) | fail "no step"))
  refine ite_cases (fun hc => ?_) (fun hc => ?_)
  · have hkt : k ≤ t.length := by simp only [decide_eq_true_eq] at hc; rw [ofL_length] at hc; omega
    (repeat' (first | (k_unfold; (try dsimp only)) | (with_reducible refine ite_pos (rfl : true = true) ?_) | (with_reducible refine ite_neg Bool.false_ne_true ?_) | (k_closed; k_dflt (first | refine ite_pos (by decide) ?_ | refine ite_neg (by decide) ?_)) | ((fail_if_success (with_reducible show KswEnd _ _ _ _ _ _ _ _ _ _ _ _)); (fail_if_success (with_reducible show InvEndN _ _ _ _ _ _ _)); (fail_if_success (with_reducible show wpAny _ _ (exec (Stmt.While _ _ _ _) _) _ _ _)); (fail_if_success (with_reducible show ite _ _ _)); (fail_if_success (with_reducible show wpAny _ _ (call (Value.ref _) _) _ _ _)); (first | (k_end; wrow_close) | walk1 | (dsimp only; walk1) | ((simp only [List.cons_append, List.nil_append]); walk1) | (leave1; walk_say "STEP leave1"; try dsimp only))) | fail "no step"))
    rw [slice_n0 t hkt]
    k_dflt (refine' parse257_spec (t.drop k) _ ?cB ?cF ?cX ?cN ?cT ?cK ?cD ?cU ?cL ?_; (case cB => k_asm); (case cF => k_asm); (case cX => k_asm); (case cN => k_asm); (case cT => k_asm); (case cK => first | exact rfl | assumption); (case cD => exact Nat.lt_of_le_of_lt (by show dp + 1 + 2 ≤ dp + 4; omega) hdp); (case cU => exact Nat.lt_of_le_of_lt (by show un + 3 + 16 ≤ un + 32; omega) hun); (case cL => (simp; omega)))
    intro t9 h9 tk9 F9 N9
    (try dsimp only); (try k_fold)
    have hw : ws.length ≤ 101 := by rw [hS.length, List.length_map]; omega
    have hs1 : (ofL (nameOf (t.drop k))).length ≤ 100 := by rw [ofL_length]; have := nameOf_le (t.drop k); simp at this; omega
    (repeat' (first | (k_unfold; (try dsimp only)) | (with_reducible refine ite_pos (rfl : true = true) ?_) | (with_reducible refine ite_neg Bool.false_ne_true ?_) | (k_closed; k_dflt (first | refine ite_pos (by decide) ?_ | refine ite_neg (by decide) ?_)) | ((fail_if_success (with_reducible show KswEnd _ _ _ _ _ _ _ _ _ _ _ _)); (fail_if_success (with_reducible show InvEndN _ _ _ _ _ _ _)); (fail_if_success (with_reducible show wpAny _ _ (exec (Stmt.While _ _ _ _) _) _ _ _)); (fail_if_success (with_reducible show ite _ _ _)); (fail_if_success (with_reducible show wpAny _ _ (call (Value.ref _) _) _ _ _)); (first | (k_end; wrow_close) | walk1 | (dsimp only; walk1) | ((simp only [List.cons_append, List.nil_append]); walk1) | (leave1; walk_say "STEP leave1"; try dsimp only))) | fail "no step"))
    (rename News _ _ _ _ => nE); simp only [List.push_toArray] at nE
    refine' ksw_end (k + usedOf (t.drop k), ?_, ws ++ [.str (ofL (nameOf (t.drop k))) t9], nn + 1, ns ++ [nameOf (t.drop k)]) (by assumption) (by assumption) (fun _ hp => hp) ?kf (List.forall_mem_cons.mpr ⟨int_eq (by with_unfolding_all rfl) ?e1, List.forall_mem_nil _⟩) ?kr ⟨RInv.turn hP hkt, ?e3, ?e4⟩ ?km
    case e1 => rw [litQ, count_law, ofL_length]; unfold usedOf; omega
    case kf => rw [List.map_append]; exact hS.append' (.cons _ _ .nil)
    case kr => ksw_same
    case e3 => dsimp only; rw [List.length_append]; unfold usedOf; simp; omega
    case e4 => dsimp only; rcases reps_used (t.drop k) with ⟨h1, -⟩ | ⟨h1, -⟩ <;> simp at h1 <;> omega
    case km => dsimp only; unfold usedOf; omega
  · have hkt : t.length < k := by simp only [decide_eq_true_eq] at hc; rw [ofL_length] at hc; omega
    (repeat' (first | (k_unfold; (try dsimp only)) | (with_reducible refine ite_pos (rfl : true = true) ?_) | (with_reducible refine ite_neg Bool.false_ne_true ?_) | (k_closed; k_dflt (first | refine ite_pos (by decide) ?_ | refine ite_neg (by decide) ?_)) | ((fail_if_success (with_reducible show KswEnd _ _ _ _ _ _ _ _ _ _ _ _)); (fail_if_success (with_reducible show InvEndN _ _ _ _ _ _ _)); (fail_if_success (with_reducible show wpAny _ _ (exec (Stmt.While _ _ _ _) _) _ _ _)); (fail_if_success (with_reducible show ite _ _ _)); (fail_if_success (with_reducible show wpAny _ _ (call (Value.ref _) _) _ _ _)); (first | (k_end; wrow_close) | walk1 | (dsimp only; walk1) | ((simp only [List.cons_append, List.nil_append]); walk1) | (leave1; walk_say "STEP leave1"; try dsimp only))) | fail "no step"))
    exact hret _ _ _ _ _ (by k_asm) (by k_asm) l1 (by rw [← RInv.stop hP hkt]; exact hS)
end
end
end Mine

/-! part P3 -/
namespace Mine
section
open PySem PySem.W PyProof.Rows PySem.Calls PySem.Spec
/-- what is known of the text that the law builds -/
def TInv (n : Nat) (l : List Nat) : Prop := l.length ≤ 11 + n ∧ (∀ x ∈ l, x < 55296) ∧ ∃ r, l = 34 :: r
theorem lit0 : Str.ofString "\"=a\"\"=b\"\"c\"" = ofL [34, 61, 97, 34, 34, 61, 98, 34, 34, 99, 34] := by decide +kernel
theorem TInv.start : TInv 0 [34, 61, 97, 34, 34, 61, 98, 34, 34, 99, 34] := ⟨by decide, by decide, _, rfl⟩
theorem TInv.more {n : Nat} {l : List Nat} (h : TInv n l) {c : Nat} (hc : c < 55296) : TInv (n + 1) (l ++ [c]) := by
  obtain ⟨h1, h2, r, h3⟩ := h
  refine ⟨by simp; omega, ?_, r ++ [c], by rw [h3]; rfl⟩
  intro x hx
  rcases List.mem_append.mp hx with hx | hx
  · exact h2 x hx
  · rw [List.mem_singleton.mp hx]; exact hc
theorem litSigns : Str.ofString "()[]:,;+-*/|&<>=.%{}~^@!" = ofL [40, 41, 91, 93, 58, 44, 59, 43, 45, 42, 47, 124, 38, 60, 62, 61, 46, 37, 123, 125, 126, 94, 64, 33] := by decide +kernel
theorem litEq : Str.ofString "=" = ofL [61] := by decide +kernel
theorem sign_item (x : Int) : ∃ c, c < 55296 ∧ Txt.item (Str.ofString "()[]:,;+-*/|&<>=.%{}~^@!") (x.fmod 24) = ofL [c] := by
  have h0 : 0 ≤ x.fmod 24 := fmod_lo x (by decide)
  have h1 : x.fmod 24 < 24 := fmod_hi x (by decide)
  obtain ⟨k, hk⟩ := Int.eq_ofNat_of_zero_le h0
  rw [hk] at h1 ⊢
  have h2 : k < 24 := by omega
  rw [litSigns, item_at _ (by simpa using h2)]
  refine ⟨_, ?_, rfl⟩
  have : ∀ c ∈ [40, 41, 91, 93, 58, 44, 59, 43, 45, 42, 47, 124, 38, 60, 62, 61, 46, 37, 123, 125, 126, 94, 64, 33], c < 55296 := by decide
  exact this _ (List.getElem_mem _)
section
local macro_rules | `(tactic| k_all) => `(tactic| exact ne_of_all (by assumption))
local macro_rules | `(tactic| size_fits) => `(tactic| ((try simp only [Array.size_push, List.size_toArray, Str.length_append, ofL_length, sizeLine_eq]); omega))
variable {w : World} {mean : ExcName → Option Value} {mg mb : Str → Option Value} {dp un : Nat} {gd : Option (List Code)} {cn : Str} {cs : Scope} {a : Addr} {ccd : Value} {cl : List (Str × Addr)} {outer : List Env} {A₀ : Around} {base h₀ : Heap} {L : Addr} {m : Str → Option Value} {news : List (Addr × Obj)} {s : Shared} {Q E : Value → Shared → Prop}
set_option maxRecDepth 100000 in
set_option maxHeartbeats 8000000 in
theorem text_spec
  {l : Addr} {vs : List Value} {ns : List Int} (hl : base.IsList l vs.toArray) (hi : IntsAre vs ns) (hlen : ns.length ≤ 63) (B : Below A₀ base outer h₀) (F : Fr h₀ L s.heap m) (X : (hd.heap_39 w.params).In h₀) (N : News h₀ L s.heap news) (T : Top hd.view_39 (looseW hd.view_39 [Str.ofString "EXACT_TOKEN_TYPES"]) mean mg mb h₀) (hk : cs.kind = .function) (hdp : dp + 2 < recursionLimit) (hun : un + 16 < cLine)
  (hret : ∀ t tk h' tk', TInv 20 t → Fr h₀ L h' m → News h₀ L h' news → Q (.str (ofL t) tk) { s with heap := h', toks := tk' }) :
  wpAny (model PySem.Challenge.rw_pg0134_01.row.prog w) (ktrTop dp un gd cn cs L a ccd cl outer) (call (.ref 70) [.ref l]) Q E s := by
  revert X; k_fill; intro X
  refine wpAny_call ?_
  k_dflt cell_enter
  (repeat' (first | (k_unfold; (try dsimp only)) | (with_reducible refine ite_pos (rfl : true = true) ?_) | (with_reducible refine ite_neg Bool.false_ne_true ?_) | (k_closed; k_dflt (first | refine ite_pos (by decide) ?_ | refine ite_neg (by decide) ?_)) | ((fail_if_success (with_reducible show KswEnd _ _ _ _ _ _ _ _ _ _ _ _)); (fail_if_success (with_reducible show InvEndN _ _ _ _ _ _ _)); (fail_if_success (with_reducible show wpAny _ _ (exec (Stmt.While _ _ _ _) _) _ _ _)); (fail_if_success (with_reducible show ite _ _ _)); (fail_if_success (with_reducible show wpAny _ _ (call (Value.ref _) _) _ _ _)); (fail_if_success (with_reducible show wpAny _ _ (exec (Stmt.For _ _ _ _ _) _) _ _ _)); (first | (k_end; wrow_close) | walk1 | (dsimp only; walk1) | ((simp only [List.cons_append, List.nil_append]); walk1) | (leave1; walk_say "STEP leave1"; try dsimp only))) | fail "no step"))
  (rename Fr _ _ _ _ => lF'); (with_unfolding_all refine' For_invVF lF' ?k1 ?k2 ?_; (case k1 => exact rfl); (case k2 => exact rfl); k_whole)
  (repeat' (first | (k_unfold; (try dsimp only)) | (with_reducible refine ite_pos (rfl : true = true) ?_) | (with_reducible refine ite_neg Bool.false_ne_true ?_) | (k_closed; k_dflt (first | refine ite_pos (by decide) ?_ | refine ite_neg (by decide) ?_)) | ((fail_if_success (with_reducible show KswEnd _ _ _ _ _ _ _ _ _ _ _ _)); (fail_if_success (with_reducible show InvEndN _ _ _ _ _ _ _)); (fail_if_success (with_reducible show wpAny _ _ (exec (Stmt.While _ _ _ _) _) _ _ _)); (fail_if_success (with_reducible show ite _ _ _)); (fail_if_success (with_reducible show wpAny _ _ (call (Value.ref _) _) _ _ _)); (fail_if_success (with_reducible show wpAny _ _ (exec (Stmt.For _ _ _ _ _) _) _ _ _)); (fail_if_success (with_reducible show wpAny _ _ (pyIter _) _ _ _)); (first | (k_end; wrow_close) | walk1 | (dsimp only; walk1) | ((simp only [List.cons_append, List.nil_append]); walk1) | (leave1; walk_say "STEP leave1"; try dsimp only))) | fail "no step"))
  (rename ∀ p ∈ news, p.1 < _ => l1); (rename Fr _ _ _ _ => lF); (rename News _ _ _ _ => lN); (rename IntsAre _ (List.take 20 ns) => hI')
  with_unfolding_all refine' kst_listL (σ := List Nat × Tok) (ns := ns.take 20) (fun _ => (_, listOf _ 0) :: news) (fun c => [(Str.ofString "text", .str (ofL c.1) c.2)]) (fun _ => True) [] (fun pre c => TInv pre.length c.1) ([34, 61, 97, 34, 34, 61, 98, 34, 34, 99, 34], _) rfl (fun _ => List.Mem.head _) hI' lF lN True.intro ?kk TInv.start ?_ ?_
  case kk => exact List.forall_mem_cons.mpr ⟨by rw [← lit0]; with_unfolding_all rfl, List.forall_mem_nil _⟩
  · rintro ⟨t, tt⟩ pre post n nt u h tk9 own he hm hoff - hP F9 N9
    clear lF lN
    have hpre : pre.length ≤ 20 := by have := congrArg List.length he; simp at this; omega
    dsimp only [kstB] at hP F9 N9 hoff
    have hs1 : (ofL t).length ≤ 31 := by rw [ofL_length]; have := hP.1; omega
    (try k_fold)
    (repeat' (first | (k_unfold; (try dsimp only)) | (with_reducible refine ite_pos (rfl : true = true) ?_) | (with_reducible refine ite_neg Bool.false_ne_true ?_) | (k_closed; k_dflt (first | refine ite_pos (by decide) ?_ | refine ite_neg (by decide) ?_)) | ((fail_if_success (with_reducible show KswEnd _ _ _ _ _ _ _ _ _ _ _ _)); (fail_if_success (with_reducible show InvEndN _ _ _ _ _ _ _)); (fail_if_success (with_reducible show wpAny _ _ (exec (Stmt.While _ _ _ _) _) _ _ _)); (fail_if_success (with_reducible show ite _ _ _)); (fail_if_success (with_reducible show wpAny _ _ (call (Value.ref _) _) _ _ _)); (fail_if_success (with_reducible show wpAny _ _ (exec (Stmt.For _ _ _ _ _) _) _ _ _)); (fail_if_success (with_reducible show wpAny _ _ (pyIter _) _ _ _)); (first | (k_end; wrow_close) | walk1 | (dsimp only; walk1) | ((simp only [List.cons_append, List.nil_append]); walk1) | (leave1; walk_say "STEP leave1"; try dsimp only))) | fail "no step"))
    refine ite_cases (fun hc => ?_) (fun hc => ?_)
    · (repeat' (first | (k_unfold; (try dsimp only)) | (with_reducible refine ite_pos (rfl : true = true) ?_) | (with_reducible refine ite_neg Bool.false_ne_true ?_) | (k_closed; k_dflt (first | refine ite_pos (by decide) ?_ | refine ite_neg (by decide) ?_)) | ((fail_if_success (with_reducible show KswEnd _ _ _ _ _ _ _ _ _ _ _ _)); (fail_if_success (with_reducible show InvEndN _ _ _ _ _ _ _)); (fail_if_success (with_reducible show wpAny _ _ (exec (Stmt.While _ _ _ _) _) _ _ _)); (fail_if_success (with_reducible show ite _ _ _)); (fail_if_success (with_reducible show wpAny _ _ (call (Value.ref _) _) _ _ _)); (fail_if_success (with_reducible show wpAny _ _ (exec (Stmt.For _ _ _ _ _) _) _ _ _)); (fail_if_success (with_reducible show wpAny _ _ (pyIter _) _ _ _)); (first | (k_end; wrow_close) | walk1 | (dsimp only; walk1) | ((simp only [List.cons_append, List.nil_append]); walk1) | (leave1; walk_say "STEP leave1"; try dsimp only))) | fail "no step"))
      refine' kst_end (t ++ [34], ?_) (by assumption) (by assumption) (fun p hp => List.mem_append.mpr (.inl hp)) (fun p hp => List.mem_append.mpr (.inr hp)) rfl True.intro (List.forall_mem_cons.mpr ⟨str_eq (by with_unfolding_all rfl) ?e2, List.forall_mem_nil _⟩) ?kr ?kp
      case e2 => rw [litQ, ofL_app]
      case kr => (intro z h1 h2 _; have h4 := h2 _ (List.Mem.head _); dsimp only at h4; simp [h1, h4])
      case kp => dsimp only; rw [List.length_append]; exact TInv.more hP (by decide)
    · (repeat' (first | (k_unfold; (try dsimp only)) | (with_reducible refine ite_pos (rfl : true = true) ?_) | (with_reducible refine ite_neg Bool.false_ne_true ?_) | (k_closed; k_dflt (first | refine ite_pos (by decide) ?_ | refine ite_neg (by decide) ?_)) | ((fail_if_success (with_reducible show KswEnd _ _ _ _ _ _ _ _ _ _ _ _)); (fail_if_success (with_reducible show InvEndN _ _ _ _ _ _ _)); (fail_if_success (with_reducible show wpAny _ _ (exec (Stmt.While _ _ _ _) _) _ _ _)); (fail_if_success (with_reducible show ite _ _ _)); (fail_if_success (with_reducible show wpAny _ _ (call (Value.ref _) _) _ _ _)); (fail_if_success (with_reducible show wpAny _ _ (exec (Stmt.For _ _ _ _ _) _) _ _ _)); (fail_if_success (with_reducible show wpAny _ _ (pyIter _) _ _ _)); (first | (k_end; wrow_close) | walk1 | (dsimp only; walk1) | ((simp only [List.cons_append, List.nil_append]); walk1) | (leave1; walk_say "STEP leave1"; try dsimp only))) | fail "no step"))
      refine ite_cases (fun hc => ?_) (fun hc => ?_)
      · (repeat' (first | (k_unfold; (try dsimp only)) | (with_reducible refine ite_pos (rfl : true = true) ?_) | (with_reducible refine ite_neg Bool.false_ne_true ?_) | (k_closed; k_dflt (first | refine ite_pos (by decide) ?_ | refine ite_neg (by decide) ?_)) | ((fail_if_success (with_reducible show KswEnd _ _ _ _ _ _ _ _ _ _ _ _)); (fail_if_success (with_reducible show InvEndN _ _ _ _ _ _ _)); (fail_if_success (with_reducible show wpAny _ _ (exec (Stmt.While _ _ _ _) _) _ _ _)); (fail_if_success (with_reducible show ite _ _ _)); (fail_if_success (with_reducible show wpAny _ _ (call (Value.ref _) _) _ _ _)); (fail_if_success (with_reducible show wpAny _ _ (exec (Stmt.For _ _ _ _ _) _) _ _ _)); (fail_if_success (with_reducible show wpAny _ _ (pyIter _) _ _ _)); (first | (k_end; wrow_close) | walk1 | (dsimp only; walk1) | ((simp only [List.cons_append, List.nil_append]); walk1) | (leave1; walk_say "STEP leave1"; try dsimp only))) | fail "no step"))
        refine' kst_end (t ++ [61], ?_) (by assumption) (by assumption) (fun p hp => List.mem_append.mpr (.inl hp)) (fun p hp => List.mem_append.mpr (.inr hp)) rfl True.intro (List.forall_mem_cons.mpr ⟨str_eq (by with_unfolding_all rfl) ?e2, List.forall_mem_nil _⟩) ?kr ?kp
        case e2 => rw [litEq, ofL_app]
        case kr => (intro z h1 h2 _; have h4 := h2 _ (List.Mem.head _); dsimp only at h4; simp [h1, h4])
        case kp => dsimp only; rw [List.length_append]; exact TInv.more hP (by decide)
      · (repeat' (first | (k_unfold; (try dsimp only)) | (with_reducible refine ite_pos (rfl : true = true) ?_) | (with_reducible refine ite_neg Bool.false_ne_true ?_) | (k_closed; k_dflt (first | refine ite_pos (by decide) ?_ | refine ite_neg (by decide) ?_)) | ((fail_if_success (with_reducible show KswEnd _ _ _ _ _ _ _ _ _ _ _ _)); (fail_if_success (with_reducible show InvEndN _ _ _ _ _ _ _)); (fail_if_success (with_reducible show wpAny _ _ (exec (Stmt.While _ _ _ _) _) _ _ _)); (fail_if_success (with_reducible show ite _ _ _)); (fail_if_success (with_reducible show wpAny _ _ (call (Value.ref _) _) _ _ _)); (fail_if_success (with_reducible show wpAny _ _ (exec (Stmt.For _ _ _ _ _) _) _ _ _)); (fail_if_success (with_reducible show wpAny _ _ (pyIter _) _ _ _)); (first | (k_end; wrow_close) | walk1 | (dsimp only; walk1) | ((simp only [List.cons_append, List.nil_append]); walk1) | (leave1; walk_say "STEP leave1"; try dsimp only))) | fail "no step"))
        refine ite_cases (fun hc => ?_) (fun hc => ?_)
        · (repeat' (first | (k_unfold; (try dsimp only)) | (with_reducible refine ite_pos (rfl : true = true) ?_) | (with_reducible refine ite_neg Bool.false_ne_true ?_) | (k_closed; k_dflt (first | refine ite_pos (by decide) ?_ | refine ite_neg (by decide) ?_)) | ((fail_if_success (with_reducible show KswEnd _ _ _ _ _ _ _ _ _ _ _ _)); (fail_if_success (with_reducible show InvEndN _ _ _ _ _ _ _)); (fail_if_success (with_reducible show wpAny _ _ (exec (Stmt.While _ _ _ _) _) _ _ _)); (fail_if_success (with_reducible show ite _ _ _)); (fail_if_success (with_reducible show wpAny _ _ (call (Value.ref _) _) _ _ _)); (fail_if_success (with_reducible show wpAny _ _ (exec (Stmt.For _ _ _ _ _) _) _ _ _)); (fail_if_success (with_reducible show wpAny _ _ (pyIter _) _ _ _)); (first | (k_end; wrow_close) | walk1 | (dsimp only; walk1) | ((simp only [List.cons_append, List.nil_append]); walk1) | (leave1; walk_say "STEP leave1"; try dsimp only))) | fail "no step"))
          obtain ⟨c, hc1, hc2⟩ := sign_item (n.fdiv 6)
          refine' kst_end (t ++ [c], ?_) (by assumption) (by assumption) (fun p hp => List.mem_append.mpr (.inl hp)) (fun p hp => List.mem_append.mpr (.inr hp)) rfl True.intro (List.forall_mem_cons.mpr ⟨str_eq (by with_unfolding_all rfl) ?e2, List.forall_mem_nil _⟩) ?kr ?kp
          case e2 => rw [hc2, ofL_app]
          case kr => (intro z h1 h2 _; have h4 := h2 _ (List.Mem.head _); dsimp only at h4; simp [h1, h4])
          case kp => dsimp only; rw [List.length_append]; exact TInv.more hP hc1
        · (repeat' (first | (k_unfold; (try dsimp only)) | (with_reducible refine ite_pos (rfl : true = true) ?_) | (with_reducible refine ite_neg Bool.false_ne_true ?_) | (k_closed; k_dflt (first | refine ite_pos (by decide) ?_ | refine ite_neg (by decide) ?_)) | ((fail_if_success (with_reducible show KswEnd _ _ _ _ _ _ _ _ _ _ _ _)); (fail_if_success (with_reducible show InvEndN _ _ _ _ _ _ _)); (fail_if_success (with_reducible show wpAny _ _ (exec (Stmt.While _ _ _ _) _) _ _ _)); (fail_if_success (with_reducible show ite _ _ _)); (fail_if_success (with_reducible show wpAny _ _ (call (Value.ref _) _) _ _ _)); (fail_if_success (with_reducible show wpAny _ _ (exec (Stmt.For _ _ _ _ _) _) _ _ _)); (fail_if_success (with_reducible show wpAny _ _ (pyIter _) _ _ _)); (first | (k_end; wrow_close) | walk1 | (dsimp only; walk1) | ((simp only [List.cons_append, List.nil_append]); walk1) | (leave1; walk_say "STEP leave1"; try dsimp only))) | fail "no step"))
          have h0 : 0 ≤ (n.fdiv 6).fmod 55296 := fmod_lo _ (by decide)
          have h1 : (n.fdiv 6).fmod 55296 < 55296 := fmod_hi _ (by decide)
          refine' kst_end (t ++ [((n.fdiv 6).fmod 55296).toNat], ?_) (by assumption) (by assumption) (fun p hp => List.mem_append.mpr (.inl hp)) (fun p hp => List.mem_append.mpr (.inr hp)) rfl True.intro (List.forall_mem_cons.mpr ⟨str_eq (by with_unfolding_all rfl) ?e2, List.forall_mem_nil _⟩) ?kr ?kp
          case e2 => exact ofL_app t [_]
          case kr => (intro z h1 h2 _; have h4 := h2 _ (List.Mem.head _); dsimp only at h4; simp [h1, h4])
          case kp => dsimp only; rw [List.length_append]; exact TInv.more hP (by omega)
  · rintro ⟨t, tt⟩ u h tk9 - hP F9 N9
    clear lF lN
    dsimp only [kstB] at hP F9 N9
    (try k_fold)
    (repeat' (first | (k_unfold; (try dsimp only)) | (with_reducible refine ite_pos (rfl : true = true) ?_) | (with_reducible refine ite_neg Bool.false_ne_true ?_) | (k_closed; k_dflt (first | refine ite_pos (by decide) ?_ | refine ite_neg (by decide) ?_)) | ((fail_if_success (with_reducible show KswEnd _ _ _ _ _ _ _ _ _ _ _ _)); (fail_if_success (with_reducible show InvEndN _ _ _ _ _ _ _)); (fail_if_success (with_reducible show wpAny _ _ (exec (Stmt.While _ _ _ _) _) _ _ _)); (fail_if_success (with_reducible show ite _ _ _)); (fail_if_success (with_reducible show wpAny _ _ (call (Value.ref _) _) _ _ _)); (fail_if_success (with_reducible show wpAny _ _ (exec (Stmt.For _ _ _ _ _) _) _ _ _)); (fail_if_success (with_reducible show wpAny _ _ (pyIter _) _ _ _)); (first | (k_end; wrow_close) | walk1 | (dsimp only; walk1) | ((simp only [List.cons_append, List.nil_append]); walk1) | (leave1; walk_say "STEP leave1"; try dsimp only))) | fail "no step"))
    (rename News _ _ _ _ => nE)
    exact hret _ _ _ _ ⟨by have := hP.1; simp at this; omega, hP.2⟩ (by k_asm) (fun p hp => nE p (.tail _ hp))
end
end
end Mine

/-! part P4a -/
namespace Mine
section
open PySem PySem.W PyProof.Rows PySem.Calls PySem.Spec
open LCg
/-! a list comprehension over a text's signs, and its turns -/
section
variable {prog : Program} {w : World} {A : Around} {E : Value → Shared → Prop} {s : Shared} {h₀ : Heap} {L : Addr} {m : Str → Option Value} {env : Env}
def StrSrc (prog : Program) (w : World) (A : Around) (h₀ : Heap) (L : Addr) (m : Str → Option Value) (env : Env) (elt : Expr) (x : Str) (scope : Scope) (cl : List (Str × Addr)) (Q : Value → Shared → Prop) (xv : Value) (s₁ : Shared) : Prop :=
  ∃ y ty news, xv = .str y ty ∧ A.handled = none ∧ Fr h₀ L s₁.heap m ∧ News h₀ L s₁.heap news ∧ y.cps.size ≤ sizeLine ∧
      ∀ s₂ : Shared, (∃ h, s₂ = { s₁ with heap := h }) → CompRest prog w A h₀ L m env elt x scope cl s₂ (fun _ => True) (SignAt y) (FinE h₀ L m s₂ Q) y.cps.size 0 [] news
def TxtEnd (h₀ : Heap) (L : Addr) (m : Str → Option Value) (s : Shared) (r : PySem.Str) (led : List (Addr × Obj)) (y : Value) (s₂ : Shared) : Prop :=
  ∃ h' tk' t', s₂ = { s with heap := h', toks := tk' } ∧ y = .str r t' ∧ Fr h₀ L h' m ∧ News h₀ L h' led
theorem comp_str {elt iter : Expr} {x : Str} {px : Pos} {scope : Scope} {cl : List (Str × Addr)} {pos : Pos} {Q : Value → Shared → Prop} (_F₀ : Fr h₀ L s.heap m)
    (hclos : closureFor scope env = pure cl) (hcell : ∀ y ∈ scope.names, y.2 ≠ .cell) (hkind : scope.kind = .function)
    (hnames : ∀ y ∈ scope.names, y.2 = .local → scope.names.lookup y.1 = some .local) (hx : scope.names.lookup x = some .local)
    (h : wpAny (model prog w) A (eval iter env) (StrSrc prog w A h₀ L m env elt x scope cl Q) E s)
    (hs : ∀ x, foldedSetIterable iter env x = pure x := by intro _; rfl) :
    wpAny (model prog w) A (eval (.ListComp elt [⟨.Name x px, iter, [], 0⟩] scope pos) env) Q E s := by
  rw [eval_ListComp]
  refine wpAny_comprehension_free (use := none) rfl hs hclos hkind hnames (wpAny_mono h (fun xv s₁ h₁ => ?_) fun _ _ e => e)
  obtain ⟨y, ty, news, rfl, hh, F, N, hsz, R⟩ := h₁
  have key : ∀ (o : Obj) (name : String), (s₁.heap.push o).IsStrIter s₁.heap.objs.size name y ty 0 →
      (Walks prog w A s₁.heap.objs.size [s₁.heap.objs.size] [s₁.heap.objs.size] y.cps.size (SignAt y) (fun i h => h.IsStrIter s₁.heap.objs.size name y ty i)) →
      wpAny (model prog w) A (newList []) (fun acc s₃ => wpAny (model prog w) A (newFunctionEnv scope env.globals cl [] env.qual none .none (some env)) (fun cenv s₄ =>
        codeAny (model prog w) A (.compStart (.ListComp elt [⟨.Name x px, iter, [], 0⟩] scope pos) 0 (.ref s₁.heap.objs.size) acc { cenv with scope := relabel scope env })
          (compPost (model prog w) A E none Q acc cenv.locals) s₄) E s₃) E { s₁ with heap := s₁.heap.push o } := by
    intro o name hst W
    refine block_U (RR := fun acc C => compPost (model prog w) A E none Q acc C) W hsz
      (fun i h st => let ⟨o, ho, _⟩ := st; ⟨o, ho⟩) (S := fun _ => True) (Fin := FinE h₀ L m { s₁ with heap := s₁.heap.push o } Q) (news := news)
      (fun i h h' o nw st e e' _ _ _ => let ⟨o', q, r⟩ := st; ⟨o', by rw [e] at q; rw [e']; exact q, r⟩) hcell hkind hx hst (fun b hb => ?_)
      (F.keeps fun _ _ e => Heap.get?_push_of_some _ e) (N.grown fun _ _ e => Heap.get?_push_of_some _ e) (Nat.ne_of_lt F.ns.lt) (next_is_new F) (fun p hp => Nat.ne_of_lt (Heap.lt_size (N p hp).1)) trivial (R _ ⟨_, rfl⟩) ?_
    · rw [List.mem_singleton.mp hb]
      show s₁.heap.objs.size < (s₁.heap.push _).objs.size
      rw [Heap.size_push]; exact Nat.lt_succ_self _
    · intro D C h tk m' ys news' F' N' o1 hn hC₀ hD₀ hCL hDL hCD offC fin
      refine ⟨m', hn, fun h'' hs'' => fin D h'' tk (F'.change hs'' hCL hC₀) (fun p hp => ?_) o1⟩
      refine ⟨hs''.extBut _ _ ?_ (N' p hp).1, (N' p hp).2⟩
      rcases List.mem_cons.mp hp with rfl | hp
      · exact Ne.symm hCD
      · exact offC p hp
  cases ha : y.cps.all (· < 128)
  · refine wpAny_pyIter_wide ha ?_
    refine key _ "str_iterator" ?_ (Walks.strWide hh _ y ty)
    exact ⟨_, Heap.get?_push_size _ rfl, rfl, rfl⟩
  · refine wpAny_pyIter_ascii ha ?_
    refine key _ "str_ascii_iterator" ?_ (Walks.strAscii hh _ y ty)
    exact ⟨_, Heap.get?_push_size _ rfl, rfl, rfl⟩
/-- the turns, each giving a text and making nothing that stays -/
theorem comp_turns {α : Type} {elt : Expr} {x : Str} {scope : Scope} {cl : List (Str × Addr)} {S : List (Addr × Obj) → Prop} {P : Nat → Value → Prop} {Fin : List Value → List (Addr × Obj) → Prop} {news : List (Addr × Obj)}
    {n : Nat} {ks : List α} (val : α → Tok → Value) (g : α → PySem.Str) (hks : ks.length = n) (hP : ∀ i v, i < n → P i v → ∃ k t, ks[i]? = some k ∧ v = val k t)
    (turn : ∀ k t I oI C oC D m₂ ys h tk (E' : Value → Shared → Prop), k ∈ ks → NsObj oC m₂ → m₂ x = some (val k t) → Fr h₀ L h m → News h₀ L h ((I, oI) :: (C, oC) :: (D, lst ys) :: news) → Off3 I C D news →
      wpAny (model prog w) A (eval elt (compEnvC scope cl C env)) (TxtEnd h₀ L m s (g k) ((I, oI) :: (C, oC) :: (D, lst ys) :: news)) E' { s with heap := h, toks := tk })
    (hS : S news) (fin : ∀ ys, StrsAre ys (ks.map g) → Fin ys news) : CompRest prog w A h₀ L m env elt x scope cl s S P Fin n 0 [] news := by
  have key : ∀ (j i : Nat) (ys : List Value), i + j = n → StrsAre ys ((ks.take i).map g) → CompRest prog w A h₀ L m env elt x scope cl s S P Fin j i ys news := by
    intro j
    induction j with
    | zero =>
      intro i ys hi hy
      have e : i = ks.length := by omega
      subst e
      rw [List.take_length] at hy
      exact CompRest.zero (fin ys hy)
    | succ j ih =>
      intro i ys hi hy
      refine CompRest.succ ?_
      intro v I oI C oC D m₂ h tk E' hv hC hx F N off ne
      obtain ⟨k, t, hk, hv'⟩ := hP i v (by omega) hv
      rw [hv'] at hx
      refine wpAny_mono (turn k t I oI C oC D m₂ ys h tk E' (List.mem_of_getElem? hk) hC hx F N off) (fun y s₂ hq => ?_) fun _ _ e => e
      obtain ⟨h', tk', t', rfl, rfl, F', N'⟩ := hq
      refine ⟨h', tk', news, rfl, F', N', off, hS, ?_⟩
      refine ih (i + 1) _ (by omega) ?_
      rw [List.take_add_one, hk]
      simpa using kct_snoc hy
  exact key n 0 [] (by omega) (by simp only [List.take_zero, List.map_nil]; exact .nil)
end
end
end Mine

/-! part P4 -/
namespace Mine
section
open PySem PySem.W PyProof.Rows PySem.Calls PySem.Spec
/-- quotes and stars change places -/
def turn (st c : Nat) : Nat := if c = 34 then st else if c = st then 34 else c
theorem join_ones_eq (f : Nat → Nat) : ∀ t : List Nat, Str.join (Str.ofString "") (t.map fun c => ofL [f c]) = ofL (t.map f)
  | [] => rfl
  | [c] => rfl
  | c :: d :: r => by
    have ih := join_ones_eq f (d :: r)
    show ofL [f c] ++ Str.ofString "" ++ Str.join (Str.ofString "") ((d :: r).map fun c => ofL [f c]) = _
    rw [ih, litE, ofL_app, ofL_app]
    rfl
theorem join_turn (f : Nat → Nat) (t : List Nat) : Txt.join (Str.ofString "") (t.map fun c => ofL [f c]) = ofL (t.map f) := by
  unfold Txt.join
  rw [StrLaws.glued_eq_join, join_ones_eq]
theorem sum_ones (f : Nat → Nat) (t : List Nat) : ((t.map fun c => ofL [f c]).map (·.length)).sum = t.length := by
  induction t with
  | nil => rfl
  | cons c r ih => simp only [List.map_cons, List.sum_cons, List.length_cons, ih, ofL_length, List.length_nil]; omega
theorem one_beq (c d : Nat) : ((⟨#[c]⟩ : Str) == ofL [d]) = true ↔ c = d := by
  rw [show (⟨#[c]⟩ : Str) = ofL [c] from rfl, ofL_beq]
  simp
section
local macro_rules | `(tactic| k_all) => `(tactic| exact ne_of_all (by assumption))
local macro_rules | `(tactic| size_fits) => `(tactic| ((try simp only [Array.size_push, List.size_toArray, Str.length_append, ofL_length, sizeLine_eq]); omega))
variable {w : World} {mean : ExcName → Option Value} {mg mb : Str → Option Value} {dp un : Nat} {gd : Option (List Code)} {cn : Str} {cs : Scope} {a : Addr} {ccd : Value} {cl : List (Str × Addr)} {outer : List Env} {A₀ : Around} {base h₀ : Heap} {L : Addr} {m : Str → Option Value} {news : List (Addr × Obj)} {s : Shared} {Q E : Value → Shared → Prop}
set_option maxRecDepth 100000 in
set_option maxHeartbeats 8000000 in
theorem turned_spec
  (t : List Nat) (st : Nat) (tk tk2 : Tok) (hlen : t.length ≤ 31) (B : Below A₀ base outer h₀) (F : Fr h₀ L s.heap m) (X : (hd.heap_39 w.params).In h₀) (N : News h₀ L s.heap news) (T : Top hd.view_39 (looseW hd.view_39 [Str.ofString "EXACT_TOKEN_TYPES"]) mean mg mb h₀) (hk : cs.kind = .function) (hdp : dp + 4 < recursionLimit) (hun : un + 32 < cLine)
  (hret : ∀ tk h' tk', Fr h₀ L h' m → News h₀ L h' news → Q (.str (ofL (t.map (turn st))) tk) { s with heap := h', toks := tk' }) :
  wpAny (model PySem.Challenge.rw_pg0134_01.row.prog w) (ktrTop dp un gd cn cs L a ccd cl outer) (call (.ref 96) [.str (ofL t) tk, .str (ofL [st]) tk2]) Q E s := by
  have hz : (ofL t).length ≤ 31 := by rw [ofL_length]; exact hlen
  revert X; k_fill; intro X
  refine wpAny_call ?_
  k_dflt (refine' code_defC ?k1 ?k2 ?k3 ?k4 ?k5 ?kA ?kF ?kK ?k6 ?k7 ?k8 ?k9 ?kB ?kD ?_ ?c2 ?c3 ?c4; (case kA => exact rfl); (case kF => exact rfl); (case kK => assumption); (case k1 => k_asm); (case k2 => k_asm); (case k3 => k_asm); (case k4 => k_asm); (case k5 => k_asm); (case k6 => k_is); (case k7 => k_is); (case k8 => ktr_room); (case k9 => exact BindsTo.of_eq rfl); (case kB => exact rfl); (case kD => decide +kernel); (case c2 => exact rfl); (case c3 => exact rfl); (case c4 => exact rfl); k_whole)
  intro g' L' h' tk' cells' FG' F' N' Y' B' X' T' l1
  (try k_lt l1); k_cells Y'; (try simp only [List.cons_append, List.nil_append] at N'); (try dsimp only); (try k_fold)
  (repeat' (first | (k_unfold; (try dsimp only)) | (with_reducible refine ite_pos (rfl : true = true) ?_) | (with_reducible refine ite_neg Bool.false_ne_true ?_) | (k_closed; k_dflt (first | refine ite_pos (by decide) ?_ | refine ite_neg (by decide) ?_)) | ((fail_if_success (with_reducible show KswEnd _ _ _ _ _ _ _ _ _ _ _ _)); (fail_if_success (with_reducible show InvEndN _ _ _ _ _ _ _)); (fail_if_success (with_reducible show wpAny _ _ (exec (Stmt.While _ _ _ _) _) _ _ _)); (fail_if_success (with_reducible show ite _ _ _)); (fail_if_success (with_reducible show wpAny _ _ (call (Value.ref _) _) _ _ _)); (fail_if_success (with_reducible show wpAny _ _ (exec (Stmt.For _ _ _ _ _) _) _ _ _)); (fail_if_success (with_reducible show wpAny _ _ (pyIter _) _ _ _)); (fail_if_success (with_reducible show wpAny _ _ (eval (Expr.ListComp _ _ _ _) _) _ _ _)); (first | (k_end; wrow_close) | walk1 | (dsimp only; walk1) | ((simp only [List.cons_append, List.nil_append]); walk1) | (leave1; walk_say "STEP leave1"; try dsimp only))) | fail "no step"))
  k_dflt (refine comp_str (h₀ := g') (L := L') (by k_asm) (by with_unfolding_all rfl) (by decide) (by rfl) (by decide) (by rfl) ?_)
  (repeat' (first | (k_unfold; (try dsimp only)) | (with_reducible refine ite_pos (rfl : true = true) ?_) | (with_reducible refine ite_neg Bool.false_ne_true ?_) | (k_closed; k_dflt (first | refine ite_pos (by decide) ?_ | refine ite_neg (by decide) ?_)) | ((fail_if_success (with_reducible show KswEnd _ _ _ _ _ _ _ _ _ _ _ _)); (fail_if_success (with_reducible show InvEndN _ _ _ _ _ _ _)); (fail_if_success (with_reducible show wpAny _ _ (exec (Stmt.While _ _ _ _) _) _ _ _)); (fail_if_success (with_reducible show ite _ _ _)); (fail_if_success (with_reducible show wpAny _ _ (call (Value.ref _) _) _ _ _)); (fail_if_success (with_reducible show wpAny _ _ (exec (Stmt.For _ _ _ _ _) _) _ _ _)); (fail_if_success (with_reducible show wpAny _ _ (pyIter _) _ _ _)); (fail_if_success (with_reducible show wpAny _ _ (eval (Expr.ListComp _ _ _ _) _) _ _ _)); (first | (k_end; wrow_close) | walk1 | (dsimp only; walk1) | ((simp only [List.cons_append, List.nil_append]); walk1) | (leave1; walk_say "STEP leave1"; try dsimp only))) | fail "no step"))
  (rename Fr _ _ _ _ => lF); (rename News _ _ _ _ => lN)
  refine ⟨_, _, _, rfl, rfl, lF, lN, by rw [sizeLine_eq]; show (ofL t).length ≤ _; omega, ?_⟩
  rintro s₂ ⟨h2, rfl⟩
  refine comp_turns (ks := t) (fun c u => .str ⟨#[c]⟩ u) (fun c => ofL [turn st c]) (ofL_length t).symm ?_ ?_ trivial ?_
  · rintro i v hi ⟨c, u, hc, rfl⟩
    exact ⟨c, u, by simpa [ofL] using hc, rfl⟩
  · intro c u I oI C oC D m₂ ys h9 tk9 E' hmem hC hx F9 N9 off9
    dsimp only
    (try k_fold)
    (repeat' (first | (k_unfold; (try dsimp only)) | (with_reducible refine ite_pos (rfl : true = true) ?_) | (with_reducible refine ite_neg Bool.false_ne_true ?_) | (k_closed; k_dflt (first | refine ite_pos (by decide) ?_ | refine ite_neg (by decide) ?_)) | ((fail_if_success (with_reducible show KswEnd _ _ _ _ _ _ _ _ _ _ _ _)); (fail_if_success (with_reducible show InvEndN _ _ _ _ _ _ _)); (fail_if_success (with_reducible show wpAny _ _ (exec (Stmt.While _ _ _ _) _) _ _ _)); (fail_if_success (with_reducible show ite _ _ _)); (fail_if_success (with_reducible show wpAny _ _ (call (Value.ref _) _) _ _ _)); (fail_if_success (with_reducible show wpAny _ _ (exec (Stmt.For _ _ _ _ _) _) _ _ _)); (fail_if_success (with_reducible show wpAny _ _ (pyIter _) _ _ _)); (fail_if_success (with_reducible show wpAny _ _ (eval (Expr.ListComp _ _ _ _) _) _ _ _)); (first | (k_end; wrow_close) | walk1 | (dsimp only; walk1) | ((simp only [List.cons_append, List.nil_append]); walk1) | (leave1; walk_say "STEP leave1"; try dsimp only))) | fail "no step"))
    refine ite_cases (fun hc => ?_) (fun hc => ?_)
    · rw [litQ, one_beq] at hc
      (repeat' (first | (k_unfold; (try dsimp only)) | (with_reducible refine ite_pos (rfl : true = true) ?_) | (with_reducible refine ite_neg Bool.false_ne_true ?_) | (k_closed; k_dflt (first | refine ite_pos (by decide) ?_ | refine ite_neg (by decide) ?_)) | ((fail_if_success (with_reducible show KswEnd _ _ _ _ _ _ _ _ _ _ _ _)); (fail_if_success (with_reducible show InvEndN _ _ _ _ _ _ _)); (fail_if_success (with_reducible show wpAny _ _ (exec (Stmt.While _ _ _ _) _) _ _ _)); (fail_if_success (with_reducible show ite _ _ _)); (fail_if_success (with_reducible show wpAny _ _ (call (Value.ref _) _) _ _ _)); (fail_if_success (with_reducible show wpAny _ _ (exec (Stmt.For _ _ _ _ _) _) _ _ _)); (fail_if_success (with_reducible show wpAny _ _ (pyIter _) _ _ _)); (fail_if_success (with_reducible show wpAny _ _ (eval (Expr.ListComp _ _ _ _) _) _ _ _)); (first | (k_end; wrow_close) | walk1 | (dsimp only; walk1) | ((simp only [List.cons_append, List.nil_append]); walk1) | (leave1; walk_say "STEP leave1"; try dsimp only))) | fail "no step"))
      exact ⟨_, _, _, rfl, by rw [show turn st c = st from by simp [turn, hc]], by k_asm, by k_asm⟩
    · rw [litQ, one_beq] at hc
      (repeat' (first | (k_unfold; (try dsimp only)) | (with_reducible refine ite_pos (rfl : true = true) ?_) | (with_reducible refine ite_neg Bool.false_ne_true ?_) | (k_closed; k_dflt (first | refine ite_pos (by decide) ?_ | refine ite_neg (by decide) ?_)) | ((fail_if_success (with_reducible show KswEnd _ _ _ _ _ _ _ _ _ _ _ _)); (fail_if_success (with_reducible show InvEndN _ _ _ _ _ _ _)); (fail_if_success (with_reducible show wpAny _ _ (exec (Stmt.While _ _ _ _) _) _ _ _)); (fail_if_success (with_reducible show ite _ _ _)); (fail_if_success (with_reducible show wpAny _ _ (call (Value.ref _) _) _ _ _)); (fail_if_success (with_reducible show wpAny _ _ (exec (Stmt.For _ _ _ _ _) _) _ _ _)); (fail_if_success (with_reducible show wpAny _ _ (pyIter _) _ _ _)); (fail_if_success (with_reducible show wpAny _ _ (eval (Expr.ListComp _ _ _ _) _) _ _ _)); (first | (k_end; wrow_close) | walk1 | (dsimp only; walk1) | ((simp only [List.cons_append, List.nil_append]); walk1) | (leave1; walk_say "STEP leave1"; try dsimp only))) | fail "no step"))
      refine ite_cases (fun hc2 => ?_) (fun hc2 => ?_)
      · rw [one_beq] at hc2
        (repeat' (first | (k_unfold; (try dsimp only)) | (with_reducible refine ite_pos (rfl : true = true) ?_) | (with_reducible refine ite_neg Bool.false_ne_true ?_) | (k_closed; k_dflt (first | refine ite_pos (by decide) ?_ | refine ite_neg (by decide) ?_)) | ((fail_if_success (with_reducible show KswEnd _ _ _ _ _ _ _ _ _ _ _ _)); (fail_if_success (with_reducible show InvEndN _ _ _ _ _ _ _)); (fail_if_success (with_reducible show wpAny _ _ (exec (Stmt.While _ _ _ _) _) _ _ _)); (fail_if_success (with_reducible show ite _ _ _)); (fail_if_success (with_reducible show wpAny _ _ (call (Value.ref _) _) _ _ _)); (fail_if_success (with_reducible show wpAny _ _ (exec (Stmt.For _ _ _ _ _) _) _ _ _)); (fail_if_success (with_reducible show wpAny _ _ (pyIter _) _ _ _)); (fail_if_success (with_reducible show wpAny _ _ (eval (Expr.ListComp _ _ _ _) _) _ _ _)); (first | (k_end; wrow_close) | walk1 | (dsimp only; walk1) | ((simp only [List.cons_append, List.nil_append]); walk1) | (leave1; walk_say "STEP leave1"; try dsimp only))) | fail "no step"))
        exact ⟨_, _, _, rfl, by rw [litQ, show turn st c = 34 from by simp [turn, hc2]], by k_asm, by k_asm⟩
      · rw [one_beq] at hc2
        (repeat' (first | (k_unfold; (try dsimp only)) | (with_reducible refine ite_pos (rfl : true = true) ?_) | (with_reducible refine ite_neg Bool.false_ne_true ?_) | (k_closed; k_dflt (first | refine ite_pos (by decide) ?_ | refine ite_neg (by decide) ?_)) | ((fail_if_success (with_reducible show KswEnd _ _ _ _ _ _ _ _ _ _ _ _)); (fail_if_success (with_reducible show InvEndN _ _ _ _ _ _ _)); (fail_if_success (with_reducible show wpAny _ _ (exec (Stmt.While _ _ _ _) _) _ _ _)); (fail_if_success (with_reducible show ite _ _ _)); (fail_if_success (with_reducible show wpAny _ _ (call (Value.ref _) _) _ _ _)); (fail_if_success (with_reducible show wpAny _ _ (exec (Stmt.For _ _ _ _ _) _) _ _ _)); (fail_if_success (with_reducible show wpAny _ _ (pyIter _) _ _ _)); (fail_if_success (with_reducible show wpAny _ _ (eval (Expr.ListComp _ _ _ _) _) _ _ _)); (first | (k_end; wrow_close) | walk1 | (dsimp only; walk1) | ((simp only [List.cons_append, List.nil_append]); walk1) | (leave1; walk_say "STEP leave1"; try dsimp only))) | fail "no step"))
        exact ⟨_, _, _, rfl, by rw [show turn st c = c from by simp [turn, hc, hc2]]; rfl, by k_asm, by k_asm⟩
  · intro ys hys D9 h9 tk9 F9 N9 o9
    dsimp only
    (try k_fold)
    (repeat' (first | (k_unfold; (try dsimp only)) | (with_reducible refine ite_pos (rfl : true = true) ?_) | (with_reducible refine ite_neg Bool.false_ne_true ?_) | (k_closed; k_dflt (first | refine ite_pos (by decide) ?_ | refine ite_neg (by decide) ?_)) | ((fail_if_success (with_reducible show KswEnd _ _ _ _ _ _ _ _ _ _ _ _)); (fail_if_success (with_reducible show InvEndN _ _ _ _ _ _ _)); (fail_if_success (with_reducible show wpAny _ _ (exec (Stmt.While _ _ _ _) _) _ _ _)); (fail_if_success (with_reducible show ite _ _ _)); (fail_if_success (with_reducible show wpAny _ _ (call (Value.ref _) _) _ _ _)); (fail_if_success (with_reducible show wpAny _ _ (exec (Stmt.For _ _ _ _ _) _) _ _ _)); (fail_if_success (with_reducible show wpAny _ _ (pyIter _) _ _ _)); (fail_if_success (with_reducible show wpAny _ _ (eval (Expr.ListComp _ _ _ _) _) _ _ _)); (first | (k_end; wrow_close) | walk1 | (dsimp only; walk1) | ((simp only [List.cons_append, List.nil_append]); walk1) | (leave1; walk_say "STEP leave1"; try dsimp only))) | fail "no step"))
    refine join_list (x := Str.ofString "") (News.isList N9 (List.Mem.head _)) (ys := t.map fun c => ofL [turn st c]) (by simpa using hys) ?_ ?_
    · rw [sum_ones, litE, ofL_length]; simp; omega
    · intro t9 k9
      rw [join_turn]
      (try k_fold)
      (repeat' (first | (k_unfold; (try dsimp only)) | (with_reducible refine ite_pos (rfl : true = true) ?_) | (with_reducible refine ite_neg Bool.false_ne_true ?_) | (k_closed; k_dflt (first | refine ite_pos (by decide) ?_ | refine ite_neg (by decide) ?_)) | ((fail_if_success (with_reducible show KswEnd _ _ _ _ _ _ _ _ _ _ _ _)); (fail_if_success (with_reducible show InvEndN _ _ _ _ _ _ _)); (fail_if_success (with_reducible show wpAny _ _ (exec (Stmt.While _ _ _ _) _) _ _ _)); (fail_if_success (with_reducible show ite _ _ _)); (fail_if_success (with_reducible show wpAny _ _ (call (Value.ref _) _) _ _ _)); (fail_if_success (with_reducible show wpAny _ _ (exec (Stmt.For _ _ _ _ _) _) _ _ _)); (fail_if_success (with_reducible show wpAny _ _ (pyIter _) _ _ _)); (fail_if_success (with_reducible show wpAny _ _ (eval (Expr.ListComp _ _ _ _) _) _ _ _)); (first | (k_end; wrow_close) | walk1 | (dsimp only; walk1) | ((simp only [List.cons_append, List.nil_append]); walk1) | (leave1; walk_say "STEP leave1"; try dsimp only))) | fail "no step"))
      (rename News _ _ _ _ => nE)
      exact hret _ _ _ (by k_asm) (fun p hp => nE p (.tail _ (.tail _ hp)))
end
end
end Mine

/-! part P5a -/
namespace Mine
section
open PySem PySem.W PyProof.Rows PySem.Calls PySem.Spec
/-- the entries of EXACT_TOKEN_TYPES -/
def TOK : List (List Nat × Int) := [([33], 54), ([33, 61], 28), ([37], 24), ([37, 61], 40), ([38], 19), ([38, 61], 41), ([40], 7), ([41], 8), ([42], 16), ([42, 42], 35), ([42, 42, 61], 46), ([42, 61], 38), ([43], 14), ([43, 61], 36), ([44], 12), ([45], 15), ([45, 61], 37), ([45, 62], 51), ([46], 23), ([46, 46, 46], 52), ([47], 17), ([47, 47], 47), ([47, 47, 61], 48), ([47, 61], 39), ([58], 11), ([58, 61], 53), ([59], 13), ([60], 20), ([60, 60], 33), ([60, 60, 61], 44), ([60, 61], 29), ([61], 22), ([61, 61], 27), ([62], 21), ([62, 61], 30), ([62, 62], 34), ([62, 62, 61], 45), ([64], 49), ([64, 61], 50), ([91], 9), ([93], 10), ([94], 32), ([94, 61], 43), ([123], 25), ([124], 18), ([124, 61], 42), ([125], 26), ([126], 31)]
/-- the 48 spellings, by the symbol's number less 7 -/
def SPELL : List (List Nat) := [[40], [41], [91], [93], [58], [44], [59], [43], [45], [42], [47], [124], [38], [60], [62], [61], [46], [37], [123], [125], [61, 61], [33, 61], [60, 61], [62, 61], [126], [94], [60, 60], [62, 62], [42, 42], [43, 61], [45, 61], [42, 61], [47, 61], [37, 61], [38, 61], [124, 61], [94, 61], [60, 60, 61], [62, 62, 61], [42, 42, 61], [47, 47], [47, 47, 61], [64], [64, 61], [45, 62], [46, 46, 46], [58, 61], [33]]
def look (p : List Nat) : Option Int := (TOK.find? fun e => e.1 == p).map (·.2)
theorem lookup_tok (p : List Nat) : ∀ D : List (List Nat × Int), PySem.Spec.lookup (.str (ofL p)) (D.map fun e => (PyData.str (ofL e.1), PyData.int e.2)) = ((D.find? fun e => e.1 == p).map (·.2)).map PyData.int
  | [] => rfl
  | (k, v) :: r => by
    have ih := lookup_tok p r
    rw [List.map_cons, PySem.Spec.lookup, PyProof.V.same_str, List.find?_cons]
    by_cases h : k = p
    · subst h
      simp
    · have h2 : ¬ ofL k = ofL p := fun e => h (ofL_inj e)
      have h3 : (k == p) = false := by simpa using h
      simp only [h2, h3, decide_false, Bool.false_eq_true, if_false]
      exact ih
theorem lookup_look (p : List Nat) : PySem.Spec.lookup (.str (ofL p)) (TOK.map fun e => (PyData.str (ofL e.1), PyData.int e.2)) = (look p).map PyData.int := lookup_tok p TOK
theorem tab_spec {w : World} {h : Heap} (X : (hd.heap_39 w.params).In h) : StrTab PySem.Challenge.rw_pg0134_01.row.prog w h 47 (TOK.map fun e => (PyData.str (ofL e.1), PyData.int e.2)) := by
  have := kt_tab_in (a := 47) (D := TOK.map fun e => (ofL e.1, PyData.int e.2)) PySem.Challenge.rw_pg0134_01.row.prog w X (by kernel_rfl) (by decide +kernel) (by kernel_rfl)
  rw [List.map_map] at this
  exact this
section
variable {w : World} {A : Around} {E : Value → Shared → Prop} {s : Shared} {h₀ : Heap} {L : Addr} {m : Str → Option Value} {p : List Nat} {t : Tok}
theorem in_tok {Q : Value → Shared → Prop} (F : Fr h₀ L s.heap m) (X : (hd.heap_39 w.params).In h₀) (h : Q (.bool (look p).isSome) { s with toks := s.toks + 1 }) :
    wpAny (model PySem.Challenge.rw_pg0134_01.row.prog w) A (compareOp .In (.str (ofL p) t) (.ref 47)) Q E s :=
  in_strTab (tab_spec (X.keeps F.keep)) (by rw [lookup_look, Option.isSome_map]; exact h)
theorem notin_tok {Q : Value → Shared → Prop} (F : Fr h₀ L s.heap m) (X : (hd.heap_39 w.params).In h₀) (h : Q (.bool (!(look p).isSome)) { s with toks := s.toks + 1 }) :
    wpAny (model PySem.Challenge.rw_pg0134_01.row.prog w) A (compareOp .NotIn (.str (ofL p) t) (.ref 47)) Q E s :=
  notin_strTab (tab_spec (X.keeps F.keep)) (by rw [lookup_look, Option.isSome_map]; exact h)
theorem item_tok {value slice : Expr} {Q : Value → Shared → Prop} {n : Int} (F : Fr h₀ L s.heap m) (X : (hd.heap_39 w.params).In h₀) (hl : look p = some n) (h : ∀ u, Q (.int n u) { s with toks := s.toks + 1 })
    (hs : subscripted slice false (.ref 47) (.str (ofL p) t) = operate [.ref 47, .str (ofL p) t] (getItem (.ref 47) (.str (ofL p) t)) := by with_unfolding_all rfl) (hg : ∀ r, letTemporaryGo value (.ref 47) r = pure () := by intro _; with_unfolding_all rfl) :
    wpAny (model PySem.Challenge.rw_pg0134_01.row.prog w) A (subscriptTail value slice (.ref 47) (.str (ofL p) t)) Q E s :=
  item_strTab (tab_spec (X.keeps F.keep)) (dv := .int n) (by rw [lookup_look, hl]; rfl) (fun v hv => by have h9 := hv s.heap; cases h9; exact h _) hs hg
end
/-! the text cut into symbols -/
/-- how many signs the next symbol takes -/
def cut (u : List Nat) : Nat :=
  if 2 < u.length ∧ (look (u.take 3)).isSome then 3 else if 1 < u.length ∧ (look (u.take 2)).isSome then 2 else 1
def sym (u : List Nat) : Int := match look (u.take (cut u)) with
  | some n => n
  | none => 256 + (u.headD 0 : Int)
/-- row are the symbols of the first k signs of u -/
inductive Cuts (u : List Nat) : Nat → List Int → Prop
  | start : Cuts u 0 []
  | step {k : Nat} {row : List Int} : Cuts u k row → k < u.length → Cuts u (k + cut (u.drop k)) (row ++ [sym (u.drop k)])
theorem cut_pos (u : List Nat) : 1 ≤ cut u := by
  unfold cut
  split
  · decide
  · split <;> decide
theorem cut_le {u : List Nat} (h : 0 < u.length) : cut u ≤ u.length := by
  unfold cut
  split
  · rename_i hc; omega
  · split
    · rename_i hc; omega
    · omega
theorem Cuts.le {u : List Nat} {k : Nat} {row : List Int} (h : Cuts u k row) : k ≤ u.length ∧ row.length ≤ k := by
  induction h with
  | start => exact ⟨Nat.zero_le _, Nat.le_refl _⟩
  | @step k row _ hk ih =>
    have h1 := cut_le (u := u.drop k) (by simp; omega)
    have h2 := cut_pos (u.drop k)
    simp at h1
    refine ⟨by omega, ?_⟩
    rw [List.length_append, List.length_singleton]
    omega
/-- the inner loop: j signs are left of the piece, and no longer piece is an entry -/
def QInv (u : List Nat) (j : Nat) : Prop := 1 ≤ j ∧ j ≤ 3 ∧ j ≤ u.length ∧ ∀ i, j < i → i ≤ 3 → i ≤ u.length → (look (u.take i)).isSome = false
theorem QInv.start {u : List Nat} (h : 0 < u.length) : QInv u (min 3 u.length) := ⟨by omega, by omega, by omega, fun i h1 h2 h3 => by omega⟩
theorem QInv.turn {u : List Nat} {j : Nat} (h : QInv u j) (h1 : 1 < j) (h2 : (look (u.take j)).isSome = false) : QInv u (j - 1) := by
  obtain ⟨a, b, c, d⟩ := h
  refine ⟨by omega, by omega, by omega, fun i h3 h4 h5 => ?_⟩
  by_cases e : i = j
  · subst e; exact h2
  · exact d i (by omega) h4 h5
theorem QInv.stop {u : List Nat} {j : Nat} (h : QInv u j) (h1 : j = 1 ∨ (look (u.take j)).isSome = true) : cut u = j := by
  obtain ⟨a, b, c, d⟩ := h
  unfold cut
  rcases h1 with h1 | h1
  · subst h1
    have e3 : ¬ (2 < u.length ∧ (look (u.take 3)).isSome = true) := fun ⟨h3, h4⟩ => by rw [d 3 (by omega) (by omega) (by omega)] at h4; cases h4
    have e2 : ¬ (1 < u.length ∧ (look (u.take 2)).isSome = true) := fun ⟨h3, h4⟩ => by rw [d 2 (by omega) (by omega) (by omega)] at h4; cases h4
    rw [if_neg e3, if_neg e2]
  · have hj : j = 1 ∨ j = 2 ∨ j = 3 := by omega
    rcases hj with rfl | rfl | rfl
    · have e3 : ¬ (2 < u.length ∧ (look (u.take 3)).isSome = true) := fun ⟨h3, h4⟩ => by rw [d 3 (by omega) (by omega) (by omega)] at h4; cases h4
      have e2 : ¬ (1 < u.length ∧ (look (u.take 2)).isSome = true) := fun ⟨h3, h4⟩ => by rw [d 2 (by omega) (by omega) (by omega)] at h4; cases h4
      rw [if_neg e3, if_neg e2]
    · have e3 : ¬ (2 < u.length ∧ (look (u.take 3)).isSome = true) := fun ⟨h3, h4⟩ => by rw [d 3 (by omega) (by omega) (by omega)] at h4; cases h4
      rw [if_neg e3, if_pos ⟨by omega, h1⟩]
    · rw [if_pos ⟨by omega, h1⟩]
end
end Mine

/-! part P5 -/
namespace Mine
section
open PySem PySem.W PyProof.Rows PySem.Calls PySem.Spec
theorem take_min (l : List Nat) : l.take 3 = l.take (min 3 l.length) := by
  by_cases h : l.length ≤ 3
  · rw [List.take_of_length_le h, List.take_of_length_le (by omega)]
  · rw [show min 3 l.length = 3 from by omega]
theorem sym_found {u : List Nat} {n : Int} (h : look (u.take (cut u)) = some n) : sym u = n := by
  unfold sym
  rw [h]
theorem sym_none (u : List Nat) (h0 : 0 < u.length) (hc : cut u = 1) (h : look (u.take 1) = none) : sym u = 256 + ((ofL (u.take 1)).cps.getD 0 0 : Int) := by
  unfold sym
  rw [hc, h]
  cases u with
  | nil => simp at h0
  | cons c r => rfl
section
local macro_rules | `(tactic| k_all) => `(tactic| exact ne_of_all (by assumption))
local macro_rules | `(tactic| size_fits) => `(tactic| ((try simp only [Array.size_push, List.size_toArray, Str.length_append, ofL_length, sizeLine_eq]); omega))
local macro_rules | `(tactic| walk_at "compareOp In str ref") => `(tactic| (k_here; (with_reducible show wpAny _ _ (compareOp CmpOp.In (Value.str (ofL _) _) (Value.ref 47)) _ _ _); refine in_tok (by k_asm) (by k_asm) ?_))
local macro_rules | `(tactic| walk_at "compareOp NotIn str ref") => `(tactic| (k_here; (with_reducible show wpAny _ _ (compareOp CmpOp.NotIn (Value.str (ofL _) _) (Value.ref 47)) _ _ _); refine notin_tok (by k_asm) (by k_asm) ?_))
variable {w : World} {mean : ExcName → Option Value} {mg mb : Str → Option Value} {dp un : Nat} {gd : Option (List Code)} {cn : Str} {cs : Scope} {a : Addr} {ccd : Value} {cl : List (Str × Addr)} {outer : List Env} {A₀ : Around} {base h₀ : Heap} {L : Addr} {m : Str → Option Value} {news : List (Addr × Obj)} {s : Shared} {Q E : Value → Shared → Prop}
set_option maxRecDepth 100000 in
set_option maxHeartbeats 8000000 in
theorem symbols_spec
  (u : List Nat) (tk : Tok) (B : Below A₀ base outer h₀) (F : Fr h₀ L s.heap m) (X : (hd.heap_39 w.params).In h₀) (N : News h₀ L s.heap news) (T : Top hd.view_39 (looseW hd.view_39 [Str.ofString "EXACT_TOKEN_TYPES"]) mean mg mb h₀) (hk : cs.kind = .function) (hdp : dp + 2 < recursionLimit) (hun : un + 16 < cLine)
  (hlen : u.length ≤ 31)
  (hret : ∀ row r ws n h' tk', Cuts u u.length row → Fr h₀ L h' m → News h₀ L h' ((r, listOf (List.toArray ws) n) :: news) → (∀ p ∈ news, p.1 < r) → IntsAre ws row → Q (.ref r) { s with heap := h', toks := tk' }) :
  wpAny (model PySem.Challenge.rw_pg0134_01.row.prog w) (ktrTop dp un gd cn cs L a ccd cl outer) (call (.ref 84) [.str (ofL u) tk]) Q E s := by
  have hz : (ofL u).length ≤ 31 := by rw [ofL_length]; exact hlen
  revert X; k_fill; intro X
  refine wpAny_call ?_
  k_dflt cell_enter
  (repeat' (first | (k_unfold; (try dsimp only)) | (with_reducible refine ite_pos (rfl : true = true) ?_) | (with_reducible refine ite_neg Bool.false_ne_true ?_) | (k_closed; k_dflt (first | refine ite_pos (by decide) ?_ | refine ite_neg (by decide) ?_)) | ((fail_if_success (with_reducible show KswEnd _ _ _ _ _ _ _ _ _ _ _ _)); (fail_if_success (with_reducible show InvEndN _ _ _ _ _ _ _)); (fail_if_success (with_reducible show wpAny _ _ (exec (Stmt.While _ _ _ _) _) _ _ _)); (fail_if_success (with_reducible show ite _ _ _)); (fail_if_success (with_reducible show wpAny _ _ (call (Value.ref _) _) _ _ _)); (first | (k_end; wrow_close) | walk1 | (dsimp only; walk1) | ((simp only [List.cons_append, List.nil_append]); walk1) | (leave1; walk_say "STEP leave1"; try dsimp only))) | fail "no step"))
  (rename ∀ p ∈ news, p.1 < _ => l1); (rename Fr _ _ _ _ => lF); (rename News _ _ _ _ => lN)
  with_unfolding_all refine' ksw_while (σ := Nat × Tok × List Value × Nat × List Int) (fun c => (_, listOf c.2.2.1.toArray c.2.2.2.1) :: news) (fun c => [(Str.ofString "place", .int (c.1 : Int) c.2.1)]) (fun c => IntsAre c.2.2.1 c.2.2.2.2) [Str.ofString "piece"] (fun c => Cuts u c.1 c.2.2.2.2) (fun c => u.length - c.1) (0, _, [], 0, []) lF lN IntsAre.nil ?kk Cuts.start ?_
  case kk => exact List.forall_mem_cons.mpr ⟨by with_unfolding_all rfl, List.forall_mem_nil _⟩
  rintro ⟨k, ti, ws, nn, row⟩ u9 h tk9 hS hP F9 N9
  clear lF lN
  (try k_fold)
  dsimp only [kstB] at hP F9 N9 hS
  (repeat' (first | (k_unfold; (try dsimp only)) | (with_reducible refine ite_pos (rfl : true = true) ?_) | (with_reducible refine ite_neg Bool.false_ne_true ?_) | (k_closed; k_dflt (first | refine ite_pos (by decide) ?_ | refine ite_neg (by decide) ?_)) | ((fail_if_success (with_reducible show KswEnd _ _ _ _ _ _ _ _ _ _ _ _)); (fail_if_success (with_reducible show InvEndN _ _ _ _ _ _ _)); (fail_if_success (with_reducible show wpAny _ _ (exec (Stmt.While _ _ _ _) _) _ _ _)); (fail_if_success (with_reducible show ite _ _ _)); (fail_if_success (with_reducible show wpAny _ _ (call (Value.ref _) _) _ _ _)); (first | (k_end; wrow_close) | walk1 | (dsimp only; walk1) | ((simp only [List.cons_append, List.nil_append]); walk1) | (leave1; walk_say "STEP leave1"; try dsimp only))) | fail "no step"))
  refine ite_cases (fun hc => ?_) (fun hc => ?_)
  · have hkt : k < u.length := by simp only [decide_eq_true_eq] at hc; rw [ofL_length] at hc; omega
    have hrow := hP.le
    have hw : ws.length ≤ 31 := by rw [hS.length]; omega
    (repeat' (first | (k_unfold; (try dsimp only)) | (with_reducible refine ite_pos (rfl : true = true) ?_) | (with_reducible refine ite_neg Bool.false_ne_true ?_) | (k_closed; k_dflt (first | refine ite_pos (by decide) ?_ | refine ite_neg (by decide) ?_)) | ((fail_if_success (with_reducible show KswEnd _ _ _ _ _ _ _ _ _ _ _ _)); (fail_if_success (with_reducible show InvEndN _ _ _ _ _ _ _)); (fail_if_success (with_reducible show wpAny _ _ (exec (Stmt.While _ _ _ _) _) _ _ _)); (fail_if_success (with_reducible show ite _ _ _)); (fail_if_success (with_reducible show wpAny _ _ (call (Value.ref _) _) _ _ _)); (first | (k_end; wrow_close) | walk1 | (dsimp only; walk1) | ((simp only [List.cons_append, List.nil_append]); walk1) | (leave1; walk_say "STEP leave1"; try dsimp only))) | fail "no step"))
    (rename Fr _ _ _ _ => lF); (rename News _ _ _ _ => lN)
    have hv : 0 < (u.drop k).length := by simp; omega
    with_unfolding_all refine' ksw_while (σ := Nat × Tok) (fun _ => (_, listOf ws.toArray nn) :: news) (fun c => [(Str.ofString "piece", .str (ofL ((u.drop k).take c.1)) c.2)]) (fun _ => True) [] (fun c => QInv (u.drop k) c.1) (fun c => c.1) (min 3 (u.drop k).length, _) lF lN True.intro ?kk (QInv.start hv) ?_
    case kk =>
      refine List.forall_mem_cons.mpr ⟨str_eq (by with_unfolding_all rfl) ?_, List.forall_mem_nil _⟩
      rw [show ((k : Int) + 3) = ((k + 3 : Nat) : Int) from by omega, slice_nn u (by omega) (by omega), show k + 3 - k = 3 from by omega, take_min]
    rintro ⟨j, tj⟩ u8 h8 tk8 - hq F8 N8
    clear lF lN
    (try k_fold)
    dsimp only [kstB] at hq F8 N8
    have hs8 : (ofL ((u.drop k).take j)).length = j := by rw [ofL_length, List.length_take]; have := hq.2.2.1; omega
    have hj3 := hq.2.1
    (repeat' (first | (k_unfold; (try dsimp only)) | (with_reducible refine ite_pos (rfl : true = true) ?_) | (with_reducible refine ite_neg Bool.false_ne_true ?_) | (k_closed; k_dflt (first | refine ite_pos (by decide) ?_ | refine ite_neg (by decide) ?_)) | ((fail_if_success (with_reducible show KswEnd _ _ _ _ _ _ _ _ _ _ _ _)); (fail_if_success (with_reducible show InvEndN _ _ _ _ _ _ _)); (fail_if_success (with_reducible show wpAny _ _ (exec (Stmt.While _ _ _ _) _) _ _ _)); (fail_if_success (with_reducible show ite _ _ _)); (fail_if_success (with_reducible show wpAny _ _ (call (Value.ref _) _) _ _ _)); (first | (k_end; wrow_close) | walk1 | (dsimp only; walk1) | ((simp only [List.cons_append, List.nil_append]); walk1) | (leave1; walk_say "STEP leave1"; try dsimp only))) | fail "no step"))
    refine ite_cases (fun hc1 => ?_) (fun hc1 => ?_)
    · have hj1 : 1 < j := by simp only [decide_eq_true_eq] at hc1; omega
      (repeat' (first | (k_unfold; (try dsimp only)) | (with_reducible refine ite_pos (rfl : true = true) ?_) | (with_reducible refine ite_neg Bool.false_ne_true ?_) | (k_closed; k_dflt (first | refine ite_pos (by decide) ?_ | refine ite_neg (by decide) ?_)) | ((fail_if_success (with_reducible show KswEnd _ _ _ _ _ _ _ _ _ _ _ _)); (fail_if_success (with_reducible show InvEndN _ _ _ _ _ _ _)); (fail_if_success (with_reducible show wpAny _ _ (exec (Stmt.While _ _ _ _) _) _ _ _)); (fail_if_success (with_reducible show ite _ _ _)); (fail_if_success (with_reducible show wpAny _ _ (call (Value.ref _) _) _ _ _)); (first | (k_end; wrow_close) | walk1 | (dsimp only; walk1) | ((simp only [List.cons_append, List.nil_append]); walk1) | (leave1; walk_say "STEP leave1"; try dsimp only))) | fail "no step"))
      refine ite_cases (fun hc2 => ?_) (fun hc2 => ?_)
      · have hno : (look ((u.drop k).take j)).isSome = false := by simpa using hc2
        (repeat' (first | (k_unfold; (try dsimp only)) | (with_reducible refine ite_pos (rfl : true = true) ?_) | (with_reducible refine ite_neg Bool.false_ne_true ?_) | (k_closed; k_dflt (first | refine ite_pos (by decide) ?_ | refine ite_neg (by decide) ?_)) | ((fail_if_success (with_reducible show KswEnd _ _ _ _ _ _ _ _ _ _ _ _)); (fail_if_success (with_reducible show InvEndN _ _ _ _ _ _ _)); (fail_if_success (with_reducible show wpAny _ _ (exec (Stmt.While _ _ _ _) _) _ _ _)); (fail_if_success (with_reducible show ite _ _ _)); (fail_if_success (with_reducible show wpAny _ _ (call (Value.ref _) _) _ _ _)); (first | (k_end; wrow_close) | walk1 | (dsimp only; walk1) | ((simp only [List.cons_append, List.nil_append]); walk1) | (leave1; walk_say "STEP leave1"; try dsimp only))) | fail "no step"))
        refine' ksw_end (j - 1, ?_) (by assumption) (by assumption) (fun _ hp => hp) True.intro (List.forall_mem_cons.mpr ⟨str_eq (by with_unfolding_all rfl) ?e1, List.forall_mem_nil _⟩) ?kr (QInv.turn hq hj1 hno) ?km
        case e1 =>
          rw [slice_neg1 _ (by rw [List.length_take]; have := hq.2.2.1; omega), List.take_take, List.length_take]
          have := hq.2.2.1
          congr 2
          omega
        case kr => ksw_same
        case km => dsimp only; omega
      · have hyes : (look ((u.drop k).take j)).isSome = true := by simpa [← Option.isSome_iff_ne_none] using hc2
        have hcut := QInv.stop hq (.inr hyes)
        (repeat' (first | (k_unfold; (try dsimp only)) | (with_reducible refine ite_pos (rfl : true = true) ?_) | (with_reducible refine ite_neg Bool.false_ne_true ?_) | (k_closed; k_dflt (first | refine ite_pos (by decide) ?_ | refine ite_neg (by decide) ?_)) | ((fail_if_success (with_reducible show KswEnd _ _ _ _ _ _ _ _ _ _ _ _)); (fail_if_success (with_reducible show InvEndN _ _ _ _ _ _ _)); (fail_if_success (with_reducible show wpAny _ _ (exec (Stmt.While _ _ _ _) _) _ _ _)); (fail_if_success (with_reducible show ite _ _ _)); (fail_if_success (with_reducible show wpAny _ _ (call (Value.ref _) _) _ _ _)); (fail_if_success (with_reducible show wpAny _ _ (subscriptTail _ _ (Value.ref 47) (Value.str _ _)) _ _ _)); (first | (k_end; wrow_close) | walk1 | (dsimp only; walk1) | ((simp only [List.cons_append, List.nil_append]); walk1) | (leave1; walk_say "STEP leave1"; try dsimp only))) | fail "no step"))
        refine ite_pos hyes ?_
        obtain ⟨n, hn⟩ := Option.isSome_iff_exists.mp hyes
        (repeat' (first | (k_unfold; (try dsimp only)) | (with_reducible refine ite_pos (rfl : true = true) ?_) | (with_reducible refine ite_neg Bool.false_ne_true ?_) | (k_closed; k_dflt (first | refine ite_pos (by decide) ?_ | refine ite_neg (by decide) ?_)) | ((fail_if_success (with_reducible show KswEnd _ _ _ _ _ _ _ _ _ _ _ _)); (fail_if_success (with_reducible show InvEndN _ _ _ _ _ _ _)); (fail_if_success (with_reducible show wpAny _ _ (exec (Stmt.While _ _ _ _) _) _ _ _)); (fail_if_success (with_reducible show ite _ _ _)); (fail_if_success (with_reducible show wpAny _ _ (call (Value.ref _) _) _ _ _)); (fail_if_success (with_reducible show wpAny _ _ (subscriptTail _ _ (Value.ref 47) (Value.str _ _)) _ _ _)); (first | (k_end; wrow_close) | walk1 | (dsimp only; walk1) | ((simp only [List.cons_append, List.nil_append]); walk1) | (leave1; walk_say "STEP leave1"; try dsimp only))) | fail "no step"))
        refine item_tok (by k_asm) (by k_asm) hn ?_
        intro t7
        (try dsimp only); (try k_fold)
        (repeat' (first | (k_unfold; (try dsimp only)) | (with_reducible refine ite_pos (rfl : true = true) ?_) | (with_reducible refine ite_neg Bool.false_ne_true ?_) | (k_closed; k_dflt (first | refine ite_pos (by decide) ?_ | refine ite_neg (by decide) ?_)) | ((fail_if_success (with_reducible show KswEnd _ _ _ _ _ _ _ _ _ _ _ _)); (fail_if_success (with_reducible show InvEndN _ _ _ _ _ _ _)); (fail_if_success (with_reducible show wpAny _ _ (exec (Stmt.While _ _ _ _) _) _ _ _)); (fail_if_success (with_reducible show ite _ _ _)); (fail_if_success (with_reducible show wpAny _ _ (call (Value.ref _) _) _ _ _)); (fail_if_success (with_reducible show wpAny _ _ (subscriptTail _ _ (Value.ref 47) (Value.str _ _)) _ _ _)); (first | (k_end; wrow_close) | walk1 | (dsimp only; walk1) | ((simp only [List.cons_append, List.nil_append]); walk1) | (leave1; walk_say "STEP leave1"; try dsimp only))) | fail "no step"))
        (rename News _ _ _ _ => nE); simp only [List.push_toArray] at nE
        refine' ksw_end (k + cut (u.drop k), ?_, ws ++ [.int n t7], nn + 1, row ++ [sym (u.drop k)]) (by assumption) (by assumption) (fun _ hp => hp) ?kf (List.forall_mem_cons.mpr ⟨int_eq (by with_unfolding_all rfl) ?e1, List.forall_mem_nil _⟩) ?kr (Cuts.step hP hkt) ?km
        case e1 => rw [hs8, hcut]; omega
        case kf => rw [sym_found (hcut ▸ hn)]; exact hS.append (.cons _ _ .nil)
        case kr => ksw_same
        case km => have := cut_pos (u.drop k); dsimp only; omega
    · have hj1 : j = 1 := by simp only [decide_eq_true_eq] at hc1; have := hq.1; omega
      have hcut := QInv.stop hq (.inl hj1)
      by_cases hyes : (look ((u.drop k).take j)).isSome = true
      · skip
        (repeat' (first | (k_unfold; (try dsimp only)) | (with_reducible refine ite_pos (rfl : true = true) ?_) | (with_reducible refine ite_neg Bool.false_ne_true ?_) | (k_closed; k_dflt (first | refine ite_pos (by decide) ?_ | refine ite_neg (by decide) ?_)) | ((fail_if_success (with_reducible show KswEnd _ _ _ _ _ _ _ _ _ _ _ _)); (fail_if_success (with_reducible show InvEndN _ _ _ _ _ _ _)); (fail_if_success (with_reducible show wpAny _ _ (exec (Stmt.While _ _ _ _) _) _ _ _)); (fail_if_success (with_reducible show ite _ _ _)); (fail_if_success (with_reducible show wpAny _ _ (call (Value.ref _) _) _ _ _)); (fail_if_success (with_reducible show wpAny _ _ (subscriptTail _ _ (Value.ref 47) (Value.str _ _)) _ _ _)); (first | (k_end; wrow_close) | walk1 | (dsimp only; walk1) | ((simp only [List.cons_append, List.nil_append]); walk1) | (leave1; walk_say "STEP leave1"; try dsimp only))) | fail "no step"))
        refine ite_pos hyes ?_
        obtain ⟨n, hn⟩ := Option.isSome_iff_exists.mp hyes
        (repeat' (first | (k_unfold; (try dsimp only)) | (with_reducible refine ite_pos (rfl : true = true) ?_) | (with_reducible refine ite_neg Bool.false_ne_true ?_) | (k_closed; k_dflt (first | refine ite_pos (by decide) ?_ | refine ite_neg (by decide) ?_)) | ((fail_if_success (with_reducible show KswEnd _ _ _ _ _ _ _ _ _ _ _ _)); (fail_if_success (with_reducible show InvEndN _ _ _ _ _ _ _)); (fail_if_success (with_reducible show wpAny _ _ (exec (Stmt.While _ _ _ _) _) _ _ _)); (fail_if_success (with_reducible show ite _ _ _)); (fail_if_success (with_reducible show wpAny _ _ (call (Value.ref _) _) _ _ _)); (fail_if_success (with_reducible show wpAny _ _ (subscriptTail _ _ (Value.ref 47) (Value.str _ _)) _ _ _)); (first | (k_end; wrow_close) | walk1 | (dsimp only; walk1) | ((simp only [List.cons_append, List.nil_append]); walk1) | (leave1; walk_say "STEP leave1"; try dsimp only))) | fail "no step"))
        refine item_tok (by k_asm) (by k_asm) hn ?_
        intro t7
        (try dsimp only); (try k_fold)
        (repeat' (first | (k_unfold; (try dsimp only)) | (with_reducible refine ite_pos (rfl : true = true) ?_) | (with_reducible refine ite_neg Bool.false_ne_true ?_) | (k_closed; k_dflt (first | refine ite_pos (by decide) ?_ | refine ite_neg (by decide) ?_)) | ((fail_if_success (with_reducible show KswEnd _ _ _ _ _ _ _ _ _ _ _ _)); (fail_if_success (with_reducible show InvEndN _ _ _ _ _ _ _)); (fail_if_success (with_reducible show wpAny _ _ (exec (Stmt.While _ _ _ _) _) _ _ _)); (fail_if_success (with_reducible show ite _ _ _)); (fail_if_success (with_reducible show wpAny _ _ (call (Value.ref _) _) _ _ _)); (fail_if_success (with_reducible show wpAny _ _ (subscriptTail _ _ (Value.ref 47) (Value.str _ _)) _ _ _)); (first | (k_end; wrow_close) | walk1 | (dsimp only; walk1) | ((simp only [List.cons_append, List.nil_append]); walk1) | (leave1; walk_say "STEP leave1"; try dsimp only))) | fail "no step"))
        (rename News _ _ _ _ => nE); simp only [List.push_toArray] at nE
        refine' ksw_end (k + cut (u.drop k), ?_, ws ++ [.int n t7], nn + 1, row ++ [sym (u.drop k)]) (by assumption) (by assumption) (fun _ hp => hp) ?kf (List.forall_mem_cons.mpr ⟨int_eq (by with_unfolding_all rfl) ?e1, List.forall_mem_nil _⟩) ?kr (Cuts.step hP hkt) ?km
        case e1 => rw [hs8, hcut]; omega
        case kf => rw [sym_found (hcut ▸ hn)]; exact hS.append (.cons _ _ .nil)
        case kr => ksw_same
        case km => have := cut_pos (u.drop k); dsimp only; omega
      · (repeat' (first | (k_unfold; (try dsimp only)) | (with_reducible refine ite_pos (rfl : true = true) ?_) | (with_reducible refine ite_neg Bool.false_ne_true ?_) | (k_closed; k_dflt (first | refine ite_pos (by decide) ?_ | refine ite_neg (by decide) ?_)) | ((fail_if_success (with_reducible show KswEnd _ _ _ _ _ _ _ _ _ _ _ _)); (fail_if_success (with_reducible show InvEndN _ _ _ _ _ _ _)); (fail_if_success (with_reducible show wpAny _ _ (exec (Stmt.While _ _ _ _) _) _ _ _)); (fail_if_success (with_reducible show ite _ _ _)); (fail_if_success (with_reducible show wpAny _ _ (call (Value.ref _) _) _ _ _)); (fail_if_success (with_reducible show wpAny _ _ (subscriptTail _ _ (Value.ref 47) (Value.str _ _)) _ _ _)); (first | (k_end; wrow_close) | walk1 | (dsimp only; walk1) | ((simp only [List.cons_append, List.nil_append]); walk1) | (leave1; walk_say "STEP leave1"; try dsimp only))) | fail "no step"))
        refine ite_neg hyes ?_
        (repeat' (first | (k_unfold; (try dsimp only)) | (with_reducible refine ite_pos (rfl : true = true) ?_) | (with_reducible refine ite_neg Bool.false_ne_true ?_) | (k_closed; k_dflt (first | refine ite_pos (by decide) ?_ | refine ite_neg (by decide) ?_)) | ((fail_if_success (with_reducible show KswEnd _ _ _ _ _ _ _ _ _ _ _ _)); (fail_if_success (with_reducible show InvEndN _ _ _ _ _ _ _)); (fail_if_success (with_reducible show wpAny _ _ (exec (Stmt.While _ _ _ _) _) _ _ _)); (fail_if_success (with_reducible show ite _ _ _)); (fail_if_success (with_reducible show wpAny _ _ (call (Value.ref _) _) _ _ _)); (fail_if_success (with_reducible show wpAny _ _ (subscriptTail _ _ (Value.ref 47) (Value.str _ _)) _ _ _)); (first | (k_end; wrow_close) | walk1 | (dsimp only; walk1) | ((simp only [List.cons_append, List.nil_append]); walk1) | (leave1; walk_say "STEP leave1"; try dsimp only))) | fail "no step"))
        (rename News _ _ _ _ => nE); simp only [List.push_toArray] at nE
        have e9 : sym (u.drop k) = 256 + ((ofL ((u.drop k).take j)).cps.getD 0 0 : Int) := by
          subst hj1
          exact sym_none (u.drop k) hv hcut (by simpa using hyes)
        have kf : ∀ tt, IntsAre (ws ++ [.int (256 + ((ofL ((u.drop k).take j)).cps.getD 0 0 : Int)) tt]) (row ++ [sym (u.drop k)]) := fun tt => by
          rw [e9]
          exact hS.append (.cons _ _ .nil)
        have e1 : (k : Int) + ((ofL ((u.drop k).take j)).length : Int) = ((k + cut (u.drop k) : Nat) : Int) := by rw [hs8, hcut]; omega
        refine ksw_end (k + cut (u.drop k), _, ws ++ [.int _ _], nn + 1, row ++ [sym (u.drop k)]) (by assumption) nE (fun _ hp => hp) (kf _) (List.forall_mem_cons.mpr ⟨int_eq (by with_unfolding_all rfl) e1, List.forall_mem_nil _⟩) ?kr (Cuts.step hP hkt) ?km
        case kr => ksw_same
        case km => have := cut_pos (u.drop k); dsimp only; omega
  · have hkt : u.length ≤ k := by simp only [decide_eq_true_eq] at hc; rw [ofL_length] at hc; omega
    (repeat' (first | (k_unfold; (try dsimp only)) | (with_reducible refine ite_pos (rfl : true = true) ?_) | (with_reducible refine ite_neg Bool.false_ne_true ?_) | (k_closed; k_dflt (first | refine ite_pos (by decide) ?_ | refine ite_neg (by decide) ?_)) | ((fail_if_success (with_reducible show KswEnd _ _ _ _ _ _ _ _ _ _ _ _)); (fail_if_success (with_reducible show InvEndN _ _ _ _ _ _ _)); (fail_if_success (with_reducible show wpAny _ _ (exec (Stmt.While _ _ _ _) _) _ _ _)); (fail_if_success (with_reducible show ite _ _ _)); (fail_if_success (with_reducible show wpAny _ _ (call (Value.ref _) _) _ _ _)); (first | (k_end; wrow_close) | walk1 | (dsimp only; walk1) | ((simp only [List.cons_append, List.nil_append]); walk1) | (leave1; walk_say "STEP leave1"; try dsimp only))) | fail "no step"))
    have hk2 : k = u.length := Nat.le_antisymm hP.le.1 hkt
    subst hk2
    exact hret _ _ _ _ _ _ hP (by k_asm) (by k_asm) l1 hS
end
end
end Mine

/-! part P6a -/
namespace Mine
section
open PySem PySem.W PyProof.Rows PySem.Calls PySem.Spec
section
variable {w : World} {mean : ExcName → Option Value} {mg mb : Str → Option Value} {dp un : Nat} {gd : Option (List Code)} {cn : Str} {cs : Scope} {a : Addr} {ccd : Value} {cl : List (Str × Addr)} {outer : List Env} {A₀ : Around} {base h₀ : Heap} {L : Addr} {m : Str → Option Value} {news : List (Addr × Obj)} {s : Shared} {Q E : Value → Shared → Prop}
set_option maxRecDepth 100000 in
set_option maxHeartbeats 8000000 in
theorem terminal_spec
  (x : Int) (tk : Tok) (B : Below A₀ base outer h₀) (F : Fr h₀ L s.heap m) (X : (hd.heap_39 w.params).In h₀) (N : News h₀ L s.heap news) (T : Top hd.view_39 (looseW hd.view_39 [Str.ofString "EXACT_TOKEN_TYPES"]) mean mg mb h₀) (hk : cs.kind = .function) (hdp : dp + 2 < recursionLimit) (hun : un + 16 < cLine)
  (hret : ∀ h' tk', Fr h₀ L h' m → News h₀ L h' news → Q (.bool (decide (x < 256))) { s with heap := h', toks := tk' }) :
  wpAny (model PySem.Challenge.rw_pg0134_01.row.prog w) (ktrTop dp un gd cn cs L a ccd cl outer) (call (.ref 56) [.int x tk]) Q E s := by
  revert X; k_fill; intro X
  refine wpAny_call ?_
  k_dflt cell_enter
  (repeat' (first | (k_unfold; (try dsimp only)) | (with_reducible refine ite_pos (rfl : true = true) ?_) | (with_reducible refine ite_neg Bool.false_ne_true ?_) | (k_closed; k_dflt (first | refine ite_pos (by decide) ?_ | refine ite_neg (by decide) ?_)) | ((fail_if_success (with_reducible show KswEnd _ _ _ _ _ _ _ _ _ _ _ _)); (fail_if_success (with_reducible show InvEndN _ _ _ _ _ _ _)); (fail_if_success (with_reducible show wpAny _ _ (exec (Stmt.While _ _ _ _) _) _ _ _)); (fail_if_success (with_reducible show ite _ _ _)); (fail_if_success (with_reducible show wpAny _ _ (call (Value.ref _) _) _ _ _)); (fail_if_success (with_reducible show wpAny _ _ (exec (Stmt.For _ _ _ _ _) _) _ _ _)); (first | (k_end; wrow_close) | walk1 | (dsimp only; walk1) | ((simp only [List.cons_append, List.nil_append]); walk1) | (leave1; walk_say "STEP leave1"; try dsimp only))) | fail "no step"))
  exact hret _ _ (by k_asm) (by k_asm)
set_option maxRecDepth 100000 in
set_option maxHeartbeats 8000000 in
theorem nonterminal_spec
  (x : Int) (tk : Tok) (B : Below A₀ base outer h₀) (F : Fr h₀ L s.heap m) (X : (hd.heap_39 w.params).In h₀) (N : News h₀ L s.heap news) (T : Top hd.view_39 (looseW hd.view_39 [Str.ofString "EXACT_TOKEN_TYPES"]) mean mg mb h₀) (hk : cs.kind = .function) (hdp : dp + 2 < recursionLimit) (hun : un + 16 < cLine)
  (hret : ∀ h' tk', Fr h₀ L h' m → News h₀ L h' news → Q (.bool (decide (256 ≤ x))) { s with heap := h', toks := tk' }) :
  wpAny (model PySem.Challenge.rw_pg0134_01.row.prog w) (ktrTop dp un gd cn cs L a ccd cl outer) (call (.ref 63) [.int x tk]) Q E s := by
  revert X; k_fill; intro X
  refine wpAny_call ?_
  k_dflt cell_enter
  (repeat' (first | (k_unfold; (try dsimp only)) | (with_reducible refine ite_pos (rfl : true = true) ?_) | (with_reducible refine ite_neg Bool.false_ne_true ?_) | (k_closed; k_dflt (first | refine ite_pos (by decide) ?_ | refine ite_neg (by decide) ?_)) | ((fail_if_success (with_reducible show KswEnd _ _ _ _ _ _ _ _ _ _ _ _)); (fail_if_success (with_reducible show InvEndN _ _ _ _ _ _ _)); (fail_if_success (with_reducible show wpAny _ _ (exec (Stmt.While _ _ _ _) _) _ _ _)); (fail_if_success (with_reducible show ite _ _ _)); (fail_if_success (with_reducible show wpAny _ _ (call (Value.ref _) _) _ _ _)); (fail_if_success (with_reducible show wpAny _ _ (exec (Stmt.For _ _ _ _ _) _) _ _ _)); (first | (k_end; wrow_close) | walk1 | (dsimp only; walk1) | ((simp only [List.cons_append, List.nil_append]); walk1) | (leave1; walk_say "STEP leave1"; try dsimp only))) | fail "no step"))
  exact hret _ _ (by k_asm) (by k_asm)
end
end
end Mine

/-! part P6b -/
namespace Mine
section
open PySem PySem.W PyProof.Rows PySem.Calls PySem.Spec
/-! a for over a list of ints of the ledger, with a lower bound of the tokens kept from turn to turn -/
section
variable {prog : Program} {w : World} {A : Around} {E : Value → Shared → Prop} {s : Shared} {env : Env} {h₀ : Heap} {x : Str} {px pos : Pos} {iter : Expr} {body : List Stmt} {Q : Flow → Shared → Prop}
def ForSrc (prog : Program) (w : World) (A : Around) (env : Env) (x : Str) (px : Pos) (body : List Stmt) (Q : Flow → Shared → Prop) (E : Value → Shared → Prop) (xv : Value) (s₁ : Shared) : Prop :=
  wpAny (model prog w) A (pyIter xv) (fun it s₂ => codeAny (model prog w) A (.forLoop (.Name x px) it body [] env) (fun r s' => match r with | .ok f => Q f s' | .error e => cameBackBy (model prog w) A env E e s') s₂) E s₁
theorem for_src (h : wpAny (model prog w) A (eval iter env) (ForSrc prog w A env x px body Q E) E s) (hs : ∀ x, foldedSetIterable iter env x = pure x := by intro _; rfl) :
    wpAny (model prog w) A (exec (.For (.Name x px) iter body [] pos) env) Q E s := wpAny_For h hs
theorem iter_val {σ : Type} {l : Addr} {vs : List Value} {ns : List Int} {nn : Nat} {m₀ : Str → Option Value} (b : Nat) (val : Int → Tok → Value) (Led : σ → List (Addr × Obj)) (Facts : σ → Prop) (stored : List Str) (P : List Int → σ → Prop) (c₀ : σ)
    (hb : b ≤ s.toks) (hh : A.handled = none) (hx : env.kindOf x = some .local) (hp' : (env.scope.kind == .class || (env.scope.kind == .module && env.locals != env.globals)) = false)
    (hl : ∀ c, (l, listOf vs.toArray nn) ∈ Led c) (hadr : ∀ c, (Led c).map (·.1) = (Led c₀).map (·.1)) (hvl : vs.length = ns.length) (hvg : ∀ (i : Nat) (n : Int), ns[i]? = some n → ∃ t, vs[i]? = some (val n t)) (F : Fr h₀ env.locals s.heap m₀) (N : News h₀ env.locals s.heap (Led c₀)) (hf : Facts c₀) (hp : P [] c₀)
    (turn : ∀ (c : σ) pre post n t (u : Str → Option Value) h tk own, ns = pre ++ n :: post → n ∈ ns → b ≤ tk → OwnOff own ((Led c₀).map (·.1)) → Facts c → P pre c →
      Fr h₀ env.locals h (fun y => if y = x then some (val n t) else if stored.contains y then u y else m₀ y) → News h₀ env.locals h (Led c ++ own) →
      wpAny (model prog w) A (execs body env) (InvPostN h₀ env.locals (KstS Led (fun _ => []) Facts x stored m₀ P (pre ++ [n])) own ((Led c₀).map (·.1)) { s with heap := h, toks := tk } Q) E { s with heap := h, toks := tk })
    (done : ∀ (c : σ) (u : Str → Option Value) h tk, b ≤ tk → Facts c → P ns c → Fr h₀ env.locals h (fun y => if y = x then u y else if stored.contains y then u y else m₀ y) → News h₀ env.locals h (Led c) → Q .next { s with heap := h, toks := tk })
    (hE : PassesOwn (model prog w) A env E) : ForSrc prog w A env x px body Q E (.ref l) s := by
  have hol : s.heap.get? l = some (listOf vs.toArray nn) := (N _ (hl c₀)).1
  have hls : s.heap.IsList l vs.toArray := ⟨_, hol, rfl, nn, rfl⟩
  have hne : l ≠ s.heap.objs.size := Nat.ne_of_lt (Heap.lt_size hol)
  have hIfresh : h₀.get? s.heap.objs.size = none := next_is_new F
  have hIL : env.locals ≠ s.heap.objs.size := Nat.ne_of_lt F.ns.lt
  have hIled : ∀ c, ∀ p ∈ Led c, p.1 ≠ s.heap.objs.size := by
    intro c p hp
    have h1 : p.1 ∈ (Led c).map (·.1) := List.mem_map.mpr ⟨p, hp, rfl⟩
    rw [hadr c] at h1
    obtain ⟨q, hq, he⟩ := List.mem_map.mp h1
    rw [← he]
    exact Nat.ne_of_lt (Heap.lt_size (N q hq).1)
  have frame : ∀ {m' : Str → Option Value} {v : Option Value}, (∀ z, z ≠ x → stored.contains z = false → m' z = m₀ z) → (fun y => if y = x then v else m' y) = fun y => if y = x then v else if stored.contains y then m' y else m₀ y := by
    intro m' v hm
    funext y
    by_cases h1 : y = x
    · simp [h1]
    · simp only [if_neg h1]
      cases h2 : stored.contains y with
      | true => simp
      | false => simp only [Bool.false_eq_true, if_false]; exact hm y h1 h2
  unfold ForSrc
  refine wpAny_pyIter_list hls ?_
  have W := Walks.list (prog := prog) (w := w) hh s.heap.objs.size l hne vs.toArray
  have hsz : vs.toArray.size = ns.length := by simp [hvl]
  refine codeAny_forLoop
    (fun k s' => ∃ i h' tk m' c, s' = { s with heap := h', toks := tk } ∧ b ≤ tk ∧ i ≤ ns.length ∧ k = ns.length + 1 - i ∧ h'.IsListIter s.heap.objs.size l i ∧ Fr h₀ env.locals h' m' ∧ News h₀ env.locals h' (Led c) ∧ Facts c ∧
      (∀ z, z ≠ x → stored.contains z = false → m' z = m₀ z) ∧ P (ns.take i) c) ?_ (ns.length + 1)
    ⟨0, _, _, m₀, c₀, rfl, hb, Nat.zero_le _, rfl, ⟨_, Heap.get?_push_size _ rfl, rfl, rfl⟩, F.push _, (fun p hp => ⟨Heap.get?_push_of_some _ (N p hp).1, (N p hp).2⟩), hf, fun _ _ _ => rfl, by simpa using hp⟩
  rintro k s' ⟨i, h', tk, m', c, rfl, hbt, hile, rfl, hit, F', N', hf', hm', hP'⟩
  have hlst : h'.IsList l vs.toArray := ⟨_, (N' _ (hl c)).1, rfl, nn, rfl⟩
  by_cases hlt : i < ns.length
  · refine wpAny_with_toks (n := b) hbt (W.item i _ _ _ (by rw [hsz]; exact hlt) ⟨hit, hlst⟩ fun v h₁ tk₁ hv hst₁ hk₁ hb₁ => ?_)
    have F₁ : Fr h₀ env.locals h₁ m' := LCg.fr_but F' hk₁ hIL hIfresh
    have N₁ : News h₀ env.locals h₁ (Led c) := LCg.news_but N' hk₁ (hIled c)
    obtain ⟨oI, hoI, hcls, hdat⟩ := hst₁.1
    refine wpAny_assign_Name (wpAny_with_toks (n := b) hb₁ (wpAny_storeName_local hx F₁.ns (fun h₂ hn₂ hs₂ hb₂ => ?_) hp'))
    have F₂ := F₁.set hn₂ hs₂
    have hoI₂ : h₂.get? s.heap.objs.size = some oI := (hs₂.2 _ (Ne.symm hIL)).trans hoI
    have N₂ : News h₀ env.locals h₂ (Led c ++ [(s.heap.objs.size, oI)]) := fun p hp => by
      rcases List.mem_append.mp hp with hp | hp
      · exact (N₁.set hs₂) p hp
      · rw [List.mem_singleton.mp hp]
        exact ⟨hoI₂, Ne.symm hIL, hIfresh⟩
    obtain ⟨t, hx'⟩ := hvg i ns[i] (by simp [hlt])
    have hv' : v = val ns[i] t := by
      have hP' : vs[i]? = some v := by simpa using hv
      rw [hx'] at hP'; exact (Option.some.inj hP').symm
    subst hv'
    rw [frame hm'] at F₂
    have hs : ns.take (i + 1) = ns.take i ++ [ns[i]] := by simp
    have e : ns = ns.take i ++ ns[i] :: ns.drop (i + 1) := by
      have ht := List.take_append_drop (i + 1) ns
      rw [hs, List.append_assoc] at ht
      exact ht.symm
    refine wpAny_mono (wpAny_toks_of (n := b) hb₂ (wpAny_passesOwn hE (turn c _ _ ns[i] t m' h₂ _ [(s.heap.objs.size, oI)] e (List.getElem_mem _) hb₂ (fun p hp q hq => ?_) hf' hP' F₂ N₂))) (fun f s₃ h₃ => ?_) (fun _ _ e => e.2)
    · rw [List.mem_singleton.mp hp]
      obtain ⟨r, hr, rfl⟩ := List.mem_map.mp hq
      exact Ne.symm (hIled c₀ r hr)
    have fin : ∀ (h9 : Heap) (tk9 : Nat), InvEndN h₀ env.locals (KstS Led (fun _ => []) Facts x stored m₀ P (ns.take i ++ [ns[i]])) [(s.heap.objs.size, oI)] ((Led c₀).map (·.1)) { s with heap := h9, toks := tk9 } s₃ → b ≤ s₃.toks → ∃ m, m < ns.length + 1 - i ∧
        ∃ i h' tk m' c, s₃ = { s with heap := h', toks := tk } ∧ b ≤ tk ∧ i ≤ ns.length ∧ m = ns.length + 1 - i ∧ h'.IsListIter s.heap.objs.size l i ∧ Fr h₀ env.locals h' m' ∧ News h₀ env.locals h' (Led c) ∧ Facts c ∧
          (∀ z, z ≠ x → stored.contains z = false → m' z = m₀ z) ∧ P (ns.take i) c := by
      rintro h9 tk9 ⟨h₄, tk₄, m₄, news₄, nx, e₄, F₄, N₄, hnx, hown, -, c', rfl, hf'', -, hr'', hp''⟩ hb₃
      refine ⟨ns.length + 1 - (i + 1), by omega, i + 1, h₄, tk₄, m₄, c', e₄, by rw [e₄] at hb₃; exact hb₃, hlt, rfl, ⟨oI, (N₄ _ (hown _ (.head _))).1, hcls, hdat⟩, F₄, fun p hp => N₄ p (hnx p hp), hf'', fun z h1 h2 => hr'' z h1 (fun _ h => nomatch h) h2, by rw [hs]; exact hp''⟩
    cases f with
    | ret v => exact h₃.2
    | brk => exact h₃.2
    | next => exact fin _ _ h₃.2 h₃.1
    | cont => exact fin _ _ h₃.2 h₃.1
  · have hin : i = ns.length := by omega
    subst hin
    rw [List.take_length] at hP'
    refine wpAny_with_toks (n := b) hbt (W.done _ _ _ (by rw [hsz]; exact ⟨hit, hlst⟩) fun h₁ tk₁ hk₁ hb₁ => ?_)
    refine wpAny_execs_nil ?_
    have F₁ : Fr h₀ env.locals h₁ m' := LCg.fr_but F' hk₁ hIL hIfresh
    refine done c m' h₁ tk₁ hb₁ hf' hP' ?_ (LCg.news_but N' hk₁ (hIled c))
    have e9 : (fun y => if y = x then m' y else if stored.contains y then m' y else m₀ y) = m' := by
      funext y
      by_cases h1 : y = x
      · simp [h1]
      · simp only [if_neg h1]
        cases h2 : stored.contains y with
        | true => simp
        | false => simp only [Bool.false_eq_true, if_false]; exact (hm' y h1 h2).symm
    rw [e9]
    exact F₁
theorem iter_toks {σ : Type} {l : Addr} {vs : List Value} {ns : List Int} {nn : Nat} {m₀ : Str → Option Value} (b : Nat) (Led : σ → List (Addr × Obj)) (Facts : σ → Prop) (stored : List Str) (P : List Int → σ → Prop) (c₀ : σ)
    (hb : b ≤ s.toks) (hh : A.handled = none) (hx : env.kindOf x = some .local) (hp' : (env.scope.kind == .class || (env.scope.kind == .module && env.locals != env.globals)) = false)
    (hl : ∀ c, (l, listOf vs.toArray nn) ∈ Led c) (hadr : ∀ c, (Led c).map (·.1) = (Led c₀).map (·.1)) (hi : IntsAre vs ns) (F : Fr h₀ env.locals s.heap m₀) (N : News h₀ env.locals s.heap (Led c₀)) (hf : Facts c₀) (hp : P [] c₀)
    (turn : ∀ (c : σ) pre post n t (u : Str → Option Value) h tk own, ns = pre ++ n :: post → n ∈ ns → b ≤ tk → OwnOff own ((Led c₀).map (·.1)) → Facts c → P pre c →
      Fr h₀ env.locals h (fun y => if y = x then some (.int n t) else if stored.contains y then u y else m₀ y) → News h₀ env.locals h (Led c ++ own) →
      wpAny (model prog w) A (execs body env) (InvPostN h₀ env.locals (KstS Led (fun _ => []) Facts x stored m₀ P (pre ++ [n])) own ((Led c₀).map (·.1)) { s with heap := h, toks := tk } Q) E { s with heap := h, toks := tk })
    (done : ∀ (c : σ) (u : Str → Option Value) h tk, b ≤ tk → Facts c → P ns c → Fr h₀ env.locals h (fun y => if y = x then u y else if stored.contains y then u y else m₀ y) → News h₀ env.locals h (Led c) → Q .next { s with heap := h, toks := tk })
    (hE : PassesOwn (model prog w) A env E) : ForSrc prog w A env x px body Q E (.ref l) s :=
  iter_val b Value.int Led Facts stored P c₀ hb hh hx hp' hl hadr hi.length (fun i n h => hi.get i n h) F N hf hp turn done hE
end
/-! steps that tell how the tokens go on -/
section
variable {prog : Program} {w : World} {A : Around} {E : Value → Shared → Prop} {s : Shared} {value slice : Expr} {x y : Str} {t u : Tok} {h₀ : Heap} {L : Addr} {m : Str → Option Value} {news : List (Addr × Obj)} {Q : Value → Shared → Prop}
theorem slice_ns_b {j : Int} {uj : Tok} (hF : Fr h₀ L s.heap m) (hN : News h₀ L s.heap news) (h : ∀ h' t' k, s.toks ≤ k → Fr h₀ L h' m → News h₀ L h' news → Q (.str (Txt.slice x none (some j)) t') { s with heap := h', toks := k })
    (hs : subscripted slice false (.str x t) (.ref s.heap.objs.size) = operate [.ref s.heap.objs.size, .str x t] (getItem (.str x t) (.ref s.heap.objs.size)) := by with_unfolding_all rfl)
    (ht : ∀ r, letTemporaryGo value (.str x t) r = pure () := by intro _; with_unfolding_all rfl) (hsz : x.length ≤ sizeLine := by size_fits) :
    wpAny (model prog w) A (subscriptTail value slice (.str x t) (.ref s.heap.objs.size)) Q E { s with heap := s.heap.push { cls := .type "slice", data := .fields #[.none, .int j uj, .none] } } :=
  wpAny_with_toks (n := s.toks) (Nat.le_refl _) (slice_strN_ns hF hN (fun h' t' k a b hk => h h' t' k hk a b) hs ht hsz)
theorem slice_sn_b {i : Int} {ui : Tok} (hF : Fr h₀ L s.heap m) (hN : News h₀ L s.heap news) (h : ∀ h' t' k, s.toks ≤ k → Fr h₀ L h' m → News h₀ L h' news → Q (.str (Txt.slice x (some i) none) t') { s with heap := h', toks := k })
    (hs : subscripted slice false (.str x t) (.ref s.heap.objs.size) = operate [.ref s.heap.objs.size, .str x t] (getItem (.str x t) (.ref s.heap.objs.size)) := by with_unfolding_all rfl)
    (ht : ∀ r, letTemporaryGo value (.str x t) r = pure () := by intro _; with_unfolding_all rfl) (hsz : x.length ≤ sizeLine := by size_fits) :
    wpAny (model prog w) A (subscriptTail value slice (.str x t) (.ref s.heap.objs.size)) Q E { s with heap := s.heap.push { cls := .type "slice", data := .fields #[.int i ui, .none, .none] } } :=
  wpAny_with_toks (n := s.toks) (Nat.le_refl _) (slice_strN_sn hF hN (fun h' t' k a b hk => h h' t' k hk a b) hs ht hsz)
theorem add_b (h : ∀ t' k, s.toks ≤ k → Q (.str (x ++ y) t') { s with toks := k }) (hsz : x.length + y.length ≤ sizeLine := by size_fits) : wpAny (model prog w) A (binaryOp .Add (.str x t) (.str y u)) Q E s :=
  wpAny_with_toks (n := s.toks) (Nat.le_refl _) (PyProof.Rows.add_str (fun t' k hk => h t' k hk) hsz)
/-- both not empty: the sum is a new object -/
theorem add_new (hx : x.length ≠ 0) (hy : y.length ≠ 0) (hsz : x.length + y.length ≤ sizeLine) (h : Q (.str (x ++ y) s.toks) { s with toks := s.toks + 1 }) : wpAny (model prog w) A (binaryOp .Add (.str x t) (.str y u)) Q E s :=
  PySem.P.add_str (by
    rw [if_neg (by simpa using hx), if_neg (by simpa using hy)]
    exact ⟨by rw [Str.length_append]; exact hsz, h⟩)
theorem replace_b {z : Str} {v : Tok} (hu : u ≠ 0) (hv : v ≠ 0) (huv : u ≠ v) (hyz : (y == z) = false) (hx : x.length ≤ 1000) (hz : z.length ≤ 14)
    (h : ∀ t' k, s.toks ≤ k → Q (.str (Txt.replace x y z) t') { s with toks := k }) : wpAny (model prog w) A (call (.builtin "str.replace") [.str x t, .str y u, .str z v]) Q E s :=
  wpAny_with_toks (n := s.toks) (Nat.le_refl _) (SC.replaceW hu hv huv hyz (by omega) hz (fun t' k hk => h t' k hk))
end
end
end Mine

/-! part P6 -/
namespace Mine
section
open PySem PySem.W PyProof.Rows PySem.Calls PySem.Spec
theorem split_spell : Txt.split (Str.ofString "( ) [ ] : , ; + - * / | & < > = . % { } == != <= >= ~ ^ << >> ** += -= *= /= %= &= |= ^= <<= >>= **= // //= @ @= -> ... := !") (Str.ofString " ") = SPELL.map ofL := by decide +kernel
/-! the names, grown at their end -/
def repM (l : List Nat) : List Nat := l.map fun c => if c = 61 then 57344 else c
def addLast (N : List (List Nat)) (p : List Nat) : List (List Nat) := N.dropLast ++ [N.getLastD [] ++ p]
theorem addLast_snoc (N : List (List Nat)) (y p : List Nat) : addLast (N ++ [y]) p = N ++ [y ++ p] := by
  unfold addLast
  simp
def opStep (st : Nat) (N : List (List Nat)) (x : Int) : List (List Nat) :=
  if x < 256 then
    (if (SPELL.getD (x - 7).toNat []).headD 0 ≠ st then addLast N (SPELL.getD (x - 7).toNat [])
     else if (SPELL.getD (x - 7).toNat []).take 2 = [st, st] then addLast N (34 :: repM ((SPELL.getD (x - 7).toNat []).drop 2))
     else N ++ [repM ((SPELL.getD (x - 7).toNat []).drop 1)])
  else addLast N [if (x - 256).toNat = 34 then st else (x - 256).toNat]
section
variable {prog : Program} {w : World} {A : Around} {E : Value → Shared → Prop} {s : Shared} {h₀ : Heap} {L D : Addr} {m : Str → Option Value} {news rest : List (Addr × Obj)} {vs : List Value} {v v' : Value} {n : Nat} {u : Tok}
theorem strs_get {value slice : PySem.Expr} {ys : List PySem.Str} {y : PySem.Str} {k : Int} {Q : Value → Shared → Prop} (N : News h₀ L s.heap news) (hm : (D, listOf vs.toArray n) ∈ news) (hS : StrsAre vs ys) (h0 : 0 ≤ k) (h1 : k < 2 ^ 63) (hy : ys[k.toNat]? = some y) (h : ∀ t, Q (.str y t) s)
    (hs : subscripted slice false (.ref D) (.int k u) = operate [.ref D, .int k u] (getItem (.ref D) (.int k u)) := by with_unfolding_all rfl) :
    wpAny (model prog w) A (subscriptTail value slice (.ref D) (.int k u)) Q E s := by
  obtain ⟨t, ht⟩ := hS.get _ _ hy
  have hl := News.isList N hm
  exact tail_any hl.typeIs slot_list_getitem.lookup (wpAny_getItem_list hl h0 h1 (by simpa using ht) (h t)) hs
theorem last_get {value slice : PySem.Expr} {Q : Value → Shared → Prop} (N : News h₀ L s.heap news) (hm : (D, listOf (vs ++ [v]).toArray n) ∈ news) (h : Q v s)
    (hs : subscripted slice false (.ref D) (.int (-1) u) = operate [.ref D, .int (-1) u] (getItem (.ref D) (.int (-1) u)) := by with_unfolding_all rfl) :
    wpAny (model prog w) A (subscriptTail value slice (.ref D) (.int (-1) u)) Q E s :=
  kde_neg (vs := vs ++ [v]) (j := vs.length) (News.isList N hm) (by decide) (by decide) (by
    rw [StrLaws.seqIndex_neg (by decide) (by simp; omega)]
    simp
    omega) (by simp) h hs
theorem last_set {Q : Unit → Shared → Prop} (F : Fr h₀ L s.heap m) (N : News h₀ L s.heap ((D, listOf (vs ++ [v]).toArray n) :: rest)) (hne : ∀ p ∈ rest, p.1 ≠ D)
    (h : ∀ h', Fr h₀ L h' m → News h₀ L h' ((D, listOf (vs ++ [v']).toArray n) :: rest) → Q () { s with heap := h' }) :
    wpAny (model prog w) A (setItem (.ref D) (.int (-1) u) v') Q E s := by
  have z := N _ (List.Mem.head _)
  refine ki_setBack z.1 (by decide) (by simp; omega) (by decide) (h _ (F.change (Heap.SameBut.update ..) z.2.1 z.2.2) (ki_turn (pre := []) _ N (fun _ h => nomatch h) hne ?_ ?_))
  · have e : (-1 + ((vs ++ [v]).toArray.size : Int)).toNat = vs.length := by simp; omega
    rw [e]
    apply Array.toList_inj.mp
    simp
  · simp
end
theorem step_other {st : Nat} {N : List (List Nat)} {y p : List Nat} {x : Int} (h1 : x < 256) (h2 : SPELL.getD (x - 7).toNat [] = p) (h3 : p.headD 0 ≠ st) : opStep st (N ++ [y]) x = N ++ [y ++ p] := by
  unfold opStep
  rw [if_pos h1, h2, if_pos h3, addLast_snoc]
theorem step_two {st : Nat} {N : List (List Nat)} {y p : List Nat} {x : Int} (h1 : x < 256) (h2 : SPELL.getD (x - 7).toNat [] = p) (h3 : p.headD 0 = st) (h4 : p.take 2 = [st, st]) : opStep st (N ++ [y]) x = N ++ [y ++ [34] ++ repM (p.drop 2)] := by
  unfold opStep
  rw [if_pos h1, h2, if_neg (fun h => h h3), if_pos h4, addLast_snoc]
  simp
theorem step_one {st : Nat} {N : List (List Nat)} {y p : List Nat} {x : Int} (h1 : x < 256) (h2 : SPELL.getD (x - 7).toNat [] = p) (h3 : p.headD 0 = st) (h4 : ¬ p.take 2 = [st, st]) : opStep st (N ++ [y]) x = (N ++ [y]) ++ [repM (p.drop 1)] := by
  unfold opStep
  rw [if_pos h1, h2, if_neg (fun h => h h3), if_neg h4]
theorem step_sign {st : Nat} {N : List (List Nat)} {y : List Nat} {x : Int} (h1 : 256 ≤ x) : opStep st (N ++ [y]) x = N ++ [y ++ [if (x - 256).toNat = 34 then st else (x - 256).toNat]] := by
  unfold opStep
  rw [if_neg (by omega), addLast_snoc]
theorem fold_snoc {st : Nat} {pre : List Int} {x : Int} {M N : List (List Nat)} (h : pre.foldl (opStep st) [[]] = M) (h2 : opStep st M x = N) : (pre ++ [x]).foldl (opStep st) [[]] = N := by
  rw [List.foldl_append, h]; exact h2
theorem ne_led {S l' : Addr} {o : Obj} {news own led : List (Addr × Obj)} (h1 : S < l') (h2 : ∀ p ∈ news, p.1 < l') (h3 : OwnOff own (led.map (·.1))) (h4 : l' ∈ led.map (·.1)) : ∀ p ∈ (S, o) :: (news ++ own), p.1 ≠ l' := by
  intro p hp
  rcases List.mem_cons.mp hp with rfl | hp
  · exact Nat.ne_of_lt h1
  · rcases List.mem_append.mp hp with hp | hp
    · exact Nat.ne_of_lt (h2 p hp)
    · exact h3 p hp _ h4
theorem led_sub {x y : Addr × Obj} {news own : List (Addr × Obj)} : ∀ p ∈ x :: y :: news, p ∈ x :: y :: (news ++ own) := by
  intro p hp
  rcases List.mem_cons.mp hp with rfl | hp
  · exact .head _
  · rcases List.mem_cons.mp hp with rfl | hp
    · exact .tail _ (.head _)
    · exact .tail _ (.tail _ (List.mem_append.mpr (.inl hp)))
theorem own_sub {x y : Addr × Obj} {news own : List (Addr × Obj)} : ∀ p ∈ own, p ∈ x :: y :: (news ++ own) := fun p hp => .tail _ (.tail _ (List.mem_append.mpr (.inr hp)))
/-- what is known of the 48 spellings -/
theorem spell_facts : ∀ p ∈ SPELL, 1 ≤ p.length ∧ p.length ≤ 3 ∧ Txt.item (ofL p) 0 = ofL [p.headD 0] ∧ Txt.slice (ofL p) none (some 2) = ofL (p.take 2) ∧
    Txt.replace (Txt.slice (ofL p) (some 2) none) (Str.ofString "=") (ofL [57344]) = ofL (repM (p.drop 2)) ∧ Txt.replace (Txt.slice (ofL p) (some 1) none) (Str.ofString "=") (ofL [57344]) = ofL (repM (p.drop 1)) := by decide +kernel
theorem spell_at {x : Int} (h0 : 7 ≤ x) (h1 : x ≤ 54) : ∃ p, SPELL[(x - 7).toNat]? = some p ∧ SPELL.getD (x - 7).toNat [] = p ∧ p ∈ SPELL := by
  have hl : SPELL.length = 48 := by decide
  have hlt : (x - 7).toNat < SPELL.length := by omega
  refine ⟨SPELL[(x - 7).toNat], List.getElem?_eq_getElem hlt, ?_, List.getElem_mem _⟩
  rw [List.getD_eq_getElem?_getD, List.getElem?_eq_getElem hlt]
  rfl
section
local macro_rules | `(tactic| k_all) => `(tactic| assumption)
local macro_rules | `(tactic| walk_at "execs cons") => `(tactic| (k_here; refine wpAny_execs_cons ?_))
local macro_rules | `(tactic| walk_at "execs nil") => `(tactic| (k_here; refine wpAny_execs_nil ?_))
local macro_rules | `(tactic| walk_at "binaryOp Add str str") => `(tactic| (k_here; (with_reducible show wpAny _ _ (binaryOp Operator.Add (Value.str _ _) (Value.str _ _)) _ _ _); (refine add_b (hsz := ?hsz) ?_); (case hsz => size_fits); intro t' k' hk'; (try dsimp only at hk')))
local macro_rules | `(tactic| walk_at "subscriptTail Name Slice str ref") => `(tactic| (k_here; (with_reducible show wpAny _ _ (subscriptTail _ (Expr.Slice _ _ _ _) (Value.str _ _) (Value.ref _)) _ _ _); (with_reducible rename Fr _ _ _ _ => F'); (with_reducible rename News _ _ _ _ => N'); (first
  | ((with_reducible show wpAny _ _ (subscriptTail _ (Expr.Slice none (some _) none _) _ _) _ _ _); (refine slice_ns_b (hsz := ?hsz) (s := ⟨_, _, _, _, _⟩) F' N' ?_); (case hsz => size_fits))
  | ((with_reducible show wpAny _ _ (subscriptTail _ (Expr.Slice (some _) none none _) _ _) _ _ _); (refine slice_sn_b (hsz := ?hsz) (s := ⟨_, _, _, _, _⟩) F' N' ?_); (case hsz => size_fits))); intro h' t' k' hk' F'' N''; (try dsimp only at hk')))
local macro_rules | `(tactic| size_fits) => `(tactic| ((try simp only [Array.size_push, List.size_toArray, Str.length_append, ofL_length, sizeLine_eq, List.length_cons, List.length_nil, List.length_append]); omega))
variable {w : World} {mean : ExcName → Option Value} {mg mb : Str → Option Value} {dp un : Nat} {gd : Option (List Code)} {cn : Str} {cs : Scope} {a : Addr} {ccd : Value} {cl : List (Str × Addr)} {outer : List Env} {A₀ : Around} {base h₀ : Heap} {L : Addr} {m : Str → Option Value} {news : List (Addr × Obj)} {s : Shared} {Q E : Value → Shared → Prop}
set_option maxRecDepth 100000 in
set_option maxHeartbeats 8000000 in
theorem operators_spec
  (st : Nat) (row : List Int) {l : Addr} {ws : List Value} {nl : Nat} (tk : Tok) (tk2 : Nat) (B : Below A₀ base outer h₀) (F : Fr h₀ L s.heap m) (X : (hd.heap_39 w.params).In h₀) (N : News h₀ L s.heap news) (T : Top hd.view_39 (looseW hd.view_39 [Str.ofString "EXACT_TOKEN_TYPES"]) mean mg mb h₀) (hk : cs.kind = .function) (hdp : dp + 4 < recursionLimit) (hun : un + 32 < cLine)
  (hm : (l, listOf (List.toArray ws) nl) ∈ news) (hI : IntsAre ws row)
  (htk1 : 1 ≤ tk2) (htk2 : tk2 < s.toks) (hlen : row.length ≤ 31) (hrow : ∀ x ∈ row, (7 ≤ x ∧ x ≤ 54) ∨ (256 ≤ x ∧ x < 55552))
  (hret : ∀ r vs n h' tk', Fr h₀ L h' m → News h₀ L h' ((r, listOf (List.toArray vs) n) :: news) → (∀ p ∈ news, p.1 < r) → StrsAre vs ((row.foldl (opStep st) [[]]).map ofL) → Q (.ref r) { s with heap := h', toks := tk' }) :
  wpAny (model PySem.Challenge.rw_pg0134_01.row.prog w) (ktrTop dp un gd cn cs L a ccd cl outer) (call (.ref 91) [.ref l, .str (ofL [st]) tk, .str (ofL [57344]) tk2]) Q E s := by
  revert X; k_fill; intro X
  refine wpAny_call ?_
  k_dflt cell_enter
  (repeat' (first | (k_unfold; (try dsimp only)) | (with_reducible refine ite_pos (rfl : true = true) ?_) | (with_reducible refine ite_neg Bool.false_ne_true ?_) | (k_closed; k_dflt (first | refine ite_pos (by decide) ?_ | refine ite_neg (by decide) ?_)) | ((fail_if_success (with_reducible show KswEnd _ _ _ _ _ _ _ _ _ _ _ _)); (fail_if_success (with_reducible show InvEndN _ _ _ _ _ _ _)); (fail_if_success (with_reducible show wpAny _ _ (exec (Stmt.While _ _ _ _) _) _ _ _)); (fail_if_success (with_reducible show ite _ _ _)); (fail_if_success (with_reducible show wpAny _ _ (call (Value.ref _) _) _ _ _)); (fail_if_success (with_reducible show wpAny _ _ (exec (Stmt.For _ _ _ _ _) _) _ _ _)); (fail_if_success (with_reducible show wpAny _ _ (call (Value.builtin "str.split") _) _ _ _)); (first | (k_end; wrow_close) | walk1 | (dsimp only; walk1) | ((simp only [List.cons_append, List.nil_append]); walk1) | (leave1; walk_say "STEP leave1"; try dsimp only))) | fail "no step"))
  (try simp only [List.cons_append, List.nil_append])
  refine wpAny_with_toks (n := _) (Nat.le_refl _) (KSpl.split1 (by k_asm) (by k_asm) (by decide +kernel) ?_ (by decide +kernel))
  intro S wl h8 tk8 hwl hwS F8 N8 l1 hk8
  dsimp only at hk8
  rw [split_spell] at hwl
  rw [hwl] at hwS
  generalize strValues wl = wt at hwS N8
  clear hwl
  (try dsimp only); (try k_fold)
  (repeat' (first | (k_unfold; (try dsimp only)) | (with_reducible refine ite_pos (rfl : true = true) ?_) | (with_reducible refine ite_neg Bool.false_ne_true ?_) | (k_closed; k_dflt (first | refine ite_pos (by decide) ?_ | refine ite_neg (by decide) ?_)) | ((fail_if_success (with_reducible show KswEnd _ _ _ _ _ _ _ _ _ _ _ _)); (fail_if_success (with_reducible show InvEndN _ _ _ _ _ _ _)); (fail_if_success (with_reducible show wpAny _ _ (exec (Stmt.While _ _ _ _) _) _ _ _)); (fail_if_success (with_reducible show ite _ _ _)); (fail_if_success (with_reducible show wpAny _ _ (call (Value.ref _) _) _ _ _)); (fail_if_success (with_reducible show wpAny _ _ (exec (Stmt.For _ _ _ _ _) _) _ _ _)); (fail_if_success (with_reducible show wpAny _ _ (call (Value.builtin "str.split") _) _ _ _)); (first | (k_end; wrow_close) | walk1 | (dsimp only; walk1) | ((simp only [List.cons_append, List.nil_append]); walk1) | (leave1; walk_say "STEP leave1"; try dsimp only))) | fail "no step"))
  refine for_src ?_
  (repeat' (first | (k_unfold; (try dsimp only)) | (with_reducible refine ite_pos (rfl : true = true) ?_) | (with_reducible refine ite_neg Bool.false_ne_true ?_) | (k_closed; k_dflt (first | refine ite_pos (by decide) ?_ | refine ite_neg (by decide) ?_)) | ((fail_if_success (with_reducible show KswEnd _ _ _ _ _ _ _ _ _ _ _ _)); (fail_if_success (with_reducible show InvEndN _ _ _ _ _ _ _)); (fail_if_success (with_reducible show wpAny _ _ (exec (Stmt.While _ _ _ _) _) _ _ _)); (fail_if_success (with_reducible show ite _ _ _)); (fail_if_success (with_reducible show wpAny _ _ (call (Value.ref _) _) _ _ _)); (fail_if_success (with_reducible show wpAny _ _ (exec (Stmt.For _ _ _ _ _) _) _ _ _)); (fail_if_success (with_reducible show wpAny _ _ (pyIter _) _ _ _)); (fail_if_success (with_reducible show wpAny _ _ (call (Value.builtin "str.split") _) _ _ _)); (first | (k_end; wrow_close) | walk1 | (dsimp only; walk1) | ((simp only [List.cons_append, List.nil_append]); walk1) | (leave1; walk_say "STEP leave1"; try dsimp only))) | fail "no step"))
  (rename _ ∧ AllLt _ _ => lA); obtain ⟨hSl, hAl⟩ := lA; have hlt := ktn_ltOf hAl
  (rename Fr _ _ _ _ => lF); (rename News _ _ _ _ => lN)
  rw [litE] at lN
  have hmS : (l, listOf (List.toArray ws) nl) ∈ (S, listOf (List.toArray wt) 0) :: news := .tail _ hm
  with_unfolding_all refine' iter_toks (σ := List Value × Nat × List (List Nat) × List Nat × Tok) (ns := row) (tk2 + 1) (fun c => (_, listOf (c.1 ++ [Value.str (ofL c.2.2.2.1) c.2.2.2.2]).toArray c.2.1) :: (S, listOf (List.toArray wt) 0) :: news) (fun c => StrsAre c.1 (c.2.2.1.map ofL)) [Str.ofString "piece", Str.ofString "sign"] (fun pre c => pre.foldl (opStep st) [[]] = c.2.2.1 ++ [c.2.2.2.1] ∧ c.2.2.1.length ≤ pre.length ∧ c.2.2.2.1.length ≤ 4 * pre.length) ([], 0, [], [], _) ?kb rfl rfl rfl (fun _ => .tail _ hmS) (fun _ => rfl) hI lF lN StrsAre.nil ?kp ?_ ?_ ?kE
  case kb => (try dsimp only); omega
  case kp => exact ⟨rfl, Nat.le_refl _, Nat.le_refl _⟩
  case kE => passes_own
  · rintro ⟨vs, nn, N0, y, ty⟩ pre post x xt u9 h tk9 own he hx hbt hoff hS ⟨hP, hb1, hb2⟩ F9 N9
    clear lF lN
    have hpre : pre.length < 31 := by have := congrArg List.length he; simp at this; omega
    have hxr := hrow x hx
    dsimp only at hP hb1 hb2 F9 N9 hoff hS
    have hne := ne_led (o := listOf (List.toArray wt) 0) hSl hlt hoff (List.Mem.head _)
    simp only [List.cons_append] at N9
    have hs1 : (ofL y).length ≤ 200 := by rw [ofL_length]; omega
    have hvs : vs.length ≤ 31 := by rw [hS.length, List.length_map]; omega
    (try k_fold)
    rcases hxr with ⟨ha, hb⟩ | ⟨ha, hb⟩
    · (repeat' (first | (k_unfold; (try dsimp only)) | (with_reducible refine ite_pos (rfl : true = true) ?_) | (with_reducible refine ite_neg Bool.false_ne_true ?_) | (k_closed; k_dflt (first | refine ite_pos (by decide) ?_ | refine ite_neg (by decide) ?_)) | ((fail_if_success (with_reducible show KswEnd _ _ _ _ _ _ _ _ _ _ _ _)); (fail_if_success (with_reducible show InvEndN _ _ _ _ _ _ _)); (fail_if_success (with_reducible show wpAny _ _ (exec (Stmt.While _ _ _ _) _) _ _ _)); (fail_if_success (with_reducible show ite _ _ _)); (fail_if_success (with_reducible show wpAny _ _ (call (Value.ref _) _) _ _ _)); (fail_if_success (with_reducible show wpAny _ _ (exec (Stmt.For _ _ _ _ _) _) _ _ _)); (fail_if_success (with_reducible show wpAny _ _ (pyIter _) _ _ _)); (fail_if_success (with_reducible show wpAny _ _ (call (Value.builtin "str.split") _) _ _ _)); (fail_if_success (with_reducible show wpAny _ _ (subscriptTail _ _ (Value.ref _) (Value.int _ _)) _ _ _)); (fail_if_success (with_reducible show wpAny _ _ (setItem _ _ _) _ _ _)); (first | (k_end; wrow_close) | walk1 | (dsimp only; walk1) | ((simp only [List.cons_append, List.nil_append]); walk1) | (leave1; walk_say "STEP leave1"; try dsimp only))) | fail "no step"))
      refine wpAny_with_toks (n := _) (Nat.le_refl _) ?_; k_dflt (refine' terminal_spec _ _ ?cB ?cF ?cX ?cN ?cT ?cK ?cD ?cU ?_; (case cB => k_asm); (case cF => k_asm); (case cX => k_asm); (case cN => k_asm); (case cT => k_asm); (case cK => first | exact rfl | assumption); (case cD => exact Nat.lt_of_le_of_lt (by show dp + 1 + 2 ≤ dp + 4; omega) hdp); (case cU => exact Nat.lt_of_le_of_lt (by show un + 3 + 16 ≤ un + 32; omega) hun)); intro h9 tk9 F9 N9 hk9; dsimp only at hk9; rw [decide_eq_true (by omega : (x < 256))]; (try dsimp only); (try k_fold)
      (repeat' (first | (k_unfold; (try dsimp only)) | (with_reducible refine ite_pos (rfl : true = true) ?_) | (with_reducible refine ite_neg Bool.false_ne_true ?_) | (k_closed; k_dflt (first | refine ite_pos (by decide) ?_ | refine ite_neg (by decide) ?_)) | ((fail_if_success (with_reducible show KswEnd _ _ _ _ _ _ _ _ _ _ _ _)); (fail_if_success (with_reducible show InvEndN _ _ _ _ _ _ _)); (fail_if_success (with_reducible show wpAny _ _ (exec (Stmt.While _ _ _ _) _) _ _ _)); (fail_if_success (with_reducible show ite _ _ _)); (fail_if_success (with_reducible show wpAny _ _ (call (Value.ref _) _) _ _ _)); (fail_if_success (with_reducible show wpAny _ _ (exec (Stmt.For _ _ _ _ _) _) _ _ _)); (fail_if_success (with_reducible show wpAny _ _ (pyIter _) _ _ _)); (fail_if_success (with_reducible show wpAny _ _ (call (Value.builtin "str.split") _) _ _ _)); (fail_if_success (with_reducible show wpAny _ _ (subscriptTail _ _ (Value.ref _) (Value.int _ _)) _ _ _)); (fail_if_success (with_reducible show wpAny _ _ (setItem _ _ _) _ _ _)); (first | (k_end; wrow_close) | walk1 | (dsimp only; walk1) | ((simp only [List.cons_append, List.nil_append]); walk1) | (leave1; walk_say "STEP leave1"; try dsimp only))) | fail "no step"))
      refine wpAny_with_toks (n := _) (Nat.le_refl _) ?_; k_dflt (refine' nonterminal_spec _ _ ?cB ?cF ?cX ?cN ?cT ?cK ?cD ?cU ?_; (case cB => k_asm); (case cF => k_asm); (case cX => k_asm); (case cN => k_asm); (case cT => k_asm); (case cK => first | exact rfl | assumption); (case cD => exact Nat.lt_of_le_of_lt (by show dp + 1 + 2 ≤ dp + 4; omega) hdp); (case cU => exact Nat.lt_of_le_of_lt (by show un + 3 + 16 ≤ un + 32; omega) hun)); intro h9 tk9 F9 N9 hk9; dsimp only at hk9; rw [decide_eq_false (by omega : ¬ (256 ≤ x))]; (try dsimp only); (try k_fold)
      (repeat' (first | (k_unfold; (try dsimp only)) | (with_reducible refine ite_pos (rfl : true = true) ?_) | (with_reducible refine ite_neg Bool.false_ne_true ?_) | (k_closed; k_dflt (first | refine ite_pos (by decide) ?_ | refine ite_neg (by decide) ?_)) | ((fail_if_success (with_reducible show KswEnd _ _ _ _ _ _ _ _ _ _ _ _)); (fail_if_success (with_reducible show InvEndN _ _ _ _ _ _ _)); (fail_if_success (with_reducible show wpAny _ _ (exec (Stmt.While _ _ _ _) _) _ _ _)); (fail_if_success (with_reducible show ite _ _ _)); (fail_if_success (with_reducible show wpAny _ _ (call (Value.ref _) _) _ _ _)); (fail_if_success (with_reducible show wpAny _ _ (exec (Stmt.For _ _ _ _ _) _) _ _ _)); (fail_if_success (with_reducible show wpAny _ _ (pyIter _) _ _ _)); (fail_if_success (with_reducible show wpAny _ _ (call (Value.builtin "str.split") _) _ _ _)); (fail_if_success (with_reducible show wpAny _ _ (subscriptTail _ _ (Value.ref _) (Value.int _ _)) _ _ _)); (fail_if_success (with_reducible show wpAny _ _ (setItem _ _ _) _ _ _)); (first | (k_end; wrow_close) | walk1 | (dsimp only; walk1) | ((simp only [List.cons_append, List.nil_append]); walk1) | (leave1; walk_say "STEP leave1"; try dsimp only))) | fail "no step"))
      obtain ⟨p, hp1, hp2, hp3⟩ := spell_at ha hb
      obtain ⟨hq1, hq2, hq3, hq4, hq5, hq6⟩ := spell_facts p hp3
      refine strs_get (by k_asm) (.tail _ (.head _)) hwS (by omega) (by omega) (y := ofL p) (by rw [List.getElem?_map, hp1]; rfl) ?_
      intro t7
      (try dsimp only); (try k_fold)
      have hs2 : (ofL p).length ≤ 3 := by rw [ofL_length]; exact hq2
      (repeat' (first | (k_unfold; (try dsimp only)) | (with_reducible refine ite_pos (rfl : true = true) ?_) | (with_reducible refine ite_neg Bool.false_ne_true ?_) | (k_closed; k_dflt (first | refine ite_pos (by decide) ?_ | refine ite_neg (by decide) ?_)) | ((fail_if_success (with_reducible show KswEnd _ _ _ _ _ _ _ _ _ _ _ _)); (fail_if_success (with_reducible show InvEndN _ _ _ _ _ _ _)); (fail_if_success (with_reducible show wpAny _ _ (exec (Stmt.While _ _ _ _) _) _ _ _)); (fail_if_success (with_reducible show ite _ _ _)); (fail_if_success (with_reducible show wpAny _ _ (call (Value.ref _) _) _ _ _)); (fail_if_success (with_reducible show wpAny _ _ (exec (Stmt.For _ _ _ _ _) _) _ _ _)); (fail_if_success (with_reducible show wpAny _ _ (pyIter _) _ _ _)); (fail_if_success (with_reducible show wpAny _ _ (call (Value.builtin "str.split") _) _ _ _)); (fail_if_success (with_reducible show wpAny _ _ (subscriptTail _ _ (Value.ref _) (Value.int _ _)) _ _ _)); (fail_if_success (with_reducible show wpAny _ _ (setItem _ _ _) _ _ _)); (fail_if_success (with_reducible show wpAny _ _ (subscriptTail _ _ (Value.str _ _) (Value.int _ _)) _ _ _)); (first | (k_end; wrow_close) | walk1 | (dsimp only; walk1) | ((simp only [List.cons_append, List.nil_append]); walk1) | (leave1; walk_say "STEP leave1"; try dsimp only))) | fail "no step"))
      refine KXi.item (n := p.length) (ofL_length p) (by omega) (by omega) (by omega) ?_
      intro hi1
      rw [hq3]
      (try dsimp only); (try k_fold)
      (repeat' (first | (k_unfold; (try dsimp only)) | (with_reducible refine ite_pos (rfl : true = true) ?_) | (with_reducible refine ite_neg Bool.false_ne_true ?_) | (k_closed; k_dflt (first | refine ite_pos (by decide) ?_ | refine ite_neg (by decide) ?_)) | ((fail_if_success (with_reducible show KswEnd _ _ _ _ _ _ _ _ _ _ _ _)); (fail_if_success (with_reducible show InvEndN _ _ _ _ _ _ _)); (fail_if_success (with_reducible show wpAny _ _ (exec (Stmt.While _ _ _ _) _) _ _ _)); (fail_if_success (with_reducible show ite _ _ _)); (fail_if_success (with_reducible show wpAny _ _ (call (Value.ref _) _) _ _ _)); (fail_if_success (with_reducible show wpAny _ _ (exec (Stmt.For _ _ _ _ _) _) _ _ _)); (fail_if_success (with_reducible show wpAny _ _ (pyIter _) _ _ _)); (fail_if_success (with_reducible show wpAny _ _ (call (Value.builtin "str.split") _) _ _ _)); (fail_if_success (with_reducible show wpAny _ _ (subscriptTail _ _ (Value.ref _) (Value.int _ _)) _ _ _)); (fail_if_success (with_reducible show wpAny _ _ (setItem _ _ _) _ _ _)); (fail_if_success (with_reducible show wpAny _ _ (subscriptTail _ _ (Value.str _ _) (Value.int _ _)) _ _ _)); (first | (k_end; wrow_close) | walk1 | (dsimp only; walk1) | ((simp only [List.cons_append, List.nil_append]); walk1) | (leave1; walk_say "STEP leave1"; try dsimp only))) | fail "no step"))
      refine ite_cases (fun hc => ?_) (fun hc => ?_)
      · have hc' : p.headD 0 ≠ st := by simpa [bne, ofL_beq] using hc
        (repeat' (first | (k_unfold; (try dsimp only)) | (with_reducible refine ite_pos (rfl : true = true) ?_) | (with_reducible refine ite_neg Bool.false_ne_true ?_) | (k_closed; k_dflt (first | refine ite_pos (by decide) ?_ | refine ite_neg (by decide) ?_)) | ((fail_if_success (with_reducible show KswEnd _ _ _ _ _ _ _ _ _ _ _ _)); (fail_if_success (with_reducible show InvEndN _ _ _ _ _ _ _)); (fail_if_success (with_reducible show wpAny _ _ (exec (Stmt.While _ _ _ _) _) _ _ _)); (fail_if_success (with_reducible show ite _ _ _)); (fail_if_success (with_reducible show wpAny _ _ (call (Value.ref _) _) _ _ _)); (fail_if_success (with_reducible show wpAny _ _ (exec (Stmt.For _ _ _ _ _) _) _ _ _)); (fail_if_success (with_reducible show wpAny _ _ (pyIter _) _ _ _)); (fail_if_success (with_reducible show wpAny _ _ (call (Value.builtin "str.split") _) _ _ _)); (fail_if_success (with_reducible show wpAny _ _ (subscriptTail _ _ (Value.ref _) (Value.int _ _)) _ _ _)); (fail_if_success (with_reducible show wpAny _ _ (setItem _ _ _) _ _ _)); (fail_if_success (with_reducible show wpAny _ _ (subscriptTail _ _ (Value.str _ _) (Value.int _ _)) _ _ _)); (first | (k_end; wrow_close) | walk1 | (dsimp only; walk1) | ((simp only [List.cons_append, List.nil_append]); walk1) | (leave1; walk_say "STEP leave1"; try dsimp only))) | fail "no step"))
        refine last_get (by k_asm) (.head _) ?_
        (try dsimp only); (try k_fold)
        (repeat' (first | (k_unfold; (try dsimp only)) | (with_reducible refine ite_pos (rfl : true = true) ?_) | (with_reducible refine ite_neg Bool.false_ne_true ?_) | (k_closed; k_dflt (first | refine ite_pos (by decide) ?_ | refine ite_neg (by decide) ?_)) | ((fail_if_success (with_reducible show KswEnd _ _ _ _ _ _ _ _ _ _ _ _)); (fail_if_success (with_reducible show InvEndN _ _ _ _ _ _ _)); (fail_if_success (with_reducible show wpAny _ _ (exec (Stmt.While _ _ _ _) _) _ _ _)); (fail_if_success (with_reducible show ite _ _ _)); (fail_if_success (with_reducible show wpAny _ _ (call (Value.ref _) _) _ _ _)); (fail_if_success (with_reducible show wpAny _ _ (exec (Stmt.For _ _ _ _ _) _) _ _ _)); (fail_if_success (with_reducible show wpAny _ _ (pyIter _) _ _ _)); (fail_if_success (with_reducible show wpAny _ _ (call (Value.builtin "str.split") _) _ _ _)); (fail_if_success (with_reducible show wpAny _ _ (subscriptTail _ _ (Value.ref _) (Value.int _ _)) _ _ _)); (fail_if_success (with_reducible show wpAny _ _ (setItem _ _ _) _ _ _)); (fail_if_success (with_reducible show wpAny _ _ (subscriptTail _ _ (Value.str _ _) (Value.int _ _)) _ _ _)); (first | (k_end; wrow_close) | walk1 | (dsimp only; walk1) | ((simp only [List.cons_append, List.nil_append]); walk1) | (leave1; walk_say "STEP leave1"; try dsimp only))) | fail "no step"))
        refine last_set (by k_asm) (by k_asm) hne ?_
        intro h6 F6 N6
        (try dsimp only); (try k_fold)
        (repeat' (first | (k_unfold; (try dsimp only)) | (with_reducible refine ite_pos (rfl : true = true) ?_) | (with_reducible refine ite_neg Bool.false_ne_true ?_) | (k_closed; k_dflt (first | refine ite_pos (by decide) ?_ | refine ite_neg (by decide) ?_)) | ((fail_if_success (with_reducible show KswEnd _ _ _ _ _ _ _ _ _ _ _ _)); (fail_if_success (with_reducible show InvEndN _ _ _ _ _ _ _)); (fail_if_success (with_reducible show wpAny _ _ (exec (Stmt.While _ _ _ _) _) _ _ _)); (fail_if_success (with_reducible show ite _ _ _)); (fail_if_success (with_reducible show wpAny _ _ (call (Value.ref _) _) _ _ _)); (fail_if_success (with_reducible show wpAny _ _ (exec (Stmt.For _ _ _ _ _) _) _ _ _)); (fail_if_success (with_reducible show wpAny _ _ (pyIter _) _ _ _)); (fail_if_success (with_reducible show wpAny _ _ (call (Value.builtin "str.split") _) _ _ _)); (fail_if_success (with_reducible show wpAny _ _ (subscriptTail _ _ (Value.ref _) (Value.int _ _)) _ _ _)); (fail_if_success (with_reducible show wpAny _ _ (setItem _ _ _) _ _ _)); (fail_if_success (with_reducible show wpAny _ _ (subscriptTail _ _ (Value.str _ _) (Value.int _ _)) _ _ _)); (first | (k_end; wrow_close) | walk1 | (dsimp only; walk1) | ((simp only [List.cons_append, List.nil_append]); walk1) | (leave1; walk_say "STEP leave1"; try dsimp only))) | fail "no step"))
        rw [ofL_app] at N6
        refine kst_end (vs, nn, N0, y ++ p, _) (by assumption) N6 led_sub own_sub rfl hS (List.forall_mem_nil _) ?kr ⟨fold_snoc hP (step_other (by omega) hp2 hc'), ?b1, ?b2⟩
        case kr => (intro z h1 _ h3; simp only [List.contains_cons, List.contains_nil, Bool.or_false, Bool.or_eq_false_iff, beq_eq_false_iff_ne, ne_eq] at h3; simp [h1, h3.1, h3.2])
        case b1 => dsimp only; rw [List.length_append]; omega
        case b2 => dsimp only; simp only [List.length_append, List.length_cons, List.length_nil] at *; omega
      · have hc' : p.headD 0 = st := by simpa [bne, ofL_beq] using hc
        (repeat' (first | (k_unfold; (try dsimp only)) | (with_reducible refine ite_pos (rfl : true = true) ?_) | (with_reducible refine ite_neg Bool.false_ne_true ?_) | (k_closed; k_dflt (first | refine ite_pos (by decide) ?_ | refine ite_neg (by decide) ?_)) | ((fail_if_success (with_reducible show KswEnd _ _ _ _ _ _ _ _ _ _ _ _)); (fail_if_success (with_reducible show InvEndN _ _ _ _ _ _ _)); (fail_if_success (with_reducible show wpAny _ _ (exec (Stmt.While _ _ _ _) _) _ _ _)); (fail_if_success (with_reducible show ite _ _ _)); (fail_if_success (with_reducible show wpAny _ _ (call (Value.ref _) _) _ _ _)); (fail_if_success (with_reducible show wpAny _ _ (exec (Stmt.For _ _ _ _ _) _) _ _ _)); (fail_if_success (with_reducible show wpAny _ _ (pyIter _) _ _ _)); (fail_if_success (with_reducible show wpAny _ _ (call (Value.builtin "str.split") _) _ _ _)); (fail_if_success (with_reducible show wpAny _ _ (subscriptTail _ _ (Value.ref _) (Value.int _ _)) _ _ _)); (fail_if_success (with_reducible show wpAny _ _ (setItem _ _ _) _ _ _)); (fail_if_success (with_reducible show wpAny _ _ (subscriptTail _ _ (Value.str _ _) (Value.int _ _)) _ _ _)); (first | (k_end; wrow_close) | walk1 | (dsimp only; walk1) | ((simp only [List.cons_append, List.nil_append]); walk1) | (leave1; walk_say "STEP leave1"; try dsimp only))) | fail "no step"))
        refine ite_cases (fun hc2 => ?_) (fun hc2 => ?_)
        · have hc3 : p.take 2 = [st, st] := by rw [hq4, ofL_app, ofL_beq] at hc2; simpa using hc2
          (repeat' (first | (k_unfold; (try dsimp only)) | (with_reducible refine ite_pos (rfl : true = true) ?_) | (with_reducible refine ite_neg Bool.false_ne_true ?_) | (k_closed; k_dflt (first | refine ite_pos (by decide) ?_ | refine ite_neg (by decide) ?_)) | ((fail_if_success (with_reducible show KswEnd _ _ _ _ _ _ _ _ _ _ _ _)); (fail_if_success (with_reducible show InvEndN _ _ _ _ _ _ _)); (fail_if_success (with_reducible show wpAny _ _ (exec (Stmt.While _ _ _ _) _) _ _ _)); (fail_if_success (with_reducible show ite _ _ _)); (fail_if_success (with_reducible show wpAny _ _ (call (Value.ref _) _) _ _ _)); (fail_if_success (with_reducible show wpAny _ _ (exec (Stmt.For _ _ _ _ _) _) _ _ _)); (fail_if_success (with_reducible show wpAny _ _ (pyIter _) _ _ _)); (fail_if_success (with_reducible show wpAny _ _ (call (Value.builtin "str.split") _) _ _ _)); (fail_if_success (with_reducible show wpAny _ _ (subscriptTail _ _ (Value.ref _) (Value.int _ _)) _ _ _)); (fail_if_success (with_reducible show wpAny _ _ (setItem _ _ _) _ _ _)); (fail_if_success (with_reducible show wpAny _ _ (subscriptTail _ _ (Value.str _ _) (Value.int _ _)) _ _ _)); (first | (k_end; wrow_close) | walk1 | (dsimp only; walk1) | ((simp only [List.cons_append, List.nil_append]); walk1) | (leave1; walk_say "STEP leave1"; try dsimp only))) | fail "no step"))
          refine last_get (by k_asm) (.head _) ?_
          (try dsimp only); (try k_fold)
          (repeat' (first | (k_unfold; (try dsimp only)) | (with_reducible refine ite_pos (rfl : true = true) ?_) | (with_reducible refine ite_neg Bool.false_ne_true ?_) | (k_closed; k_dflt (first | refine ite_pos (by decide) ?_ | refine ite_neg (by decide) ?_)) | ((fail_if_success (with_reducible show KswEnd _ _ _ _ _ _ _ _ _ _ _ _)); (fail_if_success (with_reducible show InvEndN _ _ _ _ _ _ _)); (fail_if_success (with_reducible show wpAny _ _ (exec (Stmt.While _ _ _ _) _) _ _ _)); (fail_if_success (with_reducible show ite _ _ _)); (fail_if_success (with_reducible show wpAny _ _ (call (Value.ref _) _) _ _ _)); (fail_if_success (with_reducible show wpAny _ _ (exec (Stmt.For _ _ _ _ _) _) _ _ _)); (fail_if_success (with_reducible show wpAny _ _ (pyIter _) _ _ _)); (fail_if_success (with_reducible show wpAny _ _ (call (Value.builtin "str.split") _) _ _ _)); (fail_if_success (with_reducible show wpAny _ _ (subscriptTail _ _ (Value.ref _) (Value.int _ _)) _ _ _)); (fail_if_success (with_reducible show wpAny _ _ (setItem _ _ _) _ _ _)); (fail_if_success (with_reducible show wpAny _ _ (subscriptTail _ _ (Value.str _ _) (Value.int _ _)) _ _ _)); (first | (k_end; wrow_close) | walk1 | (dsimp only; walk1) | ((simp only [List.cons_append, List.nil_append]); walk1) | (leave1; walk_say "STEP leave1"; try dsimp only))) | fail "no step"))
          refine replace_b (z := ofL [57344]) (by show @Ne Nat _ _; (try dsimp only); omega) (by show @Ne Nat _ _; (try dsimp only); omega) (by show @Ne Nat _ _; (try dsimp only); omega) (by decide +kernel) (by have := PyProof.Txt.length_slice_le (ofL p) (some 2) none; omega) (by rw [ofL_length]; decide) ?_
          intro t5 k5 hk5
          rw [hq5]
          have hs5 : (ofL (repM (p.drop 2))).length ≤ 3 := by rw [ofL_length]; unfold repM; simp; omega
          (try dsimp only); (try k_fold)
          (repeat' (first | (k_unfold; (try dsimp only)) | (with_reducible refine ite_pos (rfl : true = true) ?_) | (with_reducible refine ite_neg Bool.false_ne_true ?_) | (k_closed; k_dflt (first | refine ite_pos (by decide) ?_ | refine ite_neg (by decide) ?_)) | ((fail_if_success (with_reducible show KswEnd _ _ _ _ _ _ _ _ _ _ _ _)); (fail_if_success (with_reducible show InvEndN _ _ _ _ _ _ _)); (fail_if_success (with_reducible show wpAny _ _ (exec (Stmt.While _ _ _ _) _) _ _ _)); (fail_if_success (with_reducible show ite _ _ _)); (fail_if_success (with_reducible show wpAny _ _ (call (Value.ref _) _) _ _ _)); (fail_if_success (with_reducible show wpAny _ _ (exec (Stmt.For _ _ _ _ _) _) _ _ _)); (fail_if_success (with_reducible show wpAny _ _ (pyIter _) _ _ _)); (fail_if_success (with_reducible show wpAny _ _ (call (Value.builtin "str.split") _) _ _ _)); (fail_if_success (with_reducible show wpAny _ _ (subscriptTail _ _ (Value.ref _) (Value.int _ _)) _ _ _)); (fail_if_success (with_reducible show wpAny _ _ (setItem _ _ _) _ _ _)); (fail_if_success (with_reducible show wpAny _ _ (subscriptTail _ _ (Value.str _ _) (Value.int _ _)) _ _ _)); (first | (k_end; wrow_close) | walk1 | (dsimp only; walk1) | ((simp only [List.cons_append, List.nil_append]); walk1) | (leave1; walk_say "STEP leave1"; try dsimp only))) | fail "no step"))
          refine last_set (by k_asm) (by k_asm) hne ?_
          intro h6 F6 N6
          (try dsimp only); (try k_fold)
          (repeat' (first | (k_unfold; (try dsimp only)) | (with_reducible refine ite_pos (rfl : true = true) ?_) | (with_reducible refine ite_neg Bool.false_ne_true ?_) | (k_closed; k_dflt (first | refine ite_pos (by decide) ?_ | refine ite_neg (by decide) ?_)) | ((fail_if_success (with_reducible show KswEnd _ _ _ _ _ _ _ _ _ _ _ _)); (fail_if_success (with_reducible show InvEndN _ _ _ _ _ _ _)); (fail_if_success (with_reducible show wpAny _ _ (exec (Stmt.While _ _ _ _) _) _ _ _)); (fail_if_success (with_reducible show ite _ _ _)); (fail_if_success (with_reducible show wpAny _ _ (call (Value.ref _) _) _ _ _)); (fail_if_success (with_reducible show wpAny _ _ (exec (Stmt.For _ _ _ _ _) _) _ _ _)); (fail_if_success (with_reducible show wpAny _ _ (pyIter _) _ _ _)); (fail_if_success (with_reducible show wpAny _ _ (call (Value.builtin "str.split") _) _ _ _)); (fail_if_success (with_reducible show wpAny _ _ (subscriptTail _ _ (Value.ref _) (Value.int _ _)) _ _ _)); (fail_if_success (with_reducible show wpAny _ _ (setItem _ _ _) _ _ _)); (fail_if_success (with_reducible show wpAny _ _ (subscriptTail _ _ (Value.str _ _) (Value.int _ _)) _ _ _)); (first | (k_end; wrow_close) | walk1 | (dsimp only; walk1) | ((simp only [List.cons_append, List.nil_append]); walk1) | (leave1; walk_say "STEP leave1"; try dsimp only))) | fail "no step"))
          rw [litQ, ofL_app, ofL_app] at N6
          refine kst_end (vs, nn, N0, y ++ [34] ++ repM (p.drop 2), _) (by assumption) N6 led_sub own_sub rfl hS (List.forall_mem_nil _) ?kr ⟨fold_snoc hP (step_two (by omega) hp2 hc' hc3), ?b1, ?b2⟩
          case kr => (intro z h1 _ h3; simp only [List.contains_cons, List.contains_nil, Bool.or_false, Bool.or_eq_false_iff, beq_eq_false_iff_ne, ne_eq] at h3; simp [h1, h3.1, h3.2])
          case b1 => dsimp only; rw [List.length_append]; omega
          case b2 => dsimp only; rw [ofL_length] at hs5; simp only [List.length_append, List.length_cons, List.length_nil] at *; omega
        · have hc3 : ¬ p.take 2 = [st, st] := by rw [hq4, ofL_app, ofL_beq] at hc2; simpa using hc2
          (repeat' (first | (k_unfold; (try dsimp only)) | (with_reducible refine ite_pos (rfl : true = true) ?_) | (with_reducible refine ite_neg Bool.false_ne_true ?_) | (k_closed; k_dflt (first | refine ite_pos (by decide) ?_ | refine ite_neg (by decide) ?_)) | ((fail_if_success (with_reducible show KswEnd _ _ _ _ _ _ _ _ _ _ _ _)); (fail_if_success (with_reducible show InvEndN _ _ _ _ _ _ _)); (fail_if_success (with_reducible show wpAny _ _ (exec (Stmt.While _ _ _ _) _) _ _ _)); (fail_if_success (with_reducible show ite _ _ _)); (fail_if_success (with_reducible show wpAny _ _ (call (Value.ref _) _) _ _ _)); (fail_if_success (with_reducible show wpAny _ _ (exec (Stmt.For _ _ _ _ _) _) _ _ _)); (fail_if_success (with_reducible show wpAny _ _ (pyIter _) _ _ _)); (fail_if_success (with_reducible show wpAny _ _ (call (Value.builtin "str.split") _) _ _ _)); (fail_if_success (with_reducible show wpAny _ _ (subscriptTail _ _ (Value.ref _) (Value.int _ _)) _ _ _)); (fail_if_success (with_reducible show wpAny _ _ (setItem _ _ _) _ _ _)); (fail_if_success (with_reducible show wpAny _ _ (subscriptTail _ _ (Value.str _ _) (Value.int _ _)) _ _ _)); (first | (k_end; wrow_close) | walk1 | (dsimp only; walk1) | ((simp only [List.cons_append, List.nil_append]); walk1) | (leave1; walk_say "STEP leave1"; try dsimp only))) | fail "no step"))
          refine replace_b (z := ofL [57344]) (by show @Ne Nat _ _; (try dsimp only); omega) (by show @Ne Nat _ _; (try dsimp only); omega) (by show @Ne Nat _ _; (try dsimp only); omega) (by decide +kernel) (by have := PyProof.Txt.length_slice_le (ofL p) (some 1) none; omega) (by rw [ofL_length]; decide) ?_
          intro t5 k5 hk5
          rw [hq6]
          have hs5 : (ofL (repM (p.drop 1))).length ≤ 3 := by rw [ofL_length]; unfold repM; simp; omega
          (try dsimp only); (try k_fold)
          (repeat' (first | (k_unfold; (try dsimp only)) | (with_reducible refine ite_pos (rfl : true = true) ?_) | (with_reducible refine ite_neg Bool.false_ne_true ?_) | (k_closed; k_dflt (first | refine ite_pos (by decide) ?_ | refine ite_neg (by decide) ?_)) | ((fail_if_success (with_reducible show KswEnd _ _ _ _ _ _ _ _ _ _ _ _)); (fail_if_success (with_reducible show InvEndN _ _ _ _ _ _ _)); (fail_if_success (with_reducible show wpAny _ _ (exec (Stmt.While _ _ _ _) _) _ _ _)); (fail_if_success (with_reducible show ite _ _ _)); (fail_if_success (with_reducible show wpAny _ _ (call (Value.ref _) _) _ _ _)); (fail_if_success (with_reducible show wpAny _ _ (exec (Stmt.For _ _ _ _ _) _) _ _ _)); (fail_if_success (with_reducible show wpAny _ _ (pyIter _) _ _ _)); (fail_if_success (with_reducible show wpAny _ _ (call (Value.builtin "str.split") _) _ _ _)); (fail_if_success (with_reducible show wpAny _ _ (subscriptTail _ _ (Value.ref _) (Value.int _ _)) _ _ _)); (fail_if_success (with_reducible show wpAny _ _ (setItem _ _ _) _ _ _)); (fail_if_success (with_reducible show wpAny _ _ (subscriptTail _ _ (Value.str _ _) (Value.int _ _)) _ _ _)); (first | (k_end; wrow_close) | walk1 | (dsimp only; walk1) | ((simp only [List.cons_append, List.nil_append]); walk1) | (leave1; walk_say "STEP leave1"; try dsimp only))) | fail "no step"))
          (rename News _ _ _ _ => nE); simp only [List.push_toArray] at nE
          refine kst_end (vs ++ [.str (ofL y) ty], nn + 1, N0 ++ [y], repM (p.drop 1), _) (by assumption) nE led_sub own_sub rfl (by rw [List.map_append]; exact hS.append' (.cons _ _ .nil)) (List.forall_mem_nil _) ?kr ⟨fold_snoc hP (step_one (by omega) hp2 hc' hc3), ?b1, ?b2⟩
          case kr => (intro z h1 _ h3; simp only [List.contains_cons, List.contains_nil, Bool.or_false, Bool.or_eq_false_iff, beq_eq_false_iff_ne, ne_eq] at h3; simp [h1, h3.1, h3.2])
          case b1 => dsimp only; rw [List.length_append, List.length_append, List.length_singleton, List.length_singleton]; omega
          case b2 => dsimp only; rw [ofL_length] at hs5; rw [List.length_append, List.length_singleton]; omega
    · (repeat' (first | (k_unfold; (try dsimp only)) | (with_reducible refine ite_pos (rfl : true = true) ?_) | (with_reducible refine ite_neg Bool.false_ne_true ?_) | (k_closed; k_dflt (first | refine ite_pos (by decide) ?_ | refine ite_neg (by decide) ?_)) | ((fail_if_success (with_reducible show KswEnd _ _ _ _ _ _ _ _ _ _ _ _)); (fail_if_success (with_reducible show InvEndN _ _ _ _ _ _ _)); (fail_if_success (with_reducible show wpAny _ _ (exec (Stmt.While _ _ _ _) _) _ _ _)); (fail_if_success (with_reducible show ite _ _ _)); (fail_if_success (with_reducible show wpAny _ _ (call (Value.ref _) _) _ _ _)); (fail_if_success (with_reducible show wpAny _ _ (exec (Stmt.For _ _ _ _ _) _) _ _ _)); (fail_if_success (with_reducible show wpAny _ _ (pyIter _) _ _ _)); (fail_if_success (with_reducible show wpAny _ _ (call (Value.builtin "str.split") _) _ _ _)); (fail_if_success (with_reducible show wpAny _ _ (subscriptTail _ _ (Value.ref _) (Value.int _ _)) _ _ _)); (fail_if_success (with_reducible show wpAny _ _ (setItem _ _ _) _ _ _)); (first | (k_end; wrow_close) | walk1 | (dsimp only; walk1) | ((simp only [List.cons_append, List.nil_append]); walk1) | (leave1; walk_say "STEP leave1"; try dsimp only))) | fail "no step"))
      refine wpAny_with_toks (n := _) (Nat.le_refl _) ?_; k_dflt (refine' terminal_spec _ _ ?cB ?cF ?cX ?cN ?cT ?cK ?cD ?cU ?_; (case cB => k_asm); (case cF => k_asm); (case cX => k_asm); (case cN => k_asm); (case cT => k_asm); (case cK => first | exact rfl | assumption); (case cD => exact Nat.lt_of_le_of_lt (by show dp + 1 + 2 ≤ dp + 4; omega) hdp); (case cU => exact Nat.lt_of_le_of_lt (by show un + 3 + 16 ≤ un + 32; omega) hun)); intro h9 tk9 F9 N9 hk9; dsimp only at hk9; rw [decide_eq_false (by omega : ¬ (x < 256))]; (try dsimp only); (try k_fold)
      (repeat' (first | (k_unfold; (try dsimp only)) | (with_reducible refine ite_pos (rfl : true = true) ?_) | (with_reducible refine ite_neg Bool.false_ne_true ?_) | (k_closed; k_dflt (first | refine ite_pos (by decide) ?_ | refine ite_neg (by decide) ?_)) | ((fail_if_success (with_reducible show KswEnd _ _ _ _ _ _ _ _ _ _ _ _)); (fail_if_success (with_reducible show InvEndN _ _ _ _ _ _ _)); (fail_if_success (with_reducible show wpAny _ _ (exec (Stmt.While _ _ _ _) _) _ _ _)); (fail_if_success (with_reducible show ite _ _ _)); (fail_if_success (with_reducible show wpAny _ _ (call (Value.ref _) _) _ _ _)); (fail_if_success (with_reducible show wpAny _ _ (exec (Stmt.For _ _ _ _ _) _) _ _ _)); (fail_if_success (with_reducible show wpAny _ _ (pyIter _) _ _ _)); (fail_if_success (with_reducible show wpAny _ _ (call (Value.builtin "str.split") _) _ _ _)); (fail_if_success (with_reducible show wpAny _ _ (subscriptTail _ _ (Value.ref _) (Value.int _ _)) _ _ _)); (fail_if_success (with_reducible show wpAny _ _ (setItem _ _ _) _ _ _)); (fail_if_success (with_reducible show wpAny _ _ (subscriptTail _ _ (Value.str _ _) (Value.int _ _)) _ _ _)); (first | (k_end; wrow_close) | walk1 | (dsimp only; walk1) | ((simp only [List.cons_append, List.nil_append]); walk1) | (leave1; walk_say "STEP leave1"; try dsimp only))) | fail "no step"))
      refine wpAny_with_toks (n := _) (Nat.le_refl _) ?_; k_dflt (refine' terminal_spec _ _ ?cB ?cF ?cX ?cN ?cT ?cK ?cD ?cU ?_; (case cB => k_asm); (case cF => k_asm); (case cX => k_asm); (case cN => k_asm); (case cT => k_asm); (case cK => first | exact rfl | assumption); (case cD => exact Nat.lt_of_le_of_lt (by show dp + 1 + 2 ≤ dp + 4; omega) hdp); (case cU => exact Nat.lt_of_le_of_lt (by show un + 3 + 16 ≤ un + 32; omega) hun)); intro h9 tk9 F9 N9 hk9; dsimp only at hk9; rw [decide_eq_false (by omega : ¬ (x < 256))]; (try dsimp only); (try k_fold)
      (repeat' (first | (k_unfold; (try dsimp only)) | (with_reducible refine ite_pos (rfl : true = true) ?_) | (with_reducible refine ite_neg Bool.false_ne_true ?_) | (k_closed; k_dflt (first | refine ite_pos (by decide) ?_ | refine ite_neg (by decide) ?_)) | ((fail_if_success (with_reducible show KswEnd _ _ _ _ _ _ _ _ _ _ _ _)); (fail_if_success (with_reducible show InvEndN _ _ _ _ _ _ _)); (fail_if_success (with_reducible show wpAny _ _ (exec (Stmt.While _ _ _ _) _) _ _ _)); (fail_if_success (with_reducible show ite _ _ _)); (fail_if_success (with_reducible show wpAny _ _ (call (Value.ref _) _) _ _ _)); (fail_if_success (with_reducible show wpAny _ _ (exec (Stmt.For _ _ _ _ _) _) _ _ _)); (fail_if_success (with_reducible show wpAny _ _ (pyIter _) _ _ _)); (fail_if_success (with_reducible show wpAny _ _ (call (Value.builtin "str.split") _) _ _ _)); (fail_if_success (with_reducible show wpAny _ _ (subscriptTail _ _ (Value.ref _) (Value.int _ _)) _ _ _)); (fail_if_success (with_reducible show wpAny _ _ (setItem _ _ _) _ _ _)); (fail_if_success (with_reducible show wpAny _ _ (subscriptTail _ _ (Value.str _ _) (Value.int _ _)) _ _ _)); (first | (k_end; wrow_close) | walk1 | (dsimp only; walk1) | ((simp only [List.cons_append, List.nil_append]); walk1) | (leave1; walk_say "STEP leave1"; try dsimp only))) | fail "no step"))
      refine wpAny_with_toks (n := _) (Nat.le_refl _) ?_; k_dflt (refine' nonterminal_spec _ _ ?cB ?cF ?cX ?cN ?cT ?cK ?cD ?cU ?_; (case cB => k_asm); (case cF => k_asm); (case cX => k_asm); (case cN => k_asm); (case cT => k_asm); (case cK => first | exact rfl | assumption); (case cD => exact Nat.lt_of_le_of_lt (by show dp + 1 + 2 ≤ dp + 4; omega) hdp); (case cU => exact Nat.lt_of_le_of_lt (by show un + 3 + 16 ≤ un + 32; omega) hun)); intro h9 tk9 F9 N9 hk9; dsimp only at hk9; rw [decide_eq_true (by omega : (256 ≤ x))]; (try dsimp only); (try k_fold)
      (repeat' (first | (k_unfold; (try dsimp only)) | (with_reducible refine ite_pos (rfl : true = true) ?_) | (with_reducible refine ite_neg Bool.false_ne_true ?_) | (k_closed; k_dflt (first | refine ite_pos (by decide) ?_ | refine ite_neg (by decide) ?_)) | ((fail_if_success (with_reducible show KswEnd _ _ _ _ _ _ _ _ _ _ _ _)); (fail_if_success (with_reducible show InvEndN _ _ _ _ _ _ _)); (fail_if_success (with_reducible show wpAny _ _ (exec (Stmt.While _ _ _ _) _) _ _ _)); (fail_if_success (with_reducible show ite _ _ _)); (fail_if_success (with_reducible show wpAny _ _ (call (Value.ref _) _) _ _ _)); (fail_if_success (with_reducible show wpAny _ _ (exec (Stmt.For _ _ _ _ _) _) _ _ _)); (fail_if_success (with_reducible show wpAny _ _ (pyIter _) _ _ _)); (fail_if_success (with_reducible show wpAny _ _ (call (Value.builtin "str.split") _) _ _ _)); (fail_if_success (with_reducible show wpAny _ _ (subscriptTail _ _ (Value.ref _) (Value.int _ _)) _ _ _)); (fail_if_success (with_reducible show wpAny _ _ (setItem _ _ _) _ _ _)); (fail_if_success (with_reducible show wpAny _ _ (subscriptTail _ _ (Value.str _ _) (Value.int _ _)) _ _ _)); (first | (k_end; wrow_close) | walk1 | (dsimp only; walk1) | ((simp only [List.cons_append, List.nil_append]); walk1) | (leave1; walk_say "STEP leave1"; try dsimp only))) | fail "no step"))
      refine last_get (by k_asm) (.head _) ?_
      (try dsimp only); (try k_fold)
      (repeat' (first | (k_unfold; (try dsimp only)) | (with_reducible refine ite_pos (rfl : true = true) ?_) | (with_reducible refine ite_neg Bool.false_ne_true ?_) | (k_closed; k_dflt (first | refine ite_pos (by decide) ?_ | refine ite_neg (by decide) ?_)) | ((fail_if_success (with_reducible show KswEnd _ _ _ _ _ _ _ _ _ _ _ _)); (fail_if_success (with_reducible show InvEndN _ _ _ _ _ _ _)); (fail_if_success (with_reducible show wpAny _ _ (exec (Stmt.While _ _ _ _) _) _ _ _)); (fail_if_success (with_reducible show ite _ _ _)); (fail_if_success (with_reducible show wpAny _ _ (call (Value.ref _) _) _ _ _)); (fail_if_success (with_reducible show wpAny _ _ (exec (Stmt.For _ _ _ _ _) _) _ _ _)); (fail_if_success (with_reducible show wpAny _ _ (pyIter _) _ _ _)); (fail_if_success (with_reducible show wpAny _ _ (call (Value.builtin "str.split") _) _ _ _)); (fail_if_success (with_reducible show wpAny _ _ (subscriptTail _ _ (Value.ref _) (Value.int _ _)) _ _ _)); (fail_if_success (with_reducible show wpAny _ _ (setItem _ _ _) _ _ _)); (fail_if_success (with_reducible show wpAny _ _ (subscriptTail _ _ (Value.str _ _) (Value.int _ _)) _ _ _)); (first | (k_end; wrow_close) | walk1 | (dsimp only; walk1) | ((simp only [List.cons_append, List.nil_append]); walk1) | (leave1; walk_say "STEP leave1"; try dsimp only))) | fail "no step"))
      refine ite_cases (fun hc => ?_) (fun hc => ?_)
      · rw [litQ, one_beq] at hc
        have hc' : (x - 256).toNat = 34 := hc
        (repeat' (first | (k_unfold; (try dsimp only)) | (with_reducible refine ite_pos (rfl : true = true) ?_) | (with_reducible refine ite_neg Bool.false_ne_true ?_) | (k_closed; k_dflt (first | refine ite_pos (by decide) ?_ | refine ite_neg (by decide) ?_)) | ((fail_if_success (with_reducible show KswEnd _ _ _ _ _ _ _ _ _ _ _ _)); (fail_if_success (with_reducible show InvEndN _ _ _ _ _ _ _)); (fail_if_success (with_reducible show wpAny _ _ (exec (Stmt.While _ _ _ _) _) _ _ _)); (fail_if_success (with_reducible show ite _ _ _)); (fail_if_success (with_reducible show wpAny _ _ (call (Value.ref _) _) _ _ _)); (fail_if_success (with_reducible show wpAny _ _ (exec (Stmt.For _ _ _ _ _) _) _ _ _)); (fail_if_success (with_reducible show wpAny _ _ (pyIter _) _ _ _)); (fail_if_success (with_reducible show wpAny _ _ (call (Value.builtin "str.split") _) _ _ _)); (fail_if_success (with_reducible show wpAny _ _ (subscriptTail _ _ (Value.ref _) (Value.int _ _)) _ _ _)); (fail_if_success (with_reducible show wpAny _ _ (setItem _ _ _) _ _ _)); (fail_if_success (with_reducible show wpAny _ _ (subscriptTail _ _ (Value.str _ _) (Value.int _ _)) _ _ _)); (first | (k_end; wrow_close) | walk1 | (dsimp only; walk1) | ((simp only [List.cons_append, List.nil_append]); walk1) | (leave1; walk_say "STEP leave1"; try dsimp only))) | fail "no step"))
        refine last_set (by k_asm) (by k_asm) hne ?_
        intro h6 F6 N6
        (try dsimp only); (try k_fold)
        (repeat' (first | (k_unfold; (try dsimp only)) | (with_reducible refine ite_pos (rfl : true = true) ?_) | (with_reducible refine ite_neg Bool.false_ne_true ?_) | (k_closed; k_dflt (first | refine ite_pos (by decide) ?_ | refine ite_neg (by decide) ?_)) | ((fail_if_success (with_reducible show KswEnd _ _ _ _ _ _ _ _ _ _ _ _)); (fail_if_success (with_reducible show InvEndN _ _ _ _ _ _ _)); (fail_if_success (with_reducible show wpAny _ _ (exec (Stmt.While _ _ _ _) _) _ _ _)); (fail_if_success (with_reducible show ite _ _ _)); (fail_if_success (with_reducible show wpAny _ _ (call (Value.ref _) _) _ _ _)); (fail_if_success (with_reducible show wpAny _ _ (exec (Stmt.For _ _ _ _ _) _) _ _ _)); (fail_if_success (with_reducible show wpAny _ _ (pyIter _) _ _ _)); (fail_if_success (with_reducible show wpAny _ _ (call (Value.builtin "str.split") _) _ _ _)); (fail_if_success (with_reducible show wpAny _ _ (subscriptTail _ _ (Value.ref _) (Value.int _ _)) _ _ _)); (fail_if_success (with_reducible show wpAny _ _ (setItem _ _ _) _ _ _)); (fail_if_success (with_reducible show wpAny _ _ (subscriptTail _ _ (Value.str _ _) (Value.int _ _)) _ _ _)); (first | (k_end; wrow_close) | walk1 | (dsimp only; walk1) | ((simp only [List.cons_append, List.nil_append]); walk1) | (leave1; walk_say "STEP leave1"; try dsimp only))) | fail "no step"))
        have e6 : [if (x - 256).toNat = 34 then st else (x - 256).toNat] = [st] := by rw [if_pos hc']
        rw [ofL_app] at N6
        refine kst_end (vs, nn, N0, y ++ [st], _) (by assumption) N6 led_sub own_sub rfl hS (List.forall_mem_nil _) ?kr ⟨fold_snoc hP (by rw [step_sign ha, e6]), ?b1, ?b2⟩
        case kr => (intro z h1 _ h3; simp only [List.contains_cons, List.contains_nil, Bool.or_false, Bool.or_eq_false_iff, beq_eq_false_iff_ne, ne_eq] at h3; simp [h1, h3.1, h3.2])
        case b1 => dsimp only; rw [List.length_append]; omega
        case b2 => dsimp only; simp only [List.length_append, List.length_cons, List.length_nil] at *; omega
      · rw [litQ, one_beq] at hc
        have hc' : ¬ (x - 256).toNat = 34 := hc
        have hs4 : (⟨#[(x - 256).toNat]⟩ : Str).length = 1 := rfl
        (repeat' (first | (k_unfold; (try dsimp only)) | (with_reducible refine ite_pos (rfl : true = true) ?_) | (with_reducible refine ite_neg Bool.false_ne_true ?_) | (k_closed; k_dflt (first | refine ite_pos (by decide) ?_ | refine ite_neg (by decide) ?_)) | ((fail_if_success (with_reducible show KswEnd _ _ _ _ _ _ _ _ _ _ _ _)); (fail_if_success (with_reducible show InvEndN _ _ _ _ _ _ _)); (fail_if_success (with_reducible show wpAny _ _ (exec (Stmt.While _ _ _ _) _) _ _ _)); (fail_if_success (with_reducible show ite _ _ _)); (fail_if_success (with_reducible show wpAny _ _ (call (Value.ref _) _) _ _ _)); (fail_if_success (with_reducible show wpAny _ _ (exec (Stmt.For _ _ _ _ _) _) _ _ _)); (fail_if_success (with_reducible show wpAny _ _ (pyIter _) _ _ _)); (fail_if_success (with_reducible show wpAny _ _ (call (Value.builtin "str.split") _) _ _ _)); (fail_if_success (with_reducible show wpAny _ _ (subscriptTail _ _ (Value.ref _) (Value.int _ _)) _ _ _)); (fail_if_success (with_reducible show wpAny _ _ (setItem _ _ _) _ _ _)); (fail_if_success (with_reducible show wpAny _ _ (subscriptTail _ _ (Value.str _ _) (Value.int _ _)) _ _ _)); (first | (k_end; wrow_close) | walk1 | (dsimp only; walk1) | ((simp only [List.cons_append, List.nil_append]); walk1) | (leave1; walk_say "STEP leave1"; try dsimp only))) | fail "no step"))
        refine last_set (by k_asm) (by k_asm) hne ?_
        intro h6 F6 N6
        (try dsimp only); (try k_fold)
        (repeat' (first | (k_unfold; (try dsimp only)) | (with_reducible refine ite_pos (rfl : true = true) ?_) | (with_reducible refine ite_neg Bool.false_ne_true ?_) | (k_closed; k_dflt (first | refine ite_pos (by decide) ?_ | refine ite_neg (by decide) ?_)) | ((fail_if_success (with_reducible show KswEnd _ _ _ _ _ _ _ _ _ _ _ _)); (fail_if_success (with_reducible show InvEndN _ _ _ _ _ _ _)); (fail_if_success (with_reducible show wpAny _ _ (exec (Stmt.While _ _ _ _) _) _ _ _)); (fail_if_success (with_reducible show ite _ _ _)); (fail_if_success (with_reducible show wpAny _ _ (call (Value.ref _) _) _ _ _)); (fail_if_success (with_reducible show wpAny _ _ (exec (Stmt.For _ _ _ _ _) _) _ _ _)); (fail_if_success (with_reducible show wpAny _ _ (pyIter _) _ _ _)); (fail_if_success (with_reducible show wpAny _ _ (call (Value.builtin "str.split") _) _ _ _)); (fail_if_success (with_reducible show wpAny _ _ (subscriptTail _ _ (Value.ref _) (Value.int _ _)) _ _ _)); (fail_if_success (with_reducible show wpAny _ _ (setItem _ _ _) _ _ _)); (fail_if_success (with_reducible show wpAny _ _ (subscriptTail _ _ (Value.str _ _) (Value.int _ _)) _ _ _)); (first | (k_end; wrow_close) | walk1 | (dsimp only; walk1) | ((simp only [List.cons_append, List.nil_append]); walk1) | (leave1; walk_say "STEP leave1"; try dsimp only))) | fail "no step"))
        have e6 : [if (x - 256).toNat = 34 then st else (x - 256).toNat] = [(x - 256).toNat] := by rw [if_neg hc']
        rw [show (⟨#[(x - 256).toNat]⟩ : Str) = ofL [(x - 256).toNat] from rfl, ofL_app] at N6
        refine kst_end (vs, nn, N0, y ++ [(x - 256).toNat], _) (by assumption) N6 led_sub own_sub rfl hS (List.forall_mem_nil _) ?kr ⟨fold_snoc hP (by rw [step_sign ha, e6]), ?b1, ?b2⟩
        case kr => (intro z h1 _ h3; simp only [List.contains_cons, List.contains_nil, Bool.or_false, Bool.or_eq_false_iff, beq_eq_false_iff_ne, ne_eq] at h3; simp [h1, h3.1, h3.2])
        case b1 => dsimp only; rw [List.length_append]; omega
        case b2 => dsimp only; simp only [List.length_append, List.length_cons, List.length_nil] at *; omega
  · rintro ⟨vs, nn, N0, y, ty⟩ u9 h tk9 hbt hS ⟨hP, hb1, hb2⟩ F9 N9
    clear lF lN
    dsimp only at hP hb1 hb2 F9 N9 hS
    (try k_fold)
    (repeat' (first | (k_unfold; (try dsimp only)) | (with_reducible refine ite_pos (rfl : true = true) ?_) | (with_reducible refine ite_neg Bool.false_ne_true ?_) | (k_closed; k_dflt (first | refine ite_pos (by decide) ?_ | refine ite_neg (by decide) ?_)) | ((fail_if_success (with_reducible show KswEnd _ _ _ _ _ _ _ _ _ _ _ _)); (fail_if_success (with_reducible show InvEndN _ _ _ _ _ _ _)); (fail_if_success (with_reducible show wpAny _ _ (exec (Stmt.While _ _ _ _) _) _ _ _)); (fail_if_success (with_reducible show ite _ _ _)); (fail_if_success (with_reducible show wpAny _ _ (call (Value.ref _) _) _ _ _)); (fail_if_success (with_reducible show wpAny _ _ (exec (Stmt.For _ _ _ _ _) _) _ _ _)); (fail_if_success (with_reducible show wpAny _ _ (pyIter _) _ _ _)); (fail_if_success (with_reducible show wpAny _ _ (call (Value.builtin "str.split") _) _ _ _)); (first | (k_end; wrow_close) | walk1 | (dsimp only; walk1) | ((simp only [List.cons_append, List.nil_append]); walk1) | (leave1; walk_say "STEP leave1"; try dsimp only))) | fail "no step"))
    (rename News _ _ _ _ => nE)
    refine hret _ (vs ++ [.str (ofL y) ty]) nn _ _ (by k_asm) (fun p hp => ?_) hlt ?_
    · rcases List.mem_cons.mp hp with rfl | hp
      · exact nE _ (.head _)
      · exact nE _ (.tail _ (.tail _ hp))
    · rw [hP, List.map_append]
      exact hS.append' (.cons _ _ .nil)
end
end
end Mine

/-! part P7 -/
namespace Mine
section
open PySem PySem.W PyProof.Rows
/-! THE PLAIN LAW: what the replies tell and what the operators tell -/
abbrev rep : List Nat → List Nat := repL 34 61 [34, 57344]
/-- a name with every = behind a quote marked, the quote ahead of the name too -/
def gname (n : List Nat) : List Nat := (rep (34 :: n)).drop 1
theorem rep_nil : rep [] = [] := rfl
theorem rep_cons {c : Nat} (hc : c ≠ 34) (r : List Nat) : rep (c :: r) = c :: rep r := by
  cases r with
  | nil => rfl
  | cons d r => exact repL_no (fun ⟨r', h⟩ => hc (List.cons.inj h).1)
theorem rep_quote (n : List Nat) : rep (34 :: n) = 34 :: gname n := by
  unfold gname
  cases n with
  | nil => rfl
  | cons c r =>
    by_cases hc : c = 61
    · subst hc; simp [rep, repL]
    · have h : rep (34 :: c :: r) = 34 :: rep (c :: r) := repL_no (fun ⟨r', h⟩ => hc (List.cons.inj (List.cons.inj h).2).1)
      rw [h]; rfl
theorem gname_nil : gname [] = [] := rfl
theorem gname_eq (r : List Nat) : gname (61 :: r) = 57344 :: rep r := by simp [gname, rep, repL]
theorem gname_other {c : Nat} (hc : c ≠ 61) (r : List Nat) : gname (c :: r) = rep (c :: r) := by
  have h : rep (34 :: c :: r) = 34 :: rep (c :: r) := repL_no (fun ⟨r', h⟩ => hc (List.cons.inj (List.cons.inj h).2).1)
  unfold gname
  rw [h]; rfl
/-- the names of the text, marked as they are read; aq: a quote stands right ahead -/
def mk : List Nat → Bool → List (List Nat)
  | [], _ => [[]]
  | [c], aq => if c = 34 then [[], []] else [[if aq = true ∧ c = 61 then 57344 else c]]
  | c :: d :: r, aq => if c = 34 then (if d = 34 then headCons 34 (mk r true) else [] :: mk (d :: r) true) else headCons (if aq = true ∧ c = 61 then 57344 else c) (mk (d :: r) false)
theorem reps_mk : ∀ (t : List Nat) (aq : Bool), ∃ n ns, repsOf t = n :: ns ∧ mk t aq = (if aq = true then gname n else rep n) :: ns.map gname
  | [], aq => ⟨[], [], rfl, by cases aq <;> rfl⟩
  | [c], aq => by
    by_cases hc : c = 34
    · subst hc
      exact ⟨[], [[]], rfl, by cases aq <;> rfl⟩
    · refine ⟨[c], [], by simp [repsOf, hc], ?_⟩
      cases aq with
      | false => simp [mk, hc, rep_cons hc, rep_nil]
      | true =>
        by_cases he : c = 61
        · subst he; simp [mk, gname_eq, rep_nil]
        · simp [mk, hc, he, gname_other he, rep_cons hc, rep_nil]
  | c :: d :: r, aq => by
    by_cases hc : c = 34
    · subst hc
      by_cases hd : d = 34
      · subst hd
        obtain ⟨n, ns, h1, h2⟩ := reps_mk r true
        refine ⟨34 :: n, ns, by simp [repsOf, h1, headCons], ?_⟩
        have e1 : mk (34 :: 34 :: r) aq = headCons 34 (mk r true) := by simp [mk]
        rw [e1, h2]
        cases aq with
        | false => simp [headCons, rep_quote]
        | true => simp [headCons, gname_other (show (34 : Nat) ≠ 61 by decide), rep_quote]
      · obtain ⟨n, ns, h1, h2⟩ := reps_mk (d :: r) true
        refine ⟨[], n :: ns, by simp [repsOf, hd, h1], ?_⟩
        have e1 : mk (34 :: d :: r) aq = [] :: mk (d :: r) true := by simp [mk, hd]
        rw [e1, h2]
        cases aq <;> simp [gname_nil, rep_nil]
    · obtain ⟨n, ns, h1, h2⟩ := reps_mk (d :: r) false
      refine ⟨c :: n, ns, by simp [repsOf, hc, h1, headCons], ?_⟩
      have e1 : mk (c :: d :: r) aq = headCons (if aq = true ∧ c = 61 then 57344 else c) (mk (d :: r) false) := by simp [mk, hc]
      rw [e1, h2]
      cases aq with
      | false => simp [headCons, rep_cons hc]
      | true =>
        by_cases he : c = 61
        · subst he; simp [headCons, gname_eq]
        · simp [headCons, he, gname_other he, rep_cons hc]
theorem mk_ne (t : List Nat) (aq : Bool) : ∃ x xs, mk t aq = x :: xs := by
  obtain ⟨n, ns, _, h⟩ := reps_mk t aq
  exact ⟨_, _, h⟩
theorem mk_plain {c : Nat} (hc : c ≠ 34) (r : List Nat) : mk (c :: r) false = headCons c (mk r false) := by
  cases r with
  | nil => simp [mk, hc, headCons]
  | cons d r => simp [mk, hc]
theorem mk_marked (r : List Nat) : mk (61 :: r) true = headCons 57344 (mk r false) := by
  cases r with
  | nil => simp [mk, headCons]
  | cons d r => simp [mk]
theorem mk_flag {r : List Nat} (h : r.headD 0 ≠ 61) : mk r true = mk r false := by
  match r, h with
  | [], _ => rfl
  | [c], h => simp at h; simp [mk, h]
  | c :: d :: r, h => simp at h; simp [mk, h]
theorem mk_two (r : List Nat) : mk (34 :: 34 :: r) false = headCons 34 (mk r true) := by simp [mk]
theorem mk_one {r : List Nat} (h : r.headD 0 ≠ 34) : mk (34 :: r) false = [] :: mk r true := by
  match r, h with
  | [], _ => rfl
  | d :: r, h => simp at h; simp [mk, h]
/-! names put behind names -/
def gl (N : List (List Nat)) : List (List Nat) → List (List Nat)
  | [] => N
  | x :: xs => addLast N x ++ xs
theorem gl_head (N : List (List Nat)) (y : List Nat) (c : Nat) {X : List (List Nat)} (hX : ∃ x xs, X = x :: xs) : gl (N ++ [y ++ [c]]) X = gl (N ++ [y]) (headCons c X) := by
  obtain ⟨x, xs, rfl⟩ := hX
  simp [gl, headCons, addLast_snoc]
theorem headCons_ne {c : Nat} {X : List (List Nat)} (hX : ∃ x xs, X = x :: xs) : ∃ x xs, headCons c X = x :: xs := by
  obtain ⟨x, xs, rfl⟩ := hX
  exact ⟨_, _, rfl⟩
theorem gl_new (N : List (List Nat)) (y z : List Nat) {X : List (List Nat)} (hX : ∃ x xs, X = x :: xs) : gl ((N ++ [y]) ++ [z]) X = (N ++ [y]) ++ gl [z] X := by
  obtain ⟨x, xs, rfl⟩ := hX
  rw [gl, addLast_snoc]
  simp [gl, addLast]
theorem gl_end (N : List (List Nat)) (y : List Nat) (X : List (List Nat)) : gl (N ++ [y]) ([] :: X) = (N ++ [y]) ++ X := by
  rw [gl, addLast_snoc]; simp
theorem gl_nil {X : List (List Nat)} (hX : ∃ x xs, X = x :: xs) : gl [[]] X = X := by
  obtain ⟨x, xs, rfl⟩ := hX
  simp [gl, addLast]
theorem gl_one (c : Nat) {X : List (List Nat)} (hX : ∃ x xs, X = x :: xs) : gl [[c]] X = headCons c X := by
  obtain ⟨x, xs, rfl⟩ := hX
  simp [gl, addLast, headCons]
/-- a whole piece without a quote -/
theorem gl_piece : ∀ (p r : List Nat) (N : List (List Nat)) (y : List Nat), (34 ∉ p) → gl (N ++ [y ++ p]) (mk r false) = gl (N ++ [y]) (mk (p ++ r) false)
  | [], r, N, y, _ => by simp
  | c :: p, r, N, y, h => by
    have hc : c ≠ 34 := fun e => h (by rw [e]; exact List.mem_cons_self)
    have ih := gl_piece p r N (y ++ [c]) (fun hm => h (List.mem_cons_of_mem _ hm))
    rw [List.append_assoc] at ih
    rw [List.cons_append, mk_plain hc, ← gl_head N y c (mk_ne _ _)]
    exact ih
/-! the table -/
def starOk (st : Nat) : Prop := st = 42 ∨ st = 47 ∨ st = 60
theorem tok_facts {st : Nat} (hst : starOk st) : ∀ e ∈ TOK, 7 ≤ e.2 ∧ e.2 ≤ 54 ∧ SPELL.getD (e.2 - 7).toNat [] = e.1 ∧ 34 ∉ e.1 ∧ (e.1.headD 0 ≠ st → st ∉ e.1) ∧ (e.1.headD 0 = st → e.1 = [st] ∨ e.1 = [st, st] ∨ e.1 = [st, 61] ∨ e.1 = [st, st, 61]) := by
  rcases hst with rfl | rfl | rfl <;> decide
theorem tok_star {st : Nat} (hst : starOk st) : (look [st]).isSome = true ∧ (look [st, st]).isSome = true ∧ (look [st, 61]).isSome = true ∧ (look [st, st, 61]).isSome = true := by
  rcases hst with rfl | rfl | rfl <;> decide
theorem look_mem {p : List Nat} {n : Int} (h : look p = some n) : (p, n) ∈ TOK := by
  unfold look at h
  cases hf : TOK.find? (fun e => e.1 == p) with
  | none => rw [hf] at h; cases h
  | some e =>
    rw [hf] at h
    have h1 := List.find?_some hf
    have h2 := List.mem_of_find?_eq_some hf
    obtain ⟨a, b⟩ := e
    have e1 : a = p := by simpa using h1
    have e2 : b = n := by simpa using h
    rw [← e1, ← e2]
    exact h2
theorem sym_range {u : List Nat} (h0 : ∀ x ∈ u, x < 55296) (hst : starOk 42) : (7 ≤ sym u ∧ sym u ≤ 54) ∨ (256 ≤ sym u ∧ sym u < 55552) := by
  unfold sym
  cases hl : look (u.take (cut u)) with
  | some n =>
    have := tok_facts hst _ (look_mem hl)
    exact .inl ⟨this.1, this.2.1⟩
  | none =>
    refine .inr ?_
    cases u with
    | nil => simp
    | cons c r =>
      have := h0 c List.mem_cons_self
      simp
      omega
/-! one symbol -/
theorem turn_q (st : Nat) : turn st 34 = st := by simp [turn]
theorem turn_61 {st : Nat} (hst : starOk st) : turn st 61 = 61 := by rcases hst with rfl | rfl | rfl <;> rfl
theorem turn_eq61 {st c : Nat} (hst : starOk st) (h : turn st c = 61) : c = 61 := by
  unfold turn at h
  split at h
  · rcases hst with rfl | rfl | rfl <;> omega
  · split at h
    · omega
    · exact h
theorem turn_eqst {st c : Nat} (hst : starOk st) (h : turn st c = st) : c = 34 := by
  unfold turn at h
  split at h
  · assumption
  · split at h
    · rcases hst with rfl | rfl | rfl <;> omega
    · omega
theorem turn_id {st c d : Nat} (h : turn st c = d) (h1 : d ≠ 34) (h2 : d ≠ st) : c = d := by
  unfold turn at h
  split at h
  · omega
  · split at h <;> omega
theorem turn_list {st : Nat} : ∀ {v p : List Nat}, v.map (turn st) = p → 34 ∉ p → st ∉ p → v = p
  | [], p, h, _, _ => h
  | c :: v, p, h, h1, h2 => by
    cases p with
    | nil => cases h
    | cons d p =>
      obtain ⟨e1, e2⟩ := List.cons.inj h
      have hd1 : d ≠ 34 := fun e => h1 (by rw [e]; exact List.mem_cons_self)
      have hd2 : d ≠ st := fun e => h2 (by rw [e]; exact List.mem_cons_self)
      rw [turn_id e1 hd1 hd2, turn_list e2 (fun hm => h1 (List.mem_cons_of_mem _ hm)) (fun hm => h2 (List.mem_cons_of_mem _ hm))]
/-- an entry that begins with the star -/
theorem look_star {st : Nat} (hst : starOk st) {q : List Nat} (h : (look (st :: q)).isSome = true) : q = [] ∨ q = [st] ∨ q = [61] ∨ q = [st, 61] := by
  obtain ⟨n, hn⟩ := Option.isSome_iff_exists.mp h
  have := (tok_facts hst _ (look_mem hn)).2.2.2.2.2 rfl
  simpa using this
theorem look_quote {q : List Nat} : look (34 :: q) = none := by
  cases h : look (34 :: q) with
  | none => rfl
  | some n =>
    have := (tok_facts (.inl rfl) _ (look_mem h)).2.2.2.1
    exact absurd List.mem_cons_self this
theorem cut_3 {u : List Nat} (h1 : 2 < u.length) (h2 : (look (u.take 3)).isSome = true) : cut u = 3 := by unfold cut; rw [if_pos ⟨h1, h2⟩]
theorem cut_2 {u : List Nat} (h1 : (look (u.take 3)).isSome = false ∨ ¬ 2 < u.length) (h2 : 1 < u.length) (h3 : (look (u.take 2)).isSome = true) : cut u = 2 := by
  unfold cut
  rw [if_neg (fun h => by rcases h1 with h1 | h1; exact absurd h.2 (by rw [h1]; decide); exact h1 h.1), if_pos ⟨h2, h3⟩]
theorem cut_1 {u : List Nat} (h1 : (look (u.take 3)).isSome = false ∨ ¬ 2 < u.length) (h2 : (look (u.take 2)).isSome = false ∨ ¬ 1 < u.length) : cut u = 1 := by
  unfold cut
  rw [if_neg (fun h => by rcases h1 with h1 | h1; exact absurd h.2 (by rw [h1]; decide); exact h1 h.1), if_neg (fun h => by rcases h2 with h2 | h2; exact absurd h.2 (by rw [h2]; decide); exact h2 h.1)]
/-- what a symbol of the table does -/
theorem sym_of {st : Nat} (hst : starOk st) {u p : List Nat} (h : u.take (cut u) = p) (hs : (look p).isSome = true) : sym u < 256 ∧ SPELL.getD (sym u - 7).toNat [] = p := by
  obtain ⟨n, hn⟩ := Option.isSome_iff_exists.mp hs
  have hf := tok_facts hst _ (look_mem hn)
  have e : sym u = n := sym_found (by rw [h]; exact hn)
  rw [e]
  exact ⟨by omega, hf.2.2.1⟩
theorem isSome_false {st : Nat} (hst : starOk st) {q : List Nat} (h : ¬ (q = [] ∨ q = [st] ∨ q = [61] ∨ q = [st, 61])) : (look (st :: q)).isSome = false := by
  cases hs : (look (st :: q)).isSome with
  | false => rfl
  | true => exact absurd (look_star hst hs) h
theorem st_ne {st : Nat} (hst : starOk st) : st ≠ 61 ∧ st ≠ 34 := by rcases hst with rfl | rfl | rfl <;> decide
/-- the heart: one symbol of the turned text tells what the signs that it stands for tell -/
theorem one_symbol {st : Nat} (hst : starOk st) (v : List Nat) (hv : v ≠ []) (N : List (List Nat)) (y : List Nat) :
    gl (opStep st (N ++ [y]) (sym (v.map (turn st)))) (mk (v.drop (cut (v.map (turn st)))) false) = gl (N ++ [y]) (mk v false) := by
  obtain ⟨hs61, hs34⟩ := st_ne hst
  obtain ⟨hl1, hl2, hl3, hl4⟩ := tok_star hst
  match v, hv with
  | c :: v, _ =>
    by_cases hc : c = 34
    · subst hc
      by_cases h1 : v.headD 0 = 34
      · -- two quotes
        match v, h1 with
        | d :: r, h1 =>
          have h1 : d = 34 := h1
          subst h1
          by_cases h2 : r.headD 0 = 61
          · match r, h2 with
            | e :: r, h2 =>
              have h2 : e = 61 := h2
              subst h2
              have hm : (34 :: 34 :: 61 :: r).map (turn st) = st :: st :: 61 :: r.map (turn st) := by simp [turn_q, turn_61 hst]
              have hcut : cut ((34 :: 34 :: 61 :: r).map (turn st)) = 3 := by rw [hm]; exact cut_3 (by simp) hl4
              have hsym := sym_of hst (u := (34 :: 34 :: 61 :: r).map (turn st)) (p := [st, st, 61]) (by rw [hcut, hm]; rfl) hl4
              rw [hcut, step_two (st := st) hsym.1 hsym.2 rfl rfl]
              show gl (N ++ [y ++ [34] ++ [57344]]) (mk r false) = _
              rw [gl_head _ _ _ (mk_ne _ _), gl_head _ _ _ (headCons_ne (mk_ne _ _)), mk_two, mk_marked]
          · have hm : (34 :: 34 :: r).map (turn st) = st :: st :: r.map (turn st) := by simp [turn_q]
            have hcut : cut ((34 :: 34 :: r).map (turn st)) = 2 := by
              rw [hm]
              refine cut_2 ?_ (by simp) hl2
              cases r with
              | nil => exact .inr (by simp)
              | cons e r =>
                refine .inl (isSome_false hst ?_)
                show ¬ ([st, turn st e] = [] ∨ [st, turn st e] = [st] ∨ [st, turn st e] = [61] ∨ [st, turn st e] = [st, 61])
                simp
                exact fun he => h2 (turn_eq61 hst he)
            have hsym := sym_of hst (u := (34 :: 34 :: r).map (turn st)) (p := [st, st]) (by rw [hcut, hm]; rfl) hl2
            rw [hcut, step_two (st := st) hsym.1 hsym.2 rfl rfl]
            show gl (N ++ [y ++ [34] ++ []]) (mk r false) = _
            rw [List.append_nil, gl_head _ _ _ (mk_ne _ _), mk_two, mk_flag h2]
      · by_cases h2 : v.headD 0 = 61
        · match v, h2 with
          | e :: r, h2 =>
            have h2 : e = 61 := h2
            subst h2
            have hm : (34 :: 61 :: r).map (turn st) = st :: 61 :: r.map (turn st) := by simp [turn_q, turn_61 hst]
            have hcut : cut ((34 :: 61 :: r).map (turn st)) = 2 := by
              rw [hm]
              refine cut_2 ?_ (by simp) hl3
              cases r with
              | nil => exact .inr (by simp)
              | cons e r =>
                refine .inl (isSome_false hst ?_)
                show ¬ ([61, turn st e] = [] ∨ [61, turn st e] = [st] ∨ [61, turn st e] = [61] ∨ [61, turn st e] = [st, 61])
                simp
                exact fun he => absurd he.symm hs61
            have hsym := sym_of hst (u := (34 :: 61 :: r).map (turn st)) (p := [st, 61]) (by rw [hcut, hm]; rfl) hl3
            rw [hcut, step_one (st := st) hsym.1 hsym.2 rfl (by simp; exact fun e => hs61 e.symm)]
            show gl ((N ++ [y]) ++ [[57344]]) (mk r false) = _
            rw [gl_new _ _ _ (mk_ne _ _), gl_one _ (mk_ne _ _), mk_one (by simp), gl_end, mk_marked]
        · have hm : (34 :: v).map (turn st) = st :: v.map (turn st) := by simp [turn_q]
          have hcut : cut ((34 :: v).map (turn st)) = 1 := by
            rw [hm]
            match v, h1, h2 with
            | [], _, _ => exact cut_1 (.inr (by simp)) (.inr (by simp))
            | [e], h1, h2 =>
              refine cut_1 (.inr (by simp)) (.inl (isSome_false hst ?_))
              show ¬ ([turn st e] = [] ∨ [turn st e] = [st] ∨ [turn st e] = [61] ∨ [turn st e] = [st, 61])
              simp
              exact ⟨fun he => h1 (turn_eqst hst he), fun he => h2 (turn_eq61 hst he)⟩
            | e :: f :: r, h1, h2 =>
              refine cut_1 (.inl (isSome_false hst ?_)) (.inl (isSome_false hst ?_))
              · show ¬ ([turn st e, turn st f] = [] ∨ [turn st e, turn st f] = [st] ∨ [turn st e, turn st f] = [61] ∨ [turn st e, turn st f] = [st, 61])
                simp
                exact fun he => absurd (turn_eqst hst he) h1
              · show ¬ ([turn st e] = [] ∨ [turn st e] = [st] ∨ [turn st e] = [61] ∨ [turn st e] = [st, 61])
                simp
                exact ⟨fun he => h1 (turn_eqst hst he), fun he => h2 (turn_eq61 hst he)⟩
          have hsym := sym_of hst (u := (34 :: v).map (turn st)) (p := [st]) (by rw [hcut, hm]; rfl) hl1
          rw [hcut, step_one (st := st) hsym.1 hsym.2 rfl (by simp)]
          show gl ((N ++ [y]) ++ [[]]) (mk v false) = _
          rw [gl_new _ _ _ (mk_ne _ _), gl_nil (mk_ne _ _), mk_one h1, gl_end, mk_flag h2]
    · by_cases hcs : c = st
      · subst hcs
        have hm : (c :: v).map (turn c) = 34 :: v.map (turn c) := by simp [turn, hc]
        have hcut : cut ((c :: v).map (turn c)) = 1 := by
          rw [hm]
          refine cut_1 (.inl ?_) (.inl ?_)
          · show (look (34 :: _)).isSome = false
            rw [look_quote]; rfl
          · show (look (34 :: _)).isSome = false
            rw [look_quote]; rfl
        have hsym : sym ((c :: v).map (turn c)) = 290 := by
          unfold sym
          rw [hcut, hm]
          rw [show (34 :: v.map (turn c)).take 1 = 34 :: [] from rfl, look_quote]
          rfl
        rw [hcut, hsym, step_sign (by decide)]
        show gl (N ++ [y ++ [c]]) (mk v false) = _
        rw [gl_head _ _ _ (mk_ne _ _), mk_plain hc]
      · have hm : (c :: v).map (turn st) = c :: v.map (turn st) := by simp [turn, hc, hcs]
        cases hlk : look (((c :: v).map (turn st)).take (cut ((c :: v).map (turn st)))) with
        | some n =>
          have hpos := cut_pos ((c :: v).map (turn st))
          obtain ⟨k, hk⟩ : ∃ k, cut ((c :: v).map (turn st)) = k + 1 := ⟨_, (Nat.succ_pred_eq_of_pos hpos).symm⟩
          have hf := tok_facts hst _ (look_mem hlk)
          have hsym := sym_of hst (u := (c :: v).map (turn st)) rfl (by rw [hlk]; rfl)
          have hhead : (((c :: v).map (turn st)).take (cut ((c :: v).map (turn st)))).headD 0 ≠ st := by
            rw [hk, hm]
            exact hcs
          rw [step_other (st := st) hsym.1 hsym.2 hhead]
          have hp : (c :: v).take (cut ((c :: v).map (turn st))) = ((c :: v).map (turn st)).take (cut ((c :: v).map (turn st))) :=
            turn_list (st := st) (by rw [List.map_take]) hf.2.2.2.1 (hf.2.2.2.2.1 hhead)
          rw [gl_piece _ _ _ _ hf.2.2.2.1, ← hp, List.take_append_drop]
        | none =>
          have hcut : cut ((c :: v).map (turn st)) = 1 := by
            have := hlk
            unfold cut at this ⊢
            split
            · rename_i h
              rw [if_pos h] at this
              rw [this] at h
              exact absurd h.2 (by decide)
            · rename_i h
              rw [if_neg h] at this
              split
              · rename_i h'
                rw [if_pos h'] at this
                rw [this] at h'
                exact absurd h'.2 (by decide)
              · rfl
          have hsym : sym ((c :: v).map (turn st)) = 256 + (c : Int) := by
            unfold sym
            rw [hlk, hm]
            rfl
          have hne : ¬ (256 + (c : Int) - 256).toNat = 34 := by omega
          have hce : (256 + (c : Int) - 256).toNat = c := by omega
          rw [hcut, hsym, step_sign (by omega), if_neg hne, hce]
          show gl (N ++ [y ++ [c]]) (mk v false) = _
          rw [gl_head _ _ _ (mk_ne _ _), mk_plain hc]
theorem opStep_ne (st : Nat) (N : List (List Nat)) (y : List Nat) (x : Int) : ∃ N' y', opStep st (N ++ [y]) x = N' ++ [y'] := by
  unfold opStep
  split
  · split
    · exact ⟨_, _, addLast_snoc _ _ _⟩
    · split
      · exact ⟨_, _, addLast_snoc _ _ _⟩
      · exact ⟨_, _, rfl⟩
  · exact ⟨_, _, addLast_snoc _ _ _⟩
theorem cuts_tell {st : Nat} (hst : starOk st) (t : List Nat) {k : Nat} {row : List Int} (h : Cuts (t.map (turn st)) k row) :
    (∃ N y, row.foldl (opStep st) [[]] = N ++ [y]) ∧ gl (row.foldl (opStep st) [[]]) (mk (t.drop k) false) = mk t false := by
  induction h with
  | start => exact ⟨⟨[], [], rfl⟩, gl_nil (mk_ne _ _)⟩
  | @step k row hc hk ih =>
    obtain ⟨⟨N, y, hN⟩, hg⟩ := ih
    have e : (row ++ [sym ((t.map (turn st)).drop k)]).foldl (opStep st) [[]] = opStep st (N ++ [y]) (sym ((t.map (turn st)).drop k)) := by rw [List.foldl_append, hN]; rfl
    rw [hN] at hg
    rw [e]
    have hkt : k < t.length := by simpa using hk
    have hd : (t.map (turn st)).drop k = (t.drop k).map (turn st) := by rw [List.map_drop]
    refine ⟨opStep_ne _ _ _ _, ?_⟩
    rw [← hg, hd, ← List.drop_drop]
    exact one_symbol hst (t.drop k) (by intro e; have := congrArg List.length e; simp at this; omega) N y
/-- THE LAW, plain: the operators tell the names that the replies tell -/
theorem plain_law {st : Nat} (hst : starOk st) (t r : List Nat) (ht : t = 34 :: r) {row : List Int} (h : Cuts (t.map (turn st)) (t.map (turn st)).length row) :
    row.foldl (opStep st) [[]] = (repsOf t).map gname := by
  obtain ⟨⟨N, y, hN⟩, hg⟩ := cuts_tell hst t h
  rw [List.length_map, List.drop_length] at hg
  have e : gl (row.foldl (opStep st) [[]]) (mk [] false) = row.foldl (opStep st) [[]] := by
    rw [hN]
    show addLast (N ++ [y]) [] ++ [] = _
    rw [addLast_snoc]
    simp
  rw [← e, hg, ← mk_flag (by rw [ht]; simp)]
  obtain ⟨n, ns, h1, h2⟩ := reps_mk t true
  rw [h2, h1]
  rfl
theorem cuts_range {u : List Nat} (h0 : ∀ x ∈ u, x < 55296) {k : Nat} {row : List Int} (h : Cuts u k row) : ∀ x ∈ row, (7 ≤ x ∧ x ≤ 54) ∨ (256 ≤ x ∧ x < 55552) := by
  induction h with
  | start => intro x hx; cases hx
  | @step k row hc hk ih =>
    intro x hx
    rcases List.mem_append.mp hx with hx | hx
    · exact ih x hx
    · rw [List.mem_singleton.mp hx]
      exact sym_range (fun x hx => h0 x (List.mem_of_mem_drop hx)) (.inl rfl)
end
end Mine

/-! part P7b -/
namespace Mine
section
open PySem PySem.W PyProof.Rows PySem.Calls PySem.Spec PyProof.V
/-! two lists of the same texts, compared -/
theorem st_canLayAll0 : ∀ ns : List Str, (∀ x ∈ ns, PyData.strOk x = true) → PyData.canLayAll0 (ns.map PyData.str) = true
  | [], _ => rfl
  | x :: r, h => by simp [PyData.canLayAll0, PyData.canLay0, st_canLayAll0 r (fun y hy => h y (List.mem_cons_of_mem _ hy)), h x List.mem_cons_self]
theorem reps_lt : ∀ (t : List Nat), (∀ x ∈ t, x < 1114112) → ∀ n ∈ repsOf t, ∀ c ∈ n, c < 1114112
  | [], _, n, h, c, hc => by
    have : n = [] := by simpa [repsOf] using h
    subst this; cases hc
  | [d], ht, n, h, c, hc => by
    by_cases hd : d = 34
    · have : n = [] := by simpa [repsOf, hd] using h
      subst this; cases hc
    · have : n = [d] := by simpa [repsOf, hd] using h
      subst this; exact ht c hc
  | e :: d :: r, ht, n, h, c, hc => by
    have h1 := reps_lt r (fun x hx => ht x (List.mem_cons_of_mem _ (List.mem_cons_of_mem _ hx)))
    have h2 := reps_lt (d :: r) (fun x hx => ht x (List.mem_cons_of_mem _ hx))
    have h3 := ht e List.mem_cons_self
    obtain ⟨a, as, ha, _⟩ := reps_mk r true
    obtain ⟨b, bs, hb, _⟩ := reps_mk (d :: r) true
    by_cases he : e = 34
    · by_cases hd : d = 34
      · rw [repsOf, if_pos he, if_pos hd, ha, headCons] at h
        rcases List.mem_cons.mp h with rfl | h
        · rcases List.mem_cons.mp hc with rfl | hc
          · decide
          · exact h1 a (by rw [ha]; exact List.mem_cons_self) c hc
        · exact h1 n (by rw [ha]; exact List.mem_cons_of_mem _ h) c hc
      · rw [repsOf, if_pos he, if_neg hd] at h
        rcases List.mem_cons.mp h with rfl | h
        · cases hc
        · exact h2 n h c hc
    · rw [repsOf, if_neg he, hb, headCons] at h
      rcases List.mem_cons.mp h with rfl | h
      · rcases List.mem_cons.mp hc with rfl | hc
        · exact h3
        · exact h2 b (by rw [hb]; exact List.mem_cons_self) c hc
      · exact h2 n (by rw [hb]; exact List.mem_cons_of_mem _ h) c hc
theorem rep_lt : ∀ (l : List Nat), (∀ x ∈ l, x < 1114112) → ∀ c ∈ rep l, c < 1114112
  | [], _, c, hc => by cases hc
  | [d], h, c, hc => h c hc
  | e :: d :: r, h, c, hc => by
    have h1 := rep_lt r (fun x hx => h x (List.mem_cons_of_mem _ (List.mem_cons_of_mem _ hx)))
    have h2 := rep_lt (d :: r) (fun x hx => h x (List.mem_cons_of_mem _ hx))
    have hc' : c ∈ repL 34 61 [34, 57344] (e :: d :: r) := hc
    by_cases he : e = 34 ∧ d = 61
    · rw [repL, if_pos he] at hc'
      rcases List.mem_append.mp hc' with hc' | hc'
      · simp at hc'
        rcases hc' with rfl | rfl <;> decide
      · exact h1 c hc'
    · rw [repL, if_neg he] at hc'
      rcases List.mem_cons.mp hc' with rfl | hc'
      · exact h c List.mem_cons_self
      · exact h2 c hc'
theorem names_ok {t : List Nat} (ht : ∀ x ∈ t, x < 55296) : ∀ x ∈ ((repsOf t).map gname).map ofL, PyData.strOk x = true := by
  intro x hx
  obtain ⟨g, hg, rfl⟩ := List.mem_map.mp hx
  obtain ⟨n, hn, rfl⟩ := List.mem_map.mp hg
  unfold PyData.strOk
  rw [Array.all_eq_true']
  intro c hc
  have hc' : c ∈ gname n := by
    have := Array.mem_toList_iff.mpr hc
    rwa [ofL_cps] at this
  have h1 := reps_lt t (fun x hx => Nat.lt_trans (ht x hx) (by decide)) n hn
  have h2 := rep_lt (34 :: n) (fun x hx => by rcases List.mem_cons.mp hx with rfl | hx; decide; exact h1 x hx) c (List.mem_of_mem_drop hc')
  simpa using h2
theorem st_depthAll : ∀ ns : List Str, PyData.depthAll (ns.map PyData.str) = 0
  | [] => rfl
  | _ :: r => by simp [PyData.depthAll, PyData.depth, st_depthAll r]
theorem st_shaped (ns : List Str) (h : ∀ x ∈ ns, PyData.strOk x = true) : SeqAt.shaped (.list (ns.map PyData.str)) = true := by
  simp [SeqAt.shaped, PyData.canLay0, PyData.depth, st_canLayAll0 ns h, st_depthAll]
theorem st_sameAll : ∀ ns : List Str, PySem.Spec.sameAll (ns.map PyData.str) (ns.map PyData.str) = true
  | [] => by simp [PySem.Spec.sameAll]
  | a :: r => by
    simp only [List.map_cons, PySem.Spec.sameAll, PySem.Spec.same, st_sameAll r]
    simp
theorem st_same (ns : List Str) : PySem.Spec.same (.list (ns.map PyData.str)) (.list (ns.map PyData.str)) = true := by
  simp only [PySem.Spec.same]; exact st_sameAll ns
theorem ne_strs {prog : Program} {w : World} {A : Around} {E : Value → Shared → Prop} {s : Shared} {a b : Addr} {xs ys : List Value} {ss : List Str} {Q : Value → Shared → Prop}
    (ha : s.heap.IsList a xs.toArray) (hb : s.heap.IsList b ys.toArray) (hi : StrsAre xs ss) (hj : StrsAre ys ss) (hok : ∀ x ∈ ss, PyData.strOk x = true) (hu : A.units + 64 < cLine) (h : Q (.bool false) s) :
    wpAny (model prog w) A (compareOp .NotEq (.ref a) (.ref b)) Q E s :=
  ne_dataH_same (reads_newData ha hi.carried) (reads_newData hb hj.carried) (st_shaped _ hok) (st_shaped _ hok) hu (SeqAt.noMix_of_shape (.list .str) rfl _ _ (list_map_has fun _ => rfl) (list_map_has fun _ => rfl)) (by rw [st_same]; exact h)
theorem lit42 : Str.ofString "*" = ofL [42] := by decide +kernel
theorem lit47 : Str.ofString "/" = ofL [47] := by decide +kernel
theorem lit60 : Str.ofString "<" = ofL [60] := by decide +kernel
theorem stars_ok {n : Int} (h : n ∈ [42, 47, 60]) : starOk n.toNat := by
  simp at h
  rcases h with rfl | rfl | rfl
  · exact .inl rfl
  · exact .inr (.inl rfl)
  · exact .inr (.inr rfl)
theorem turned_lt {t : List Nat} (h : ∀ x ∈ t, x < 55296) {st : Nat} (hst : starOk st) : ∀ x ∈ t.map (turn st), x < 55296 := by
  intro x hx
  obtain ⟨y, hy, rfl⟩ := List.mem_map.mp hx
  have := h y hy
  unfold turn
  split
  · rcases hst with rfl | rfl | rfl <;> decide
  · split
    · decide
    · exact this
end
end Mine

/-! part P8 -/
namespace Mine
section
open PySem PySem.W PyProof.Rows PySem.Calls PySem.Spec
theorem reps_len : ∀ (t : List Nat), ∀ n ∈ repsOf t, n.length ≤ t.length
  | [], n, h => by
    have : n = [] := by simpa [repsOf] using h
    subst this; exact Nat.le_refl _
  | [c], n, h => by
    by_cases hc : c = 34
    · have : n = [] := by simpa [repsOf, hc] using h
      subst this; exact Nat.zero_le _
    · have : n = [c] := by simpa [repsOf, hc] using h
      subst this; exact Nat.le_refl _
  | c :: d :: r, n, h => by
    have h1 := reps_len r
    have h2 := reps_len (d :: r)
    obtain ⟨a, as, ha, _⟩ := reps_mk r true
    obtain ⟨b, bs, hb, _⟩ := reps_mk (d :: r) true
    by_cases hc : c = 34
    · by_cases hd : d = 34
      · rw [repsOf, if_pos hc, if_pos hd, ha, headCons] at h
        rcases List.mem_cons.mp h with rfl | h
        · have := h1 a (by rw [ha]; exact List.mem_cons_self)
          simp; omega
        · have := h1 n (by rw [ha]; exact List.mem_cons_of_mem _ h)
          simp; omega
      · rw [repsOf, if_pos hc, if_neg hd] at h
        rcases List.mem_cons.mp h with rfl | h
        · exact Nat.zero_le _
        · have := h2 n h
          simp at this ⊢; omega
    · rw [repsOf, if_neg hc, hb, headCons] at h
      rcases List.mem_cons.mp h with rfl | h
      · have := h2 b (by rw [hb]; exact List.mem_cons_self)
        simp at this ⊢; omega
      · have := h2 n (by rw [hb]; exact List.mem_cons_of_mem _ h)
        simp at this ⊢; omega
theorem reps_count : ∀ (t : List Nat), (repsOf t).length ≤ t.length + 1
  | [] => Nat.le_refl _
  | [c] => by
    by_cases hc : c = 34
    · simp [repsOf, hc]
    · simp [repsOf, hc]
  | c :: d :: r => by
    have h1 := reps_count r
    have h2 := reps_count (d :: r)
    obtain ⟨a, as, ha, _⟩ := reps_mk r true
    obtain ⟨b, bs, hb, _⟩ := reps_mk (d :: r) true
    by_cases hc : c = 34
    · by_cases hd : d = 34
      · rw [repsOf, if_pos hc, if_pos hd, ha, headCons]
        rw [ha] at h1
        simp at h1 ⊢; omega
      · rw [repsOf, if_pos hc, if_neg hd]
        simp at h2 ⊢; omega
    · rw [repsOf, if_neg hc, hb, headCons]
      rw [hb] at h2
      simp at h2 ⊢; omega
theorem rep_len : ∀ (l : List Nat), (rep l).length = l.length
  | [] => rfl
  | [c] => rfl
  | c :: d :: r => by
    have h1 := rep_len r
    have h2 := rep_len (d :: r)
    by_cases h : c = 34 ∧ d = 61
    · show (repL 34 61 [34, 57344] (c :: d :: r)).length = _
      rw [repL, if_pos h]
      simp [h1]
    · show (repL 34 61 [34, 57344] (c :: d :: r)).length = _
      rw [repL, if_neg h, List.length_cons, h2]
      rfl
theorem litQE : Str.ofString "\"=" = ofL [34, 61] := by decide +kernel
section
local macro_rules | `(tactic| size_fits) => `(tactic| ((try simp only [Array.size_push, List.size_toArray, Str.length_append, ofL_length, sizeLine_eq, List.length_cons, List.length_nil, List.length_append]); omega))
local macro_rules | `(tactic| walk_at "execs cons") => `(tactic| (k_here; refine wpAny_execs_cons ?_))
local macro_rules | `(tactic| walk_at "execs nil") => `(tactic| (k_here; refine wpAny_execs_nil ?_))
local macro_rules | `(tactic| walk_at "binaryOp Add str str") => `(tactic| (k_here; (with_reducible show wpAny _ _ (binaryOp Operator.Add (Value.str _ _) (Value.str _ _)) _ _ _); (refine add_b (hsz := ?hsz) ?_); (case hsz => size_fits); intro t' k' hk'; (try dsimp only at hk')))
local macro_rules | `(tactic| walk_at "subscriptTail Name Slice str ref") => `(tactic| (k_here; (with_reducible show wpAny _ _ (subscriptTail _ (Expr.Slice _ _ _ _) (Value.str _ _) (Value.ref _)) _ _ _); (with_reducible rename Fr _ _ _ _ => F'); (with_reducible rename News _ _ _ _ => N'); (first
  | ((with_reducible show wpAny _ _ (subscriptTail _ (Expr.Slice none (some _) none _) _ _) _ _ _); (refine slice_ns_b (hsz := ?hsz) (s := ⟨_, _, _, _, _⟩) F' N' ?_); (case hsz => size_fits))
  | ((with_reducible show wpAny _ _ (subscriptTail _ (Expr.Slice (some _) none none _) _ _) _ _ _); (refine slice_sn_b (hsz := ?hsz) (s := ⟨_, _, _, _, _⟩) F' N' ?_); (case hsz => size_fits))); intro h' t' k' hk' F'' N''; (try dsimp only at hk')))
set_option maxRecDepth 100000 in
set_option maxHeartbeats 8000000 in
theorem law_holds : PySem.Challenge.rw_pg0134_01.Holds := hd (by
  k_go0
  (all_goals try k_fold)
  (repeat' (first | (k_unfold; (try dsimp only)) | (with_reducible refine ite_pos (rfl : true = true) ?_) | (with_reducible refine ite_neg Bool.false_ne_true ?_) | (k_closed; k_dflt (first | refine ite_pos (by decide) ?_ | refine ite_neg (by decide) ?_)) | ((fail_if_success (with_reducible show KswEnd _ _ _ _ _ _ _ _ _ _ _ _)); (fail_if_success (with_reducible show InvEndN _ _ _ _ _ _ _)); (fail_if_success (with_reducible show wpAny _ _ (exec (Stmt.While _ _ _ _) _) _ _ _)); (fail_if_success (with_reducible show ite _ _ _)); (fail_if_success (with_reducible show wpAny _ _ (call (Value.ref _) _) _ _ _)); (fail_if_success (with_reducible show wpAny _ _ (exec (Stmt.For _ _ _ _ _) _) _ _ _)); (fail_if_success (with_reducible show wpAny _ _ (pyIter _) _ _ _)); (fail_if_success (with_reducible show wpAny _ _ (exec (Stmt.Assign _ (Expr.ListComp _ _ _ _) _) _) _ _ _)); (first | (k_end; wrow_close) | walk1 | (dsimp only; walk1) | ((simp only [List.cons_append, List.nil_append]); walk1) | (leave1; walk_say "STEP leave1"; try dsimp only))) | fail "no step"))
  (rename ¬ ((63 : Nat) : Int) < _ => h63)
  k_dflt (refine' text_spec (by assumption) (by assumption) (by omega) ?cB ?cF ?cX ?cN ?cT ?cK ?cD ?cU  ?_; (case cB => k_asm); (case cF => k_asm); (case cX => k_asm); (case cN => k_asm); (case cT => k_asm); (case cK => first | exact rfl | assumption); (case cD => first | decide | ktr_room); (case cU => first | decide | ktr_units);  skip)
  intro t tt hT1 tkT hT FT NT
  (try dsimp only); (try k_fold)
  have hs1 : (ofL t).length ≤ 31 := by rw [ofL_length]; exact hT.1
  (repeat' (first | (k_unfold; (try dsimp only)) | (with_reducible refine ite_pos (rfl : true = true) ?_) | (with_reducible refine ite_neg Bool.false_ne_true ?_) | (k_closed; k_dflt (first | refine ite_pos (by decide) ?_ | refine ite_neg (by decide) ?_)) | ((fail_if_success (with_reducible show KswEnd _ _ _ _ _ _ _ _ _ _ _ _)); (fail_if_success (with_reducible show InvEndN _ _ _ _ _ _ _)); (fail_if_success (with_reducible show wpAny _ _ (exec (Stmt.While _ _ _ _) _) _ _ _)); (fail_if_success (with_reducible show ite _ _ _)); (fail_if_success (with_reducible show wpAny _ _ (call (Value.ref _) _) _ _ _)); (fail_if_success (with_reducible show wpAny _ _ (exec (Stmt.For _ _ _ _ _) _) _ _ _)); (fail_if_success (with_reducible show wpAny _ _ (pyIter _) _ _ _)); (fail_if_success (with_reducible show wpAny _ _ (exec (Stmt.Assign _ (Expr.ListComp _ _ _ _) _) _) _ _ _)); (first | (k_end; wrow_close) | walk1 | (dsimp only; walk1) | ((simp only [List.cons_append, List.nil_append]); walk1) | (leave1; walk_say "STEP leave1"; try dsimp only))) | fail "no step"))
  (rename Obj.data _ = Data.cell (some _) => dC)
  dsimp only at dC
  have hmk : ∃ tm : Nat, 1 ≤ tm ∧ tm + 1 ≤ tkT + 3 ∧ Obj.data _ = Data.cell (some (.str (ofL [57344]) tm)) := ⟨_, by omega, by omega, dC⟩
  obtain ⟨tm, htm1, htm2, dM⟩ := hmk
  clear dC
  refine wpAny_with_toks (n := tm + 1) (by show tm + 1 ≤ tkT + 1 + 1 + 1; omega) ?_
  k_dflt (refine LCg.Assign_ListComp_U (F₀ := by k_asm) (by rfl) (by with_unfolding_all rfl) (by with_unfolding_all rfl) (by decide) (by rfl) (by decide) (by rfl) (by rfl) (by rfl) ?_)
  (repeat' (first | (k_unfold; (try dsimp only)) | (with_reducible refine ite_pos (rfl : true = true) ?_) | (with_reducible refine ite_neg Bool.false_ne_true ?_) | (k_closed; k_dflt (first | refine ite_pos (by decide) ?_ | refine ite_neg (by decide) ?_)) | ((fail_if_success (with_reducible show KswEnd _ _ _ _ _ _ _ _ _ _ _ _)); (fail_if_success (with_reducible show InvEndN _ _ _ _ _ _ _)); (fail_if_success (with_reducible show wpAny _ _ (exec (Stmt.While _ _ _ _) _) _ _ _)); (fail_if_success (with_reducible show ite _ _ _)); (fail_if_success (with_reducible show wpAny _ _ (call (Value.ref _) _) _ _ _)); (fail_if_success (with_reducible show wpAny _ _ (exec (Stmt.For _ _ _ _ _) _) _ _ _)); (fail_if_success (with_reducible show wpAny _ _ (pyIter _) _ _ _)); (fail_if_success (with_reducible show wpAny _ _ (exec (Stmt.Assign _ (Expr.ListComp _ _ _ _) _) _) _ _ _)); (first | (k_end; wrow_close) | walk1 | (dsimp only; walk1) | ((simp only [List.cons_append, List.nil_append]); walk1) | (leave1; walk_say "STEP leave1"; try dsimp only))) | fail "no step"))
  k_dflt (refine' replies_spec t _ ?cB ?cF ?cX ?cN ?cT ?cK ?cD ?cU ?e0 ?_; (case cB => k_asm); (case cF => k_asm); (case cX => k_asm); (case cN => k_asm); (case cT => k_asm); (case cK => first | exact rfl | assumption); (case cD => first | decide | ktr_room); (case cU => first | decide | ktr_units); (case e0 => exact Nat.le_trans hT.1 (by decide)); skip)
  intro r ws nr hR tkR FR NR lR hSR
  have hwl : ws.length = (repsOf t).length := by rw [hSR.length, List.length_map]
  (try dsimp only); (try k_fold)
  refine LCg.CompSrc.ledger rfl (by k_asm) (by k_asm) (.head _) (by rw [List.size_toArray, sizeLine_eq, hwl]; have := reps_count t; have := hT.1; omega) ?_
  intro gC
  refine comp_turns (ks := repsOf t) (fun n u => .str (ofL n) u) (fun n => ofL (gname n)) (by rw [List.size_toArray]; exact hwl.symm) ?_ ?_ (.inr ⟨_, .head _, rfl, _, rfl⟩) ?_
  · intro i v hi hv
    have hi' : i < (repsOf t).length := by rw [List.size_toArray] at hi; omega
    obtain ⟨u, hu⟩ := hSR.get i (ofL (repsOf t)[i]) (by simp [hi'])
    refine ⟨(repsOf t)[i], u, by simp [hi'], ?_⟩
    have hv' : ws[i]? = some v := by simpa using hv
    rw [hu] at hv'
    exact (Option.some.inj hv').symm
  · intro n u I oI C oC D m₂ ys h9 tk9 E' hmem hC hx F9 N9 off9
    have hn1 := reps_len t n hmem
    have hs2 : (ofL n).length ≤ 31 := by rw [ofL_length]; have := hT.1; omega
    dsimp only
    (try k_fold)
    (repeat' (first | (k_unfold; (try dsimp only)) | (with_reducible refine ite_pos (rfl : true = true) ?_) | (with_reducible refine ite_neg Bool.false_ne_true ?_) | (k_closed; k_dflt (first | refine ite_pos (by decide) ?_ | refine ite_neg (by decide) ?_)) | ((fail_if_success (with_reducible show KswEnd _ _ _ _ _ _ _ _ _ _ _ _)); (fail_if_success (with_reducible show InvEndN _ _ _ _ _ _ _)); (fail_if_success (with_reducible show wpAny _ _ (exec (Stmt.While _ _ _ _) _) _ _ _)); (fail_if_success (with_reducible show ite _ _ _)); (fail_if_success (with_reducible show wpAny _ _ (call (Value.ref _) _) _ _ _)); (fail_if_success (with_reducible show wpAny _ _ (exec (Stmt.For _ _ _ _ _) _) _ _ _)); (fail_if_success (with_reducible show wpAny _ _ (pyIter _) _ _ _)); (fail_if_success (with_reducible show wpAny _ _ (exec (Stmt.Assign _ (Expr.ListComp _ _ _ _) _) _) _ _ _)); (fail_if_success (with_reducible show wpAny _ _ (binaryOp Operator.Add (Value.str _ _) (Value.str _ _)) _ _ _)); (first | (k_end; wrow_close) | walk1 | (dsimp only; walk1) | ((simp only [List.cons_append, List.nil_append]); walk1) | (leave1; walk_say "STEP leave1"; try dsimp only))) | fail "no step"))
    refine add_b (hsz := ?hsz) ?_
    case hsz => rw [litQ, ofL_length, ofL_length, sizeLine_eq]; have := hT.1; simp; omega
    intro t5 k5 hk5
    dsimp only at hk5
    rw [show Str.ofString "\"" ++ ofL n = ofL (34 :: n) from by rw [litQ, ofL_app]; rfl]
    (try dsimp only); (try k_fold)
    (repeat' (first | (k_unfold; (try dsimp only)) | (with_reducible refine ite_pos (rfl : true = true) ?_) | (with_reducible refine ite_neg Bool.false_ne_true ?_) | (k_closed; k_dflt (first | refine ite_pos (by decide) ?_ | refine ite_neg (by decide) ?_)) | ((fail_if_success (with_reducible show KswEnd _ _ _ _ _ _ _ _ _ _ _ _)); (fail_if_success (with_reducible show InvEndN _ _ _ _ _ _ _)); (fail_if_success (with_reducible show wpAny _ _ (exec (Stmt.While _ _ _ _) _) _ _ _)); (fail_if_success (with_reducible show ite _ _ _)); (fail_if_success (with_reducible show wpAny _ _ (call (Value.ref _) _) _ _ _)); (fail_if_success (with_reducible show wpAny _ _ (exec (Stmt.For _ _ _ _ _) _) _ _ _)); (fail_if_success (with_reducible show wpAny _ _ (pyIter _) _ _ _)); (fail_if_success (with_reducible show wpAny _ _ (exec (Stmt.Assign _ (Expr.ListComp _ _ _ _) _) _) _ _ _)); (fail_if_success (with_reducible show wpAny _ _ (binaryOp Operator.Add (Value.str _ _) (Value.str _ _)) _ _ _)); (first | (k_end; wrow_close) | walk1 | (dsimp only; walk1) | ((simp only [List.cons_append, List.nil_append]); walk1) | (leave1; walk_say "STEP leave1"; try dsimp only))) | fail "no step"))
    refine add_new (by rw [litQ, ofL_length]; decide) (by rw [ofL_length]; decide) (by rw [litQ, ofL_length, ofL_length, sizeLine_eq]; decide) ?_
    (try dsimp only); (try k_fold)
    (repeat' (first | (k_unfold; (try dsimp only)) | (with_reducible refine ite_pos (rfl : true = true) ?_) | (with_reducible refine ite_neg Bool.false_ne_true ?_) | (k_closed; k_dflt (first | refine ite_pos (by decide) ?_ | refine ite_neg (by decide) ?_)) | ((fail_if_success (with_reducible show KswEnd _ _ _ _ _ _ _ _ _ _ _ _)); (fail_if_success (with_reducible show InvEndN _ _ _ _ _ _ _)); (fail_if_success (with_reducible show wpAny _ _ (exec (Stmt.While _ _ _ _) _) _ _ _)); (fail_if_success (with_reducible show ite _ _ _)); (fail_if_success (with_reducible show wpAny _ _ (call (Value.ref _) _) _ _ _)); (fail_if_success (with_reducible show wpAny _ _ (exec (Stmt.For _ _ _ _ _) _) _ _ _)); (fail_if_success (with_reducible show wpAny _ _ (pyIter _) _ _ _)); (fail_if_success (with_reducible show wpAny _ _ (exec (Stmt.Assign _ (Expr.ListComp _ _ _ _) _) _) _ _ _)); (fail_if_success (with_reducible show wpAny _ _ (binaryOp Operator.Add (Value.str _ _) (Value.str _ _)) _ _ _)); (fail_if_success (with_reducible show wpAny _ _ (call (Value.builtin "str.replace") _) _ _ _)); (first | (k_end; wrow_close) | walk1 | (dsimp only; walk1) | ((simp only [List.cons_append, List.nil_append]); walk1) | (leave1; walk_say "STEP leave1"; try dsimp only))) | fail "no step"))
    simp only [List.cons_append, List.nil_append]
    refine replace_b (by show @Ne Nat _ _; (try dsimp only); omega) (by show @Ne Nat _ _; (try dsimp only); omega) (by show @Ne Nat _ _; (try dsimp only); omega) (by decide +kernel) (by rw [ofL_length]; have := hT.1; simp; omega) (by decide +kernel) ?_
    intro t6 k6 hk6
    dsimp only at hk6
    rw [show Txt.replace (ofL (34 :: n)) (Str.ofString "\"=") (Str.ofString "\"" ++ ofL [57344]) = ofL (rep (34 :: n)) from by rw [litQ, litQE, ofL_app, replace_law]; rfl]
    have hs6 : (ofL (rep (34 :: n))).length ≤ 32 := by rw [ofL_length, rep_len]; have := hT.1; simp only [List.length_cons]; omega
    (try dsimp only); (try k_fold)
    (repeat' (first | (k_unfold; (try dsimp only)) | (with_reducible refine ite_pos (rfl : true = true) ?_) | (with_reducible refine ite_neg Bool.false_ne_true ?_) | (k_closed; k_dflt (first | refine ite_pos (by decide) ?_ | refine ite_neg (by decide) ?_)) | ((fail_if_success (with_reducible show KswEnd _ _ _ _ _ _ _ _ _ _ _ _)); (fail_if_success (with_reducible show InvEndN _ _ _ _ _ _ _)); (fail_if_success (with_reducible show wpAny _ _ (exec (Stmt.While _ _ _ _) _) _ _ _)); (fail_if_success (with_reducible show ite _ _ _)); (fail_if_success (with_reducible show wpAny _ _ (call (Value.ref _) _) _ _ _)); (fail_if_success (with_reducible show wpAny _ _ (exec (Stmt.For _ _ _ _ _) _) _ _ _)); (fail_if_success (with_reducible show wpAny _ _ (pyIter _) _ _ _)); (fail_if_success (with_reducible show wpAny _ _ (exec (Stmt.Assign _ (Expr.ListComp _ _ _ _) _) _) _ _ _)); (fail_if_success (with_reducible show wpAny _ _ (binaryOp Operator.Add (Value.str _ _) (Value.str _ _)) _ _ _)); (first | (k_end; wrow_close) | walk1 | (dsimp only; walk1) | ((simp only [List.cons_append, List.nil_append]); walk1) | (leave1; walk_say "STEP leave1"; try dsimp only))) | fail "no step"))
    have e7 : Txt.slice (ofL (rep (34 :: n))) (some 1) none = ofL (gname n) := by
      rw [show (1 : Int) = ((1 : Nat) : Int) from rfl, slice_n0 _ (by rw [rep_len]; simp)]
      rfl
    exact ⟨_, _, _, rfl, by rw [e7], by k_asm, by k_asm⟩
  · intro ys hys D9 h9 tk9 F9 N9 o9
    intro hbt
    dsimp only at hbt
    (try dsimp only); (try k_fold)
    (repeat' (first | (k_unfold; (try dsimp only)) | (with_reducible refine ite_pos (rfl : true = true) ?_) | (with_reducible refine ite_neg Bool.false_ne_true ?_) | (k_closed; k_dflt (first | refine ite_pos (by decide) ?_ | refine ite_neg (by decide) ?_)) | ((fail_if_success (with_reducible show KswEnd _ _ _ _ _ _ _ _ _ _ _ _)); (fail_if_success (with_reducible show InvEndN _ _ _ _ _ _ _)); (fail_if_success (with_reducible show wpAny _ _ (exec (Stmt.While _ _ _ _) _) _ _ _)); (fail_if_success (with_reducible show ite _ _ _)); (fail_if_success (with_reducible show wpAny _ _ (call (Value.ref _) _) _ _ _)); (fail_if_success (with_reducible show wpAny _ _ (exec (Stmt.For _ _ _ _ _) _) _ _ _)); (fail_if_success (with_reducible show wpAny _ _ (pyIter _) _ _ _)); (fail_if_success (with_reducible show wpAny _ _ (exec (Stmt.Assign _ (Expr.ListComp _ _ _ _) _) _) _ _ _)); (first | (k_end; wrow_close) | walk1 | (dsimp only; walk1) | ((simp only [List.cons_append, List.nil_append]); walk1) | (leave1; walk_say "STEP leave1"; try dsimp only))) | fail "no step"))
    refine for_src ?_
    (repeat' (first | (k_unfold; (try dsimp only)) | (with_reducible refine ite_pos (rfl : true = true) ?_) | (with_reducible refine ite_neg Bool.false_ne_true ?_) | (k_closed; k_dflt (first | refine ite_pos (by decide) ?_ | refine ite_neg (by decide) ?_)) | ((fail_if_success (with_reducible show KswEnd _ _ _ _ _ _ _ _ _ _ _ _)); (fail_if_success (with_reducible show InvEndN _ _ _ _ _ _ _)); (fail_if_success (with_reducible show wpAny _ _ (exec (Stmt.While _ _ _ _) _) _ _ _)); (fail_if_success (with_reducible show ite _ _ _)); (fail_if_success (with_reducible show wpAny _ _ (call (Value.ref _) _) _ _ _)); (fail_if_success (with_reducible show wpAny _ _ (exec (Stmt.For _ _ _ _ _) _) _ _ _)); (fail_if_success (with_reducible show wpAny _ _ (pyIter _) _ _ _)); (fail_if_success (with_reducible show wpAny _ _ (exec (Stmt.Assign _ (Expr.ListComp _ _ _ _) _) _) _ _ _)); (first | (k_end; wrow_close) | walk1 | (dsimp only; walk1) | ((simp only [List.cons_append, List.nil_append]); walk1) | (leave1; walk_say "STEP leave1"; try dsimp only))) | fail "no step"))
    (rename Fr _ _ _ _ => lF); (rename News _ _ _ _ => lN)
    rw [lit42, lit47, lit60] at lN
    with_unfolding_all refine' iter_val (σ := Unit) (ns := [42, 47, 60]) (tm + 1) (fun n u => Value.str (ofL [n.toNat]) u) (fun _ => _) (fun _ => True) [] (fun _ _ => True) () ?kb rfl rfl rfl (fun _ => .head _) (fun _ => rfl) rfl ?hvg lF lN True.intro True.intro ?_ ?_ ?kE
    case kb => (try dsimp only); omega
    case kE => passes_own
    case hvg =>
      intro i n h
      match i, h with
      | 0, h => cases h; exact ⟨_, rfl⟩
      | 1, h => cases h; exact ⟨_, rfl⟩
      | 2, h => cases h; exact ⟨_, rfl⟩
    · rintro ⟨⟩ pre post x xt u9 h tk8 own he hx hbt8 hoff - - F8 N8
      clear lF lN
      have hst := stars_ok hx
      dsimp only at F8 N8 hoff
      (try k_fold)
      (repeat' (first | (k_unfold; (try dsimp only)) | (with_reducible refine ite_pos (rfl : true = true) ?_) | (with_reducible refine ite_neg Bool.false_ne_true ?_) | (k_closed; k_dflt (first | refine ite_pos (by decide) ?_ | refine ite_neg (by decide) ?_)) | ((fail_if_success (with_reducible show KswEnd _ _ _ _ _ _ _ _ _ _ _ _)); (fail_if_success (with_reducible show InvEndN _ _ _ _ _ _ _)); (fail_if_success (with_reducible show wpAny _ _ (exec (Stmt.While _ _ _ _) _) _ _ _)); (fail_if_success (with_reducible show ite _ _ _)); (fail_if_success (with_reducible show wpAny _ _ (call (Value.ref _) _) _ _ _)); (fail_if_success (with_reducible show wpAny _ _ (exec (Stmt.For _ _ _ _ _) _) _ _ _)); (fail_if_success (with_reducible show wpAny _ _ (pyIter _) _ _ _)); (fail_if_success (with_reducible show wpAny _ _ (exec (Stmt.Assign _ (Expr.ListComp _ _ _ _) _) _) _ _ _)); (first | (k_end; wrow_close) | walk1 | (dsimp only; walk1) | ((simp only [List.cons_append, List.nil_append]); walk1) | (leave1; walk_say "STEP leave1"; try dsimp only))) | fail "no step"))
      refine wpAny_with_toks (n := tm + 1) (by (try dsimp only); omega) ?_
      k_dflt (refine' turned_spec t x.toNat _ _ (Nat.le_trans hT.1 (by decide)) ?cB ?cF ?cX ?cN ?cT ?cK ?cD ?cU  ?_; (case cB => k_asm); (case cF => k_asm); (case cX => k_asm); (case cN => k_asm); (case cT => k_asm); (case cK => first | exact rfl | assumption); (case cD => first | decide | ktr_room); (case cU => first | decide | ktr_units);  skip)
      intro tkA hA tkA' FA NA hbA
      dsimp only at hbA
      (try dsimp only); (try k_fold)
      (repeat' (first | (k_unfold; (try dsimp only)) | (with_reducible refine ite_pos (rfl : true = true) ?_) | (with_reducible refine ite_neg Bool.false_ne_true ?_) | (k_closed; k_dflt (first | refine ite_pos (by decide) ?_ | refine ite_neg (by decide) ?_)) | ((fail_if_success (with_reducible show KswEnd _ _ _ _ _ _ _ _ _ _ _ _)); (fail_if_success (with_reducible show InvEndN _ _ _ _ _ _ _)); (fail_if_success (with_reducible show wpAny _ _ (exec (Stmt.While _ _ _ _) _) _ _ _)); (fail_if_success (with_reducible show ite _ _ _)); (fail_if_success (with_reducible show wpAny _ _ (call (Value.ref _) _) _ _ _)); (fail_if_success (with_reducible show wpAny _ _ (exec (Stmt.For _ _ _ _ _) _) _ _ _)); (fail_if_success (with_reducible show wpAny _ _ (pyIter _) _ _ _)); (fail_if_success (with_reducible show wpAny _ _ (exec (Stmt.Assign _ (Expr.ListComp _ _ _ _) _) _) _ _ _)); (first | (k_end; wrow_close) | walk1 | (dsimp only; walk1) | ((simp only [List.cons_append, List.nil_append]); walk1) | (leave1; walk_say "STEP leave1"; try dsimp only))) | fail "no step"))
      refine wpAny_with_toks (n := tm + 1) (by (try dsimp only); omega) ?_
      k_dflt (refine' symbols_spec (t.map (turn x.toNat)) _ ?cB ?cF ?cX ?cN ?cT ?cK ?cD ?cU ?e0 ?_; (case cB => k_asm); (case cF => k_asm); (case cX => k_asm); (case cN => k_asm); (case cT => k_asm); (case cK => first | exact rfl | assumption); (case cD => first | decide | ktr_room); (case cU => first | decide | ktr_units); (case e0 => (rw [List.length_map]; exact Nat.le_trans hT.1 (by decide))); skip)
      intro row rS wsS nS hB tkB hcuts FB NB lB hIB hbB
      dsimp only at hbB
      have hrl := hcuts.le
      have hlt8 := turned_lt hT.2.1 hst
      (try dsimp only); (try k_fold)
      (repeat' (first | (k_unfold; (try dsimp only)) | (with_reducible refine ite_pos (rfl : true = true) ?_) | (with_reducible refine ite_neg Bool.false_ne_true ?_) | (k_closed; k_dflt (first | refine ite_pos (by decide) ?_ | refine ite_neg (by decide) ?_)) | ((fail_if_success (with_reducible show KswEnd _ _ _ _ _ _ _ _ _ _ _ _)); (fail_if_success (with_reducible show InvEndN _ _ _ _ _ _ _)); (fail_if_success (with_reducible show wpAny _ _ (exec (Stmt.While _ _ _ _) _) _ _ _)); (fail_if_success (with_reducible show ite _ _ _)); (fail_if_success (with_reducible show wpAny _ _ (call (Value.ref _) _) _ _ _)); (fail_if_success (with_reducible show wpAny _ _ (exec (Stmt.For _ _ _ _ _) _) _ _ _)); (fail_if_success (with_reducible show wpAny _ _ (pyIter _) _ _ _)); (fail_if_success (with_reducible show wpAny _ _ (exec (Stmt.Assign _ (Expr.ListComp _ _ _ _) _) _) _ _ _)); (first | (k_end; wrow_close) | walk1 | (dsimp only; walk1) | ((simp only [List.cons_append, List.nil_append]); walk1) | (leave1; walk_say "STEP leave1"; try dsimp only))) | fail "no step"))
      k_dflt (refine' operators_spec x.toNat row _ tm ?cB ?cF ?cX ?cN ?cT ?cK ?cD ?cU ?e0 ?e1 ?e2 ?e3 ?e4 ?e5 ?_; (case cB => k_asm); (case cF => k_asm); (case cX => k_asm); (case cN => k_asm); (case cT => k_asm); (case cK => first | exact rfl | assumption); (case cD => first | decide | ktr_room); (case cU => first | decide | ktr_units); (case e0 => exact .head _); (case e1 => exact hIB); (case e2 => exact htm1); (case e3 => ((try dsimp only); omega)); (case e4 => (rw [List.length_map] at hrl; have := hT.1; omega)); (case e5 => exact cuts_range hlt8 hcuts); skip)
      intro rO wsO nO hO tkO FO NO lO hSO
      rw [plain_law hst t _ hT.2.2.choose_spec hcuts] at hSO
      (try dsimp only); (try k_fold)
      (repeat' (first | (k_unfold; (try dsimp only)) | (with_reducible refine ite_pos (rfl : true = true) ?_) | (with_reducible refine ite_neg Bool.false_ne_true ?_) | (k_closed; k_dflt (first | refine ite_pos (by decide) ?_ | refine ite_neg (by decide) ?_)) | ((fail_if_success (with_reducible show KswEnd _ _ _ _ _ _ _ _ _ _ _ _)); (fail_if_success (with_reducible show InvEndN _ _ _ _ _ _ _)); (fail_if_success (with_reducible show wpAny _ _ (exec (Stmt.While _ _ _ _) _) _ _ _)); (fail_if_success (with_reducible show ite _ _ _)); (fail_if_success (with_reducible show wpAny _ _ (call (Value.ref _) _) _ _ _)); (fail_if_success (with_reducible show wpAny _ _ (exec (Stmt.For _ _ _ _ _) _) _ _ _)); (fail_if_success (with_reducible show wpAny _ _ (pyIter _) _ _ _)); (fail_if_success (with_reducible show wpAny _ _ (exec (Stmt.Assign _ (Expr.ListComp _ _ _ _) _) _) _ _ _)); (fail_if_success (with_reducible show wpAny _ _ (compareOp CmpOp.NotEq (Value.ref _) (Value.ref _)) _ _ _)); (first | (k_end; wrow_close) | walk1 | (dsimp only; walk1) | ((simp only [List.cons_append, List.nil_append]); walk1) | (leave1; walk_say "STEP leave1"; try dsimp only))) | fail "no step"))
      have hys' : StrsAre ys (((repsOf t).map gname).map ofL) := by rw [List.map_map]; exact hys
      refine ne_strs (News.isList NO (.head _)) (News.isList NO (.tail _ (.tail _ (List.mem_append.mpr (.inl (.tail _ (.head _))))))) hSO hys' (names_ok hT.2.1) (by units_room) ?_
      (try dsimp only); (try k_fold)
      (repeat' (first | (k_unfold; (try dsimp only)) | (with_reducible refine ite_pos (rfl : true = true) ?_) | (with_reducible refine ite_neg Bool.false_ne_true ?_) | (k_closed; k_dflt (first | refine ite_pos (by decide) ?_ | refine ite_neg (by decide) ?_)) | ((fail_if_success (with_reducible show KswEnd _ _ _ _ _ _ _ _ _ _ _ _)); (fail_if_success (with_reducible show InvEndN _ _ _ _ _ _ _)); (fail_if_success (with_reducible show wpAny _ _ (exec (Stmt.While _ _ _ _) _) _ _ _)); (fail_if_success (with_reducible show ite _ _ _)); (fail_if_success (with_reducible show wpAny _ _ (call (Value.ref _) _) _ _ _)); (fail_if_success (with_reducible show wpAny _ _ (exec (Stmt.For _ _ _ _ _) _) _ _ _)); (fail_if_success (with_reducible show wpAny _ _ (pyIter _) _ _ _)); (fail_if_success (with_reducible show wpAny _ _ (exec (Stmt.Assign _ (Expr.ListComp _ _ _ _) _) _) _ _ _)); (fail_if_success (with_reducible show wpAny _ _ (compareOp CmpOp.NotEq (Value.ref _) (Value.ref _)) _ _ _)); (first | (k_end; wrow_close) | walk1 | (dsimp only; walk1) | ((simp only [List.cons_append, List.nil_append]); walk1) | (leave1; walk_say "STEP leave1"; try dsimp only))) | fail "no step"))
      refine kst_end () (by assumption) NO (fun p hp => .tail _ (.tail _ (List.mem_append.mpr (.inl hp)))) (fun p hp => .tail _ (.tail _ (List.mem_append.mpr (.inr hp)))) rfl True.intro (List.forall_mem_nil _) ?kr True.intro
      case kr => (intro z h1 _ _; simp [h1])
    · rintro ⟨⟩ u9 h tk8 hbt8 - - F8 N8
      clear lF lN
      dsimp only at F8 N8
      (try k_fold)
      (repeat' (first | (k_unfold; (try dsimp only)) | (with_reducible refine ite_pos (rfl : true = true) ?_) | (with_reducible refine ite_neg Bool.false_ne_true ?_) | (k_closed; k_dflt (first | refine ite_pos (by decide) ?_ | refine ite_neg (by decide) ?_)) | ((fail_if_success (with_reducible show KswEnd _ _ _ _ _ _ _ _ _ _ _ _)); (fail_if_success (with_reducible show InvEndN _ _ _ _ _ _ _)); (fail_if_success (with_reducible show wpAny _ _ (exec (Stmt.While _ _ _ _) _) _ _ _)); (fail_if_success (with_reducible show ite _ _ _)); (fail_if_success (with_reducible show wpAny _ _ (call (Value.ref _) _) _ _ _)); (fail_if_success (with_reducible show wpAny _ _ (exec (Stmt.For _ _ _ _ _) _) _ _ _)); (fail_if_success (with_reducible show wpAny _ _ (pyIter _) _ _ _)); (fail_if_success (with_reducible show wpAny _ _ (exec (Stmt.Assign _ (Expr.ListComp _ _ _ _) _) _) _ _ _)); (first | (k_end; wrow_close) | walk1 | (dsimp only; walk1) | ((simp only [List.cons_append, List.nil_append]); walk1) | (leave1; walk_say "STEP leave1"; try dsimp only))) | fail "no step")))
end
end
end Mine

theorem PySem.Challenge.cw_pg0134_01_holds : PySem.Challenge.rw_pg0134_01.Holds := by
  exact Mine.law_holds
