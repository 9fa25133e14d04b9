import PyProof.Rows.All
import Wide.All
import OpenK.AllK
import Wide.FinOn
import Lean
import PySem.Challenge.RW_ph0062_01
set_option Elab.async false
set_option linter.unusedVariables false
set_option linter.unusedSimpArgs false

section PPL
namespace Mine
theorem countP_at {α : Type} (p : α → Bool) (l : List α) (k : Nat) (hk : k ≤ l.length) (h1 : ∀ i (h : i < l.length), i < k → p l[i] = true) (h2 : ∀ i (h : i < l.length), k ≤ i → p l[i] = false) : l.countP p = k := by
  have e : l.take k ++ l.drop k = l := List.take_append_drop k l
  have a : (l.take k).countP p = (l.take k).length := List.countP_eq_length.mpr fun x hx => by
    obtain ⟨i, hi, rfl⟩ := List.getElem_of_mem hx
    rw [List.getElem_take]
    have hi' : i < k ∧ i < l.length := by simpa [List.length_take, Nat.lt_min] using hi
    exact h1 i hi'.2 hi'.1
  have b : (l.drop k).countP p = 0 := List.countP_eq_zero.mpr fun x hx => by
    obtain ⟨i, hi, rfl⟩ := List.getElem_of_mem hx
    rw [List.getElem_drop]
    have hi' : i < l.length - k := by simpa using hi
    simp [h2 (k + i) (by omega) (by omega)]
  calc l.countP p = (l.take k ++ l.drop k).countP p := by rw [e]
    _ = k := by rw [List.countP_append, a, b, List.length_take]; omega

theorem pw_le {ns : List Int} (hs : ns.Pairwise (· ≤ ·)) {i j : Nat} (hi : i < ns.length) (hj : j < ns.length) (h : i ≤ j) : ns[i] ≤ ns[j] := by
  rcases Nat.lt_or_eq_of_le h with h | rfl
  · exact List.pairwise_iff_getElem.mp hs i j hi hj h
  · exact Int.le_refl _
theorem getD_at {ns : List Int} {k : Nat} (h : k < ns.length) : ns.getD k 0 = ns[k] := by simp [List.getD, h]
theorem mid_at (lo hi : Nat) : ((((lo : Int) + (hi : Int)).fdiv 2)) = (((lo + hi) / 2 : Nat) : Int) := by
  rw [Int.fdiv_eq_ediv_of_nonneg _ (by decide)]; omega
end Mine
namespace Mine
def insI (acc : List Int) (x : Int) : List Int := acc.take (acc.countP (fun y => decide (y ≤ x))) ++ x :: acc.drop (acc.countP (fun y => decide (y ≤ x)))
def insAll (l : List Int) : List Int := l.foldl insI []

theorem countP_take_drop {acc : List Int} (hs : acc.Pairwise (· ≤ ·)) (x : Int) :
    (∀ y ∈ acc.take (acc.countP (fun y => decide (y ≤ x))), y ≤ x) ∧ ∀ y ∈ acc.drop (acc.countP (fun y => decide (y ≤ x))), x < y := by
  induction acc with
  | nil => simp
  | cons a t ih =>
    have ht := List.pairwise_cons.mp hs
    have ih' := ih ht.2
    by_cases h : a ≤ x
    · have hd : decide (a ≤ x) = true := decide_eq_true h
      rw [List.countP_cons_of_pos (by simpa using h)]
      simp only [List.take_succ_cons, List.drop_succ_cons, List.mem_cons]
      refine ⟨fun y hy => ?_, ih'.2⟩
      rcases hy with rfl | hy
      · exact h
      · exact ih'.1 y hy
    · have h0 : (a :: t).countP (fun y => decide (y ≤ x)) = 0 := List.countP_eq_zero.mpr fun y hy => by
        rcases List.mem_cons.mp hy with rfl | hy
        · simpa using h
        · have := ht.1 y hy
          simp only [decide_eq_true_eq]; omega
      rw [h0]
      simp only [List.take_zero, List.drop_zero]
      refine ⟨fun y hy => by simp at hy, fun y hy => ?_⟩
      rcases List.mem_cons.mp hy with rfl | hy
      · omega
      · have := ht.1 y hy; omega
theorem insI_sorted {acc : List Int} (hs : acc.Pairwise (· ≤ ·)) (x : Int) : (insI acc x).Pairwise (· ≤ ·) := by
  have h := countP_take_drop hs x
  unfold insI
  rw [List.pairwise_append]
  refine ⟨hs.sublist (List.take_sublist ..), List.pairwise_cons.mpr ⟨fun y hy => Int.le_of_lt (h.2 y hy), hs.sublist (List.drop_sublist ..)⟩, fun y hy z hz => ?_⟩
  rcases List.mem_cons.mp hz with rfl | hz
  · exact h.1 y hy
  · exact Int.le_trans (h.1 y hy) (Int.le_of_lt (h.2 z hz))
theorem insI_perm (acc : List Int) (x : Int) : (insI acc x).Perm (x :: acc) := by
  unfold insI
  refine List.perm_middle.trans (List.Perm.cons x ?_)
  rw [List.take_append_drop]
theorem insAll_snoc (l : List Int) (x : Int) : insAll (l ++ [x]) = insI (insAll l) x := by
  unfold insAll; rw [List.foldl_append]; rfl
theorem foldl_ins (l : List Int) : ∀ acc : List Int, acc.Pairwise (· ≤ ·) → (l.foldl insI acc).Pairwise (· ≤ ·) ∧ (l.foldl insI acc).Perm (l ++ acc) := by
  induction l with
  | nil => intro acc h; exact ⟨h, .refl _⟩
  | cons x t ih =>
    intro acc h
    obtain ⟨h1, h2⟩ := ih (insI acc x) (insI_sorted h x)
    refine ⟨h1, h2.trans ?_⟩
    exact ((insI_perm acc x).append_left t).trans List.perm_middle
theorem insAll_sorted (l : List Int) : (insAll l).Pairwise (· ≤ ·) := (foldl_ins l [] .nil).1
theorem insAll_perm (l : List Int) : (insAll l).Perm l := by
  have := (foldl_ins l [] .nil).2
  rw [List.append_nil] at this
  exact this
theorem insAll_length (l : List Int) : (insAll l).length = l.length := (insAll_perm l).length_eq
theorem sorted_unique {a b : List Int} (ha : a.Pairwise (· ≤ ·)) (hb : b.Pairwise (· ≤ ·)) (h : a.Perm b) : a = b := by
  induction a generalizing b with
  | nil => exact (List.nil_perm.mp h).symm
  | cons x t ih =>
    cases b with
    | nil => exact absurd h.length_eq (by simp)
    | cons y u =>
      have hx := List.pairwise_cons.mp ha
      have hy := List.pairwise_cons.mp hb
      have e : x = y := by
        rcases List.mem_cons.mp (h.mem_iff.mp List.mem_cons_self) with e | e
        · exact e
        · rcases List.mem_cons.mp (h.symm.mem_iff.mp (List.mem_cons_self (a := y) (l := u))) with e' | e'
          · exact e'.symm
          · have := hy.1 x e; have := hx.1 y e'; omega
      subst e
      rw [ih hx.2 hy.2 (List.Perm.cons_inv h)]
end Mine
end PPL

section PPT
open PySem
set_option maxRecDepth 10000
namespace Mine
abbrev toL (x : Str) : List Nat := x.cps.toList

def repL (p q : List Nat) : Nat → List Nat → List Nat
  | _, [] => []
  | k + 1, _ :: t => repL p q k t
  | 0, c :: t => if p.isPrefixOf (c :: t) = true then q ++ repL p q (p.length - 1) t else c :: repL p q 0 t
def splL (p : List Nat) : Nat → List Nat → List (List Nat)
  | _, [] => [[]]
  | k + 1, _ :: t => splL p k t
  | 0, c :: t => if p.isPrefixOf (c :: t) = true then [] :: splL p (p.length - 1) t else (match splL p 0 t with | h :: r => (c :: h) :: r | [] => [[c]])
def cutsL (p : List Nat) : Nat → Nat → List Nat → List Nat
  | _, _, [] => []
  | i, k + 1, _ :: t => cutsL p (i + 1) k t
  | i, 0, c :: t => if p.isPrefixOf (c :: t) = true then i :: cutsL p (i + 1) (p.length - 1) t else cutsL p (i + 1) 0 t
def joinL (q : List Nat) : List (List Nat) → List Nat
  | [] => []
  | [x] => x
  | x :: y :: r => x ++ q ++ joinL q (y :: r)
def preL (pre : List Nat) : List (List Nat) → List (List Nat)
  | h :: r => (pre ++ h) :: r
  | [] => []

theorem splL_ne (p : List Nat) : ∀ (l : List Nat) (k : Nat), ∃ h r, splL p k l = h :: r
  | [], _ => ⟨_, _, by unfold splL; rfl⟩
  | c :: t, k + 1 => by unfold splL; exact splL_ne p t k
  | c :: t, 0 => by
    unfold splL
    split
    · exact ⟨_, _, rfl⟩
    · obtain ⟨h, r, e⟩ := splL_ne p t 0
      rw [e]; exact ⟨_, _, rfl⟩

theorem repL_join (p q : List Nat) : ∀ (l : List Nat) (k : Nat), repL p q k l = joinL q (splL p k l)
  | [], k => by cases k <;> (unfold repL splL; rfl)
  | c :: t, k + 1 => by unfold repL splL; exact repL_join p q t k
  | c :: t, 0 => by
    unfold repL splL
    split
    · rw [repL_join p q t]
      obtain ⟨h, r, e⟩ := splL_ne p t (p.length - 1)
      rw [e]; rfl
    · rw [repL_join p q t]
      obtain ⟨h, r, e⟩ := splL_ne p t 0
      rw [e]
      cases r <;> rfl

theorem pre_iff (p l : List Nat) : p.isPrefixOf l = true ↔ l.take p.length = p := by
  rw [List.isPrefixOf_iff_prefix]
  constructor
  · rintro ⟨t, rfl⟩; simp
  · intro h
    have := List.take_append_drop p.length l
    rw [h] at this
    exact ⟨l.drop p.length, this⟩

open StrLaws Builtin Builtin.Str in
theorem occ_run (x y : Str) (hy : 1 ≤ y.length) : ∀ (d i : Nat) (st : Array Nat × Nat), i + d = x.length → st.1.size ≤ i →
    (forIn (List.range' i (d + 1)) st (occBody x y x.length (x.length + 1))).run.fst.toList = st.1.toList ++ cutsL (toL y) i (st.2 - i) ((toL x).drop i)
  | 0, i, st, hi, hs => by
    have hdrop : (toL x).drop i = [] := List.drop_eq_nil_of_le (by show x.cps.toList.length ≤ i; rw [Array.length_toList]; show x.length ≤ i; omega)
    rw [hdrop]
    have hc : cutsL (toL y) i (st.2 - i) [] = [] := by cases (st.2 - i) <;> (unfold cutsL; rfl)
    rw [hc, List.append_nil]
    show (forIn (m := Id) (i :: List.range' (i + 1) 0) st (occBody x y x.length (x.length + 1))).run.fst.toList = _
    rw [List.forIn_cons]
    unfold occBody
    rw [if_neg (by omega)]
    rfl
  | d + 1, i, st, hi, hs => by
    have hlt : i < (toL x).length := by show i < x.cps.toList.length; rw [Array.length_toList]; show i < x.length; omega
    have hdrop : (toL x).drop i = (toL x)[i] :: (toL x).drop (i + 1) := List.drop_eq_getElem_cons hlt
    show (forIn (m := Id) (i :: List.range' (i + 1) (d + 1)) st (occBody x y x.length (x.length + 1))).run.fst.toList = _
    rw [List.forIn_cons]
    have hyl : (toL y).length = y.length := by show y.cps.toList.length = y.length; rw [Array.length_toList]; rfl
    have hsub : subAt x y i = true ↔ (toL y).isPrefixOf ((toL x).drop i) = true := by
      rw [subAt_eq, pre_iff, hyl]
      exact beq_iff_eq
    rcases Nat.lt_or_ge i st.2 with hf | hf
    · unfold occBody
      rw [if_neg (by omega)]
      have ih := occ_run x y hy d (i + 1) st (by omega) (by omega)
      show (forIn (List.range' (i + 1) (d + 1)) (st.1, st.2) (occBody x y x.length (x.length + 1))).run.fst.toList = _
      rw [ih, hdrop]
      obtain ⟨k, hk⟩ : ∃ k, st.2 - i = k + 1 := ⟨st.2 - i - 1, by omega⟩
      rw [hk, show st.2 - (i + 1) = k by omega]
      conv => rhs; unfold cutsL
    · have h0 : st.2 - i = 0 := by omega
      rw [h0]
      by_cases hp : subAt x y i = true
      · have hp2 := hsub.mp hp
        have hle : i + y.length ≤ x.length := by
          have := (pre_iff _ _).mp hp2
          have hl := congrArg List.length this
          rw [List.length_take, List.length_drop, hyl] at hl
          have : (toL x).length = x.length := by show x.cps.toList.length = x.length; rw [Array.length_toList]; rfl
          omega
        unfold occBody
        rw [if_pos ⟨⟨⟨by omega, hf⟩, hle⟩, hp⟩]
        have ih := occ_run x y hy d (i + 1) (st.1.push i, i + y.length) (by omega) (by simp; omega)
        show (forIn (List.range' (i + 1) (d + 1)) (st.1.push i, i + y.length) (occBody x y x.length (x.length + 1))).run.fst.toList = _
        rw [ih, hdrop]
        rw [hdrop] at hp2
        conv => rhs; unfold cutsL
        rw [if_pos hp2, hyl, Array.toList_push, show i + y.length - (i + 1) = y.length - 1 by omega, List.append_assoc]
        rfl
      · have hp2 : ¬ (toL y).isPrefixOf ((toL x).drop i) = true := fun h => hp (hsub.mpr h)
        unfold occBody
        rw [if_neg (fun h => hp h.2)]
        have ih := occ_run x y hy d (i + 1) st (by omega) (by omega)
        show (forIn (List.range' (i + 1) (d + 1)) (st.1, st.2) (occBody x y x.length (x.length + 1))).run.fst.toList = _
        rw [ih, hdrop]
        rw [hdrop] at hp2
        conv => rhs; unfold cutsL
        rw [if_neg hp2, show st.2 - (i + 1) = 0 by omega]

open StrLaws Builtin Builtin.Str in
theorem occ_cuts (x y : Str) (hy : 1 ≤ y.length) : occurrences x y 0 x.length (x.length + 1) = cutsL (toL y) 0 0 (toL x) := by
  rw [occ_eq, Nat.sub_zero]
  have := occ_run x y hy x.length 0 (#[], 0) (by omega) (by simp)
  simpa using this

open StrLaws Builtin Builtin.Str in
theorem parts_spl (x y : Str) (hy : 1 ≤ y.length) : ∀ (l : List Nat) (i k a : Nat), (toL x).drop i = l → (k = 0 ∧ a ≤ i ∨ a = i + k) → i ≤ x.length →
    (partsFrom x y.length a (cutsL (toL y) i k l)).map toL = preL (((toL x).drop a).take (i - a)) (splL (toL y) k l)
  | [], i, k, a, hl, hka, hin => by
    have hxl : (toL x).length = x.length := by show x.cps.toList.length = x.length; rw [Array.length_toList]; rfl
    have hi : x.length = i := by
      have := List.drop_eq_nil_iff.mp hl
      omega
    have hc : cutsL (toL y) i k [] = [] := by cases k <;> (unfold cutsL; rfl)
    have hs : splL (toL y) k [] = [[]] := by cases k <;> (unfold splL; rfl)
    rw [hc, hs]
    show [toL (strSub x a x.length)] = [(((toL x).drop a).take (i - a)) ++ []]
    rw [List.append_nil, show toL (strSub x a x.length) = _ from strSub_toList x a x.length, hi]
  | c :: t, i, k, a, hl, hka, hin => by
    have hxl : (toL x).length = x.length := by show x.cps.toList.length = x.length; rw [Array.length_toList]; rfl
    have hyl : (toL y).length = y.length := by show y.cps.toList.length = y.length; rw [Array.length_toList]; rfl
    have hlt : i < (toL x).length := by
      have := congrArg List.length hl
      rw [List.length_drop, List.length_cons] at this
      omega
    have hd := List.drop_eq_getElem_cons hlt
    rw [hl] at hd
    have hc : (toL x)[i] = c := (List.cons.inj hd).1.symm
    have ht : (toL x).drop (i + 1) = t := (List.cons.inj hd).2.symm
    cases k with
    | succ k =>
      have ih := parts_spl x y hy t (i + 1) k a ht (by omega) (by omega)
      have e1 : cutsL (toL y) i (k + 1) (c :: t) = cutsL (toL y) (i + 1) k t := by conv => lhs; unfold cutsL
      have e2 : splL (toL y) (k + 1) (c :: t) = splL (toL y) k t := by conv => lhs; unfold splL
      rw [e1, e2, ih, show i + 1 - a = 0 by omega, show i - a = 0 by omega]
    | zero =>
      have ha : a ≤ i := by omega
      by_cases hp : (toL y).isPrefixOf (c :: t) = true
      · have e1 : cutsL (toL y) i 0 (c :: t) = i :: cutsL (toL y) (i + 1) ((toL y).length - 1) t := by conv => lhs; unfold cutsL; rw [if_pos hp]
        have e2 : splL (toL y) 0 (c :: t) = [] :: splL (toL y) ((toL y).length - 1) t := by conv => lhs; unfold splL; rw [if_pos hp]
        rw [e1, e2]
        have ih := parts_spl x y hy t (i + 1) ((toL y).length - 1) (i + y.length) ht (.inr (by omega)) (by omega)
        show toL (strSub x a i) :: (partsFrom x y.length (i + y.length) _).map toL = (_ ++ []) :: _
        rw [ih, List.append_nil, show i + 1 - (i + y.length) = 0 by omega, show toL (strSub x a i) = _ from strSub_toList x a i]
        obtain ⟨h, r, e⟩ := splL_ne (toL y) t ((toL y).length - 1)
        rw [e]; rfl
      · have e1 : cutsL (toL y) i 0 (c :: t) = cutsL (toL y) (i + 1) 0 t := by conv => lhs; unfold cutsL; rw [if_neg hp]
        have ih := parts_spl x y hy t (i + 1) 0 a ht (by omega) (by omega)
        obtain ⟨h, r, e⟩ := splL_ne (toL y) t 0
        have e2 : splL (toL y) 0 (c :: t) = (c :: h) :: r := by conv => lhs; unfold splL; rw [if_neg hp, e]
        rw [e1, ih, e, e2]
        show ((_ ++ h) :: r) = ((_ ++ c :: h) :: r)
        have e3 : ((toL x).drop a).take (i + 1 - a) = ((toL x).drop a).take (i - a) ++ [c] := by
          rw [show i + 1 - a = (i - a) + 1 by omega, List.take_add_one, List.getElem?_drop, show a + (i - a) = i by omega, List.getElem?_eq_getElem hlt, hc]; rfl
        rw [e3, List.append_assoc]; rfl

theorem cuts_nil (p : List Nat) : ∀ (l : List Nat) (i : Nat), cutsL p i 0 l = [] → splL p 0 l = [l]
  | [], _, _ => by unfold splL; rfl
  | c :: t, i, h => by
    unfold cutsL at h
    unfold splL
    split at h
    · cases h
    · rename_i hp
      rw [if_neg hp, cuts_nil p t (i + 1) h]
theorem cuts_short (p : List Nat) : ∀ (l : List Nat) (i : Nat), l.length < p.length → cutsL p i 0 l = []
  | [], _, _ => by unfold cutsL; rfl
  | c :: t, i, h => by
    unfold cutsL
    have hp : ¬ p.isPrefixOf (c :: t) = true := fun hp => by
      have := congrArg List.length ((pre_iff _ _).mp hp)
      rw [List.length_take] at this
      omega
    rw [if_neg hp]
    exact cuts_short p t (i + 1) (by simp only [List.length_cons] at h; omega)

open StrLaws Builtin Builtin.Str in
theorem split_toL (x y : Str) (hy : 1 ≤ y.length) (hk : PySem.Builtin.Str.strKind y = 1) : (Txt.split x y).map toL = splL (toL y) 0 (toL x) := by
  have hxl : (toL x).length = x.length := by show x.cps.toList.length = x.length; rw [Array.length_toList]; rfl
  have hyl : (toL y).length = y.length := by show y.cps.toList.length = y.length; rw [Array.length_toList]; rfl
  have hkx : 1 ≤ PySem.Builtin.Str.strKind x := by unfold PySem.Builtin.Str.strKind; split <;> (try split) <;> omega
  unfold Txt.split
  split
  · rename_i h
    rw [Bool.or_eq_true, decide_eq_true_eq, decide_eq_true_eq] at h
    have hs : x.length < y.length := by omega
    rw [cuts_nil (toL y) (toL x) 0 (cuts_short _ _ 0 (by omega))]; rfl
  · split
    · rename_i h
      rw [occ_cuts x y hy, List.isEmpty_iff] at h
      rw [cuts_nil (toL y) (toL x) 0 h]; rfl
    · rw [partsBetween_eq, occ_cuts x y hy]
      have := parts_spl x y hy (toL x) 0 0 0 rfl (.inl ⟨rfl, Nat.le_refl _⟩) (Nat.zero_le _)
      rw [this]
      obtain ⟨h, r, e⟩ := splL_ne (toL y) (toL x) 0
      rw [e]; rfl

theorem join_toL (q : Str) : ∀ parts : List Str, toL (Txt.join q parts) = joinL (toL q) (parts.map toL) := by
  intro parts
  show toL (Builtin.Str.glued q parts) = _
  rw [StrLaws.glued_eq_join]
  induction parts with
  | nil => rfl
  | cons x r ih =>
    cases r with
    | nil => rfl
    | cons y r =>
      show toL (x ++ q ++ Str.join q (y :: r)) = toL x ++ toL q ++ joinL (toL q) (toL y :: r.map toL)
      have e : toL (x ++ q ++ Str.join q (y :: r)) = toL x ++ toL q ++ toL (Str.join q (y :: r)) := by
        show ((x.cps ++ q.cps) ++ (Str.join q (y :: r)).cps).toList = _
        simp
      rw [e, ih]; rfl

theorem repl_toL (x p q : Str) (hp : 1 ≤ p.length) (hk : PySem.Builtin.Str.strKind p = 1) : toL (Txt.join q (Txt.split x p)) = repL (toL p) (toL q) 0 (toL x) := by
  rw [join_toL, split_toL x p hp hk, repL_join]

theorem str_ext {a b : Str} (h : toL a = toL b) : a = b := Str.ext' (Array.toList_inj.mp h)
theorem toL_append (a b : Str) : toL (a ++ b) = toL a ++ toL b := by show (a.cps ++ b.cps).toList = _; simp
theorem toL_length (a : Str) : (toL a).length = a.length := by show a.cps.toList.length = a.length; rw [Array.length_toList]; rfl
end Mine
end PPT

section PPL1
open PySem
namespace Mine
/-- the order of texts -/
abbrev sle (a b : Str) : Prop := toL a ≤ toL b
abbrev slt (a b : Str) : Prop := toL a < toL b
theorem sle_refl (a : Str) : sle a a := List.le_refl _
theorem sle_trans {a b c : Str} (h : sle a b) (h' : sle b c) : sle a c := List.le_trans h h'
theorem slt_of_le_lt {a b c : Str} (h : sle a b) (h' : slt b c) : slt a c := List.lt_of_le_of_lt h h'
theorem not_slt {a b : Str} : ¬ slt a b ↔ sle b a := Iff.rfl
theorem sle_total (a b : Str) : sle a b ∨ sle b a := List.le_total _ _
theorem slt_of_lt_le {a b c : Str} (h : slt a b) (h' : sle b c) : slt a c := by
  rcases Classical.em (slt a c) with q | q
  · exact q
  · exact absurd h (not_slt.mpr (sle_trans h' (not_slt.mp q)))
theorem sle_of_lt {a b : Str} (h : slt a b) : sle a b := by
  rcases sle_total a b with q | q
  · exact q
  · exact absurd h (not_slt.mpr q)
theorem spw {xs : List Str} (hs : xs.Pairwise sle) {i j : Nat} (hi : i < xs.length) (hj : j < xs.length) (h : i ≤ j) : sle xs[i] xs[j] := by
  rcases Nat.lt_or_eq_of_le h with h | rfl
  · exact List.pairwise_iff_getElem.mp hs i j hi hj h
  · exact sle_refl _
theorem sgetD_at {xs : List Str} {k : Nat} (h : k < xs.length) : xs.getD k Str.empty = xs[k] := by simp [List.getD, h]
def insS (acc : List Str) (x : Str) : List Str := acc.take (acc.countP (fun y => decide (sle y x))) ++ x :: acc.drop (acc.countP (fun y => decide (sle y x)))
def insAllS (l : List Str) : List Str := l.foldl insS []

theorem countP_take_dropS {acc : List Str} (hs : acc.Pairwise sle) (x : Str) :
    (∀ y ∈ acc.take (acc.countP (fun y => decide (sle y x))), sle y x) ∧ ∀ y ∈ acc.drop (acc.countP (fun y => decide (sle y x))), slt x y := by
  induction acc with
  | nil => simp
  | cons a t ih =>
    have ht := List.pairwise_cons.mp hs
    have ih' := ih ht.2
    by_cases h : sle a x
    · rw [List.countP_cons_of_pos (p := fun y => decide (sle y x)) (a := a) (decide_eq_true h)]
      simp only [List.take_succ_cons, List.drop_succ_cons, List.mem_cons]
      refine ⟨fun y hy => ?_, ih'.2⟩
      rcases hy with rfl | hy
      · exact h
      · exact ih'.1 y hy
    · have h0 : (a :: t).countP (fun y => decide (sle y x)) = 0 := List.countP_eq_zero.mpr fun y hy => by
        rcases List.mem_cons.mp hy with rfl | hy
        · rw [decide_eq_true_eq]; exact h
        · have := ht.1 y hy
          rw [decide_eq_true_eq]; exact fun q => h (sle_trans this q)
      rw [h0]
      simp only [List.take_zero, List.drop_zero]
      refine ⟨fun y hy => by simp at hy, fun y hy => ?_⟩
      have hax : slt x a := Classical.not_not.mp fun q => h (not_slt.mp q)
      rcases List.mem_cons.mp hy with rfl | hy
      · exact hax
      · exact slt_of_lt_le hax (ht.1 y hy)
theorem insS_sorted {acc : List Str} (hs : acc.Pairwise sle) (x : Str) : (insS acc x).Pairwise sle := by
  have h := countP_take_dropS hs x
  unfold insS
  rw [List.pairwise_append]
  refine ⟨hs.sublist (List.take_sublist ..), List.pairwise_cons.mpr ⟨fun y hy => sle_of_lt (h.2 y hy), hs.sublist (List.drop_sublist ..)⟩, fun y hy z hz => ?_⟩
  rcases List.mem_cons.mp hz with rfl | hz
  · exact h.1 y hy
  · exact sle_trans (h.1 y hy) (sle_of_lt (h.2 z hz))
theorem insS_perm (acc : List Str) (x : Str) : (insS acc x).Perm (x :: acc) := by
  unfold insS
  refine List.perm_middle.trans (List.Perm.cons x ?_)
  rw [List.take_append_drop]
theorem insAllS_snoc (l : List Str) (x : Str) : insAllS (l ++ [x]) = insS (insAllS l) x := by
  unfold insAllS; rw [List.foldl_append]; rfl
theorem foldl_insS (l : List Str) : ∀ acc : List Str, acc.Pairwise sle → (l.foldl insS acc).Pairwise sle ∧ (l.foldl insS acc).Perm (l ++ acc) := by
  induction l with
  | nil => intro acc h; exact ⟨h, .refl _⟩
  | cons x t ih =>
    intro acc h
    obtain ⟨h1, h2⟩ := ih (insS acc x) (insS_sorted h x)
    refine ⟨h1, h2.trans ?_⟩
    exact ((insS_perm acc x).append_left t).trans List.perm_middle
theorem insAllS_sorted (l : List Str) : (insAllS l).Pairwise sle := (foldl_insS l [] .nil).1
theorem insAllS_perm (l : List Str) : (insAllS l).Perm l := by
  have := (foldl_insS l [] .nil).2
  rw [List.append_nil] at this
  exact this
theorem insAllS_length (l : List Str) : (insAllS l).length = l.length := (insAllS_perm l).length_eq
end Mine
end PPL1

section PGB
open PySem PySem.W PyProof.Rows PySem.Calls
set_option maxRecDepth 100000
set_option maxHeartbeats 4000000
namespace Mine
section
variable {prog : Program} {w : World} {A : Around} {E : Value → Shared → Prop} {s : Shared} {h₀ : Heap} {L : Addr} {m : Str → Option Value} {news : List (Addr × Obj)}

theorem enter {K : Frag} {p : Program} {loose : List Str} {f : Addr} {Q E : Value → Shared → Prop} {mean : ExcName → Option Value} {mg mb : Str → Option Value}
   {name qual : Str} {params : Arguments} {body : List Stmt} {scope : Scope} {dV kV doc pm cdv ct oc : Value} {an od : Option Addr} {osl : Array (Option Value)}
   {args : List Value} {kw : List (Str × Value)} {binds : List (Str × Value)}
   (X : K.In s.heap) (T : Top p loose mean mg mb s.heap)
   (hroom : A.depth < recursionLimit)
   (ho : K.lookup f = some ⟨oc, od, .func (fnOf name qual params body scope dV kV doc pm an cdv ct), osl⟩) (hcd : codeIn K cdv qual = true)
   (hbind : BindsTo s (fnOf name qual params body scope dV kV doc pm an cdv ct) ⟨args, kw⟩ binds) (hloc : ∀ y ∈ binds, scope.names.lookup y.1 = some .local)
   (hcell : ∀ x ∈ scope.names, x.2 ≠ .cell)
   (h : ∀ L h₁, Fr s.heap L h₁ (fun y => binds.reverse.lookup y) → News s.heap L h₁ [] → L = s.heap.objs.size →
      wpAny (model prog w) (A.deeper (envOf qual scope L f cdv)) (execs body (envOf qual scope L f cdv))
        (fun fl s' => Q (match fl with | .ret v => v | _ => .none) s') (fun _ _ => False)
        { s with heap := h₁, toks := s.toks + binds.length })
   (hco : scope.isCoroutine = false) (hgen : scope.isGenerator = false) (hk : scope.kind = .function) :
   wpAny (model prog w) A (call (.ref f) args kw) Q E s := by
  refine wpAny_call (codeAny_call_def (fd := fnOf name qual params body scope dV kV doc pm an cdv ct) (body := body) (binds := binds) hroom (X _ _ ho) rfl T.nolimit (codeRec_of X hcd) rfl hbind hcell hloc (fun h₁ hns hk₁ => ?_) hco hgen hk)
  exact wpAny_mono (h s.heap.objs.size h₁ ⟨hns, hk₁, Nat.le_refl _⟩ News.nil rfl) (fun fl s' hl => hl) fun _ _ y => y.elim

/-- entering a def that writes into one list of its caller's -/
theorem enterM {K : Frag} {p : Program} {loose : List Str} {f : Addr} {Q E : Value → Shared → Prop} {mean : ExcName → Option Value} {mg mb : Str → Option Value} {b₀ : Heap} {a : Addr} {oa : Obj}
   {name qual : Str} {params : Arguments} {body : List Stmt} {scope : Scope} {dV kV doc pm cdv ct oc : Value} {an od : Option Addr} {osl : Array (Option Value)}
   {args : List Value} {kw : List (Str × Value)} {binds : List (Str × Value)}
   (X : K.In b₀) (T : Top p loose mean mg mb b₀) (hb : ∀ b o, b₀.get? b = some o → s.heap.get? b = some o) (ha₀ : b₀.get? a = none) (ha : s.heap.get? a = some oa)
   (hroom : A.depth < recursionLimit)
   (ho : K.lookup f = some ⟨oc, od, .func (fnOf name qual params body scope dV kV doc pm an cdv ct), osl⟩) (hcd : codeIn K cdv qual = true)
   (hbind : BindsTo s (fnOf name qual params body scope dV kV doc pm an cdv ct) ⟨args, kw⟩ binds) (hloc : ∀ y ∈ binds, scope.names.lookup y.1 = some .local)
   (hcell : ∀ x ∈ scope.names, x.2 ≠ .cell)
   (h : ∀ g L h₁, K.In g → Top p loose mean mg mb g → (∀ b o, b ≠ a → s.heap.get? b = some o → g.get? b = some o) → a < L → Fr g L h₁ (fun y => binds.reverse.lookup y) → News g L h₁ [(a, oa)] →
      wpAny (model prog w) (A.deeper (envOf qual scope L f cdv)) (execs body (envOf qual scope L f cdv))
        (fun fl s' => Q (match fl with | .ret v => v | _ => .none) s') (fun _ _ => False)
        { s with heap := h₁, toks := s.toks + binds.length })
   (hco : scope.isCoroutine = false) (hgen : scope.isGenerator = false) (hk : scope.kind = .function) :
   wpAny (model prog w) A (call (.ref f) args kw) Q E s := by
  refine wpAny_call (codeAny_call_def (fd := fnOf name qual params body scope dV kV doc pm an cdv ct) (body := body) (binds := binds) hroom (hb _ _ (X _ _ ho)) rfl (T.nolimit.keeps hb) (codeRec_of (X.keeps hb) hcd) rfl hbind hcell hloc (fun h₁ hns hk₁ => ?_) hco hgen hk)
  have kg : ∀ b o, b ≠ a → s.heap.get? b = some o → (hideAll s.heap [a]).get? b = some o := fun b o hb e => hideAll_get [a] e (by simpa using hb)
  have kb : ∀ b o, b₀.get? b = some o → (hideAll s.heap [a]).get? b = some o := fun b o e => kg b o (by rintro rfl; rw [ha₀] at e; cases e) (hb b o e)
  refine wpAny_mono (h (hideAll s.heap [a]) s.heap.objs.size h₁ (X.keeps kb) (T.keeps kb) kg (Heap.lt_size ha) ⟨hns, fun b o e => hk₁ b o (of_hideAll _ e), Nat.le_of_eq (hideAll_size _ _)⟩ ?_) (fun fl s' hl => hl) fun _ _ y => y.elim
  intro q hq
  rw [List.mem_singleton.mp hq]
  exact ⟨hk₁ _ _ ha, Nat.ne_of_lt (Heap.lt_size ha), hideAll_none _ (List.mem_singleton.mpr rfl)⟩

theorem enterV {K : Frag} {p : Program} {loose : List Str} {f : Addr} {Q E : Value → Shared → Prop} {mean : ExcName → Option Value} {mg mb : Str → Option Value}
   {name qual : Str} {params : Arguments} {body : List Stmt} {scope : Scope} {dV kV doc pm cdv ct oc : Value} {an od : Option Addr} {osl : Array (Option Value)}
   {args vs : List Value} {front : List (Str × Value)} {va : Str}
   (X : K.In s.heap) (T : Top p loose mean mg mb s.heap)
   (hroom : A.depth < recursionLimit)
   (ho : K.lookup f = some ⟨oc, od, .func (fnOf name qual params body scope dV kV doc pm an cdv ct), osl⟩) (hcd : codeIn K cdv qual = true)
   (hbind : bindArgs (fnOf name qual params body scope dV kV doc pm an cdv ct) ⟨args, []⟩ = (newTuple vs >>= fun t => pure (front ++ [(va, t)]))) (hsz : vs.length ≤ sizeLine)
   (hloc : ∀ t, ∀ y ∈ front ++ [(va, t)], scope.names.lookup y.1 = some .local)
   (hcell : ∀ x ∈ scope.names, x.2 ≠ .cell)
   (h : ∀ P L h₁, Fr s.heap L h₁ (fun y => (front ++ [(va, Value.ref P)]).reverse.lookup y) → News s.heap L h₁ [(P, { cls := .type "tuple", data := .seq vs.toArray })] →
      wpAny (model prog w) (A.deeper (envOf qual scope L f cdv)) (execs body (envOf qual scope L f cdv))
        (fun fl s' => Q (match fl with | .ret v => v | _ => .none) s') (fun _ _ => False)
        { s with heap := h₁, toks := s.toks + (front ++ [(va, Value.ref P)]).length })
   (hco : scope.isCoroutine = false) (hgen : scope.isGenerator = false) (hk : scope.kind = .function) :
   wpAny (model prog w) A (call (.ref f) args) Q E s := by
  refine wpAny_call (codeAny_call_function hroom (X _ _ ho) rfl hco hgen rfl (codeRec_of X hcd) ?_)
  rw [hbind]
  refine wpAny_bind (wpAny_newObj_type (wpAny_pure ?_) (by show vs.toArray.size ≤ sizeLine; rw [List.size_toArray]; exact hsz))
  have up : ∀ b o, s.heap.get? b = some o → (s.heap.push { cls := .type "tuple", data := .seq vs.toArray }).get? b = some o := fun b o e => Heap.get?_push_of_some _ e
  refine wpAny_newFunctionEnv hcell (hloc _) (fun h₁ hns hsb => ⟨(T.nolimit.keeps up).fresh _ hsb, codeAny_func ?_⟩) hk
  dsimp only at hns hsb
  have kp : ∀ b o, (s.heap.push { cls := .type "tuple", data := .seq vs.toArray }).get? b = some o → h₁.get? b = some o := fun b o e => hsb.extBut b o (Nat.ne_of_lt (Heap.lt_size e)) (Heap.get?_push_of_some _ e)
  refine wpAny_mono (h s.heap.objs.size _ h₁ ⟨hns, fun b o e => kp b o (up b o e), ?_⟩ ?_) (fun fl s' hl => hl) fun _ _ y => y.elim
  · rw [Heap.size_push]; exact Nat.le_succ _
  · intro q hq
    rw [List.mem_singleton.mp hq]
    refine ⟨kp _ _ (Heap.get?_push_size _ rfl), ?_, Heap.get?_none_of_le (Nat.le_refl _)⟩
    rw [Heap.size_push]
    exact Nat.ne_of_lt (Nat.lt_succ_self _)

/-- a turn's end of a while -/
def WEnd (h₀ : Heap) (L : Addr) (J : Nat → (Str → Option Value) → List (Addr × Obj) → Prop) (n : Nat) (s : Shared) (Q : Flow → Shared → Prop) (f : Flow) (s₃ : Shared) : Prop :=
  match f with
  | .next | .cont => ∃ n' h' tk m' news', n' < n ∧ s₃ = { s with heap := h', toks := tk } ∧ Fr h₀ L h' m' ∧ News h₀ L h' news' ∧ J n' m' news'
  | .brk => Q .next s₃
  | .ret v => Q (.ret v) s₃

theorem while_J {env : Env} {test : PySem.Expr} {body : List Stmt} {pos : Pos} {Q : Flow → Shared → Prop} (J : Nat → (Str → Option Value) → List (Addr × Obj) → Prop) {n : Nat}
    (F : Fr h₀ L s.heap m) (N : News h₀ L s.heap news) (hJ : J n m news)
    (turn : ∀ n h tk m news, J n m news → Fr h₀ L h m → News h₀ L h news →
      wpAny (model prog w) A (isTrue test env (eval test env)) (fun b s₂ =>
        if b = true then wpAny (model prog w) A (execs body env) (WEnd h₀ L J n s Q) (fun _ _ => False) s₂ else Q .next s₂) (fun _ _ => False) { s with heap := h, toks := tk }) :
    wpAny (model prog w) A (exec (.While test body [] pos) env) Q E s := by
  refine wpAny_mono (While_inv2 (E := fun _ _ => False) (Q := Q) J F N hJ (fun n m₁ news₁ h₁ tk₁ F₁ N₁ J₁ => ?_) ?_) (fun _ _ x => x) fun _ _ x => x.elim
  · refine wpAny_mono (turn n h₁ tk₁ m₁ news₁ J₁ F₁ N₁) (fun b s₂ hb => ?_) fun _ _ e => e
    cases b with
    | false => exact hb
    | true =>
      refine wpAny_mono hb (fun f s₃ hf => ?_) fun _ _ e => e
      cases f with
      | next => obtain ⟨n', h', tk, m', news', a, b, c, d, e⟩ := hf; exact ⟨h', tk, m', news', n', b, c, d, a, e⟩
      | cont => obtain ⟨n', h', tk, m', news', a, b, c, d, e⟩ := hf; exact ⟨h', tk, m', news', n', b, c, d, a, e⟩
      | brk => exact hf
      | ret v => exact hf
  · intro e s' x; exact x.elim


/-- a turn's end of a for -/
def FEnd (h₀ : Heap) (L : Addr) (J : Nat → (Str → Option Value) → List (Addr × Obj) → Prop) (i : Nat) (I : Addr) (oI : Obj) (s : Shared) (Q : Flow → Shared → Prop) (f : Flow) (s₃ : Shared) : Prop :=
  match f with
  | .next | .cont => ∃ h' tk m' news', s₃ = { s with heap := h', toks := tk } ∧ Fr h₀ L h' m' ∧ News h₀ L h' ((I, oI) :: news') ∧ (∀ p ∈ news', p.1 ≠ I) ∧ J i m' news'
  | .brk => Q .next s₃
  | .ret v => Q (.ret v) s₃

theorem for_walk {env : Env} {target : PySem.Expr} {body : List Stmt} {Q : Flow → Shared → Prop} {R : Result → Shared → Prop} {I : Addr} {fp : List Addr} {n : Nat} {P : Nat → Value → Prop} {St : Nat → Heap → Prop} {S : List (Addr × Obj) → Prop}
    (W : Walks prog w A I fp [I] n P St) (hIo : ∀ i h, St i h → ∃ o, h.get? I = some o)
    (hSt : ∀ i h h' o nw, St i h → h.get? I = some o → h'.get? I = some o → (∀ b o, h₀.get? b = some o → h'.get? b = some o) → News h₀ L h' nw → S nw → St i h')
    (J : Nat → (Str → Option Value) → List (Addr × Obj) → Prop) (hJS : ∀ i m news, J i m news → S news)
    (hlet : ∀ i (s : Shared) (v : Value) (Q : Unit → Shared → Prop) (E : Value → Shared → Prop), St i s.heap → Q () s → wpAny (model prog w) A (letOwnedTupleGo target (.ref I) v) Q E s)
    (F : Fr h₀ L s.heap m) (N : News h₀ L s.heap news) (hJ : J 0 m news) (hIL : L ≠ I) (hI₀ : h₀.get? I = none) (off : ∀ p ∈ news, p.1 ≠ I) (hst : St 0 s.heap)
    (turn : ∀ i v oI h tk m news, i < n → P i v → J i m news → Fr h₀ L h m → News h₀ L h ((I, oI) :: news) → (∀ p ∈ news, p.1 ≠ I) →
      wpAny (model prog w) A (assign target env v) (fun _ s₂ => wpAny (model prog w) A (execs body env) (FEnd h₀ L J (i + 1) I oI s Q) (fun _ _ => False) s₂) (fun _ _ => False) { s with heap := h, toks := tk })
    (done : ∀ h tk m news, J n m news → Fr h₀ L h m → News h₀ L h news → Q .next { s with heap := h, toks := tk })
    (hR : ∀ f s', Q f s' → R (.ok f) s') :
    codeAny (model prog w) A (.forLoop target (.ref I) body [] env) R s := by
  refine codeAny_forLoop_any (fun k s' => ∃ i h tk m news, k = n + 1 - i ∧ i ≤ n ∧ s' = { s with heap := h, toks := tk } ∧ Fr h₀ L h m ∧ News h₀ L h news ∧ (∀ p ∈ news, p.1 ≠ I) ∧ St i h ∧ J i m news) ?_ (n + 1) ⟨0, s.heap, s.toks, m, news, rfl, Nat.zero_le _, rfl, F, N, off, hst, hJ⟩
  rintro k s' ⟨i, h, tk, m, news, rfl, hi, rfl, F, N, off, hst, hJ⟩
  by_cases hlt : i < n
  · refine W.item i _ _ _ hlt hst fun v h₁ tk₁ hP hst₁ hk₁ => ?_
    obtain ⟨oI, hoI⟩ := hIo _ _ hst₁
    have F₁ : Fr h₀ L h₁ m := LCg.fr_but F hk₁ hIL hI₀
    have N₁ : News h₀ L h₁ ((I, oI) :: news) := fun p hp => by
      rcases List.mem_cons.mp hp with rfl | hp
      · exact ⟨hoI, Ne.symm hIL, hI₀⟩
      · exact LCg.news_but N hk₁ off p hp
    refine hlet (i + 1) _ v _ _ hst₁ ?_
    refine wpAny_mono (turn i v oI h₁ tk₁ m news hlt hP hJ F₁ N₁ off) (fun _ s₂ h₂ => ?_) fun _ _ e => e.elim
    refine wpAny_mono h₂ (fun f s₃ hf => ?_) fun _ _ e => e.elim
    have go : (∃ h' tk m' news', s₃ = { s with heap := h', toks := tk } ∧ Fr h₀ L h' m' ∧ News h₀ L h' ((I, oI) :: news') ∧ (∀ p ∈ news', p.1 ≠ I) ∧ J (i + 1) m' news') →
        ∃ k, k < n + 1 - i ∧ ∃ i h tk m news, k = n + 1 - i ∧ i ≤ n ∧ s₃ = { s with heap := h, toks := tk } ∧ Fr h₀ L h m ∧ News h₀ L h news ∧ (∀ p ∈ news, p.1 ≠ I) ∧ St i h ∧ J i m news := by
      rintro ⟨h', tk', m', news', rfl, F', N', off', hJ'⟩
      have N'' : News h₀ L h' news' := fun p hp => N' p (List.mem_cons_of_mem _ hp)
      exact ⟨n + 1 - (i + 1), by omega, i + 1, h', tk', m', news', rfl, hlt, rfl, F', N'', off', hSt _ _ _ _ _ hst₁ hoI (N' _ List.mem_cons_self).1 F'.keep N'' (hJS _ _ _ hJ'), hJ'⟩
    cases f with
    | next => exact go hf
    | cont => exact go hf
    | brk => exact hR _ _ hf
    | ret v => exact hR _ _ hf
  · obtain rfl : i = n := Nat.le_antisymm hi (Nat.not_lt.mp hlt)
    refine W.done _ _ _ hst fun h₁ tk₁ hk₁ => ?_
    exact wpAny_execs_nil (hR _ _ (done h₁ tk₁ m news hJ (LCg.fr_but F hk₁ hIL hI₀) (LCg.news_but N hk₁ off)))

theorem let_list {target : PySem.Expr} {I ax : Addr} {its : Array Value} : ∀ i (s : Shared) (v : Value) (Q : Unit → Shared → Prop) (E : Value → Shared → Prop), (s.heap.IsListIter I ax i ∧ s.heap.IsList ax its) → Q () s → wpAny (model prog w) A (letOwnedTupleGo target (.ref I) v) Q E s := by
  intro i s v Q E st h
  obtain ⟨o, ho, hc, hd⟩ := st.1
  have key : ∀ a : Addr, wpAny (model prog w) A (do
      let o ← load I
      match o.cls, o.data with
      | .type n, .fields vs =>
        if ["enumerate", "zip", "dict_itemiterator", "dict_reverseitemiterator", "odict_iterator", "itertools.zip_longest", "itertools.pairwise"].contains n && vs[0]? == some (rawInt a) then
          rule "for.unpacks-the-owned-tuple"
          updateField I 0 .none
      | _, _ => pure ()) Q E s := by
    intro a
    refine wpAny_bind (wpAny_load ho ?_)
    rw [hc, hd]
    exact wpAny_pure h
  cases target <;> first | exact wpAny_pure h | (cases v <;> first | exact wpAny_pure h | exact key _)

/-- for x in a list (target any) -/
theorem for_list {env : Env} {target : PySem.Expr} {body : List Stmt} {Q : Flow → Shared → Prop} {ax : Addr} {its : Array Value} (hh : A.handled = none)
    (J : Nat → (Str → Option Value) → List (Addr × Obj) → Prop) (hJS : ∀ i m news, J i m news → LCg.SrcAt h₀ ax its news)
    (F : Fr h₀ L s.heap m) (N : News h₀ L s.heap news) (hJ : J 0 m news)
    (turn : ∀ i v oI h tk m news, its[i]? = some v → J i m news → Fr h₀ L h m → News h₀ L h ((s.heap.objs.size, oI) :: news) → (∀ p ∈ news, p.1 ≠ s.heap.objs.size) →
      wpAny (model prog w) A (assign target env v) (fun _ s₂ => wpAny (model prog w) A (execs body env) (FEnd h₀ L J (i + 1) s.heap.objs.size oI s Q) (fun _ _ => False) s₂) (fun _ _ => False) { s with heap := h, toks := tk })
    (done : ∀ h tk m news, J its.size m news → Fr h₀ L h m → News h₀ L h news → Q .next { s with heap := h, toks := tk }) :
    wpAny (model prog w) A (pyIter (.ref ax)) (fun it s₂ => codeAny (model prog w) A (.forLoop target it body [] env) (fun r s' => match r with | .ok f => Q f s' | .error e => cameBackBy (model prog w) A env E e s') s₂) E s := by
  have hl : s.heap.IsList ax its := (hJS _ _ _ hJ).list F.keep N
  have hlt : ax < s.heap.objs.size := by obtain ⟨_, e, _⟩ := hl; exact Heap.lt_size e
  refine wpAny_pyIter_list hl ?_
  have up : ∀ b o, s.heap.get? b = some o → (s.heap.push { cls := .type "list_iterator", data := .fields #[.ref ax, .int 0 0] }).get? b = some o := fun b o e => Heap.get?_push_of_some _ e
  refine for_walk (Q := Q) (Walks.list hh s.heap.objs.size ax (Nat.ne_of_lt hlt) its) (fun i h st => by obtain ⟨o, e, _⟩ := st.1; exact ⟨o, e⟩) LCg.list_st J hJS let_list (F.keeps up) (N.grown up) hJ (Nat.ne_of_lt F.ns.lt) (next_is_new F) (fun p hp => Nat.ne_of_lt (Heap.lt_size (N p hp).1)) ⟨⟨_, Heap.get?_push_size _ rfl, rfl, rfl⟩, hl.push _⟩ ?_ ?_ (fun f s' h => h)
  · intro i v oI h tk m news _ hP hJ F N off
    exact turn i v oI h tk m news hP hJ F N off
  · intro h tk m news hJ F N
    exact done h tk m news hJ F N

/-- for x in range (up by ones) -/
theorem for_range {env : Env} {x : Str} {px : Pos} {body : List Stmt} {Q : Flow → Shared → Prop} {r : Addr} {a b : Int} {t u v : Tok} {n : Nat} (hh : A.handled = none)
    (J : Nat → (Str → Option Value) → List (Addr × Obj) → Prop)
    (hr : IsRange s.heap r a b 1 t u v) (hsm : Builtin.Range.small a b 1 = true) (hn : Builtin.Range.rangeSize a b 1 = ((n : Nat) : Int))
    (F : Fr h₀ L s.heap m) (N : News h₀ L s.heap news) (hJ : J 0 m news)
    (turn : ∀ i (t : Tok) oI h tk m news, i < n → J i m news → Fr h₀ L h m → News h₀ L h ((s.heap.objs.size, oI) :: news) → (∀ p ∈ news, p.1 ≠ s.heap.objs.size) →
      wpAny (model prog w) A (assign (.Name x px) env (.int (a + (i : Int)) t)) (fun _ s₂ => wpAny (model prog w) A (execs body env) (FEnd h₀ L J (i + 1) s.heap.objs.size oI s Q) (fun _ _ => False) s₂) (fun _ _ => False) { s with heap := h, toks := tk })
    (done : ∀ h tk m news, J n m news → Fr h₀ L h m → News h₀ L h news → Q .next { s with heap := h, toks := tk }) :
    wpAny (model prog w) A (pyIter (.ref r)) (fun it s₂ => codeAny (model prog w) A (.forLoop (.Name x px) it body [] env) (fun r s' => match r with | .ok f => Q f s' | .error e => cameBackBy (model prog w) A env E e s') s₂) E s := by
  refine wpAny_pyIter_range hr hsm ?_
  refine for_walk (Q := Q) (S := fun _ => True) (LCg.range_walks hh a n) (fun i h st => ⟨_, st⟩) LCg.range_st J (fun _ _ _ _ => trivial) (fun _ _ _ _ _ _ h => wpAny_pure h) (F.keeps fun _ _ e => Heap.get?_push_of_some _ e) (N.grown fun _ _ e => Heap.get?_push_of_some _ e) hJ (Nat.ne_of_lt F.ns.lt) (next_is_new F) (fun p hp => Nat.ne_of_lt (Heap.lt_size (N p hp).1)) (by show IsRangeIter _ _ _ _ _; rw [hn]; simpa using Heap.get?_push_size _ rfl) ?_ ?_ (fun f s' h => h)
  · rintro i v oI h tk m news hi ⟨t, rfl⟩ hJ F N off
    exact turn i t oI h tk m news hi hJ F N off
  · intro h tk m news hJ F N
    exact done h tk m news hJ F N
end
theorem split_len (x y : Str) : (Txt.split x y).length ≤ x.length + 2 := split_le x y
theorem sum_le {B : Nat} : ∀ (l : List Str), (∀ a ∈ l, a.length ≤ B) → (l.map (·.length)).sum ≤ l.length * B
  | [], _ => Nat.zero_le _
  | x :: r, h => by
    have h1 := sum_le r fun a ha => h a (List.mem_cons_of_mem _ ha)
    have h2 := h x List.mem_cons_self
    simp only [List.map_cons, List.sum_cons, List.length_cons, Nat.succ_mul]
    omega
theorem tsub0 {prog : Program} {w : World} {A : Around} {E : Value → Shared → Prop} {s : Shared} {h₀ : Heap} {L : Addr} {news : List (Addr × Obj)} {value slice : PySem.Expr} {P : Addr} {v0 : Value} {r : List Value} {k : Nat} {u : Tok} {Q : Value → Shared → Prop}
    (N : News h₀ L s.heap news) (hm : (P, ({ cls := .type "tuple", data := .seq (v0 :: r).toArray k } : Obj)) ∈ news) (h : Q v0 s)
    (hs : subscripted slice false (.ref P) (.int 0 u) = operate [.ref P, .int 0 u] (getItem (.ref P) (.int 0 u)) := by with_unfolding_all rfl) :
    wpAny (model prog w) A (subscriptTail value slice (.ref P) (.int 0 u)) Q E s :=
  item_tupleT (l := v0 :: r) (j := 0) ⟨_, (N _ hm).1, rfl, _, rfl⟩ (by decide) (by decide) (by simp [seqIndex?]) rfl h hs
theorem tsub1 {prog : Program} {w : World} {A : Around} {E : Value → Shared → Prop} {s : Shared} {h₀ : Heap} {L : Addr} {news : List (Addr × Obj)} {value slice : PySem.Expr} {P : Addr} {v0 v1 : Value} {r : List Value} {k : Nat} {u : Tok} {Q : Value → Shared → Prop}
    (N : News h₀ L s.heap news) (hm : (P, ({ cls := .type "tuple", data := .seq (v0 :: v1 :: r).toArray k } : Obj)) ∈ news) (h : Q v1 s)
    (hs : subscripted slice false (.ref P) (.int 1 u) = operate [.ref P, .int 1 u] (getItem (.ref P) (.int 1 u)) := by with_unfolding_all rfl) :
    wpAny (model prog w) A (subscriptTail value slice (.ref P) (.int 1 u)) Q E s :=
  item_tupleT (l := v0 :: v1 :: r) (j := 1) ⟨_, (N _ hm).1, rfl, _, rfl⟩ (by decide) (by decide) (by simp [seqIndex?]; omega) rfl h hs
end Mine
end PGB

section PGC
open PySem PySem.W PyProof.Rows PySem.Calls
set_option maxRecDepth 100000
set_option maxHeartbeats 4000000
namespace Mine

/-- a mark: the walk halts here -/
def Stop (P : Prop) : Prop := P

inductive All2 {α : Type} (V : α → Value → Prop) : List α → List Value → Prop
  | nil : All2 V [] []
  | cons {x y xs ys} : V x y → All2 V xs ys → All2 V (x :: xs) (y :: ys)
theorem All2.snoc {α : Type} {V : α → Value → Prop} {xs : List α} {ys : List Value} {x : α} {y : Value} (h : All2 V xs ys) (v : V x y) : All2 V (xs ++ [x]) (ys ++ [y]) := by
  induction h with
  | nil => exact .cons v .nil
  | cons a _ ih => exact .cons a ih
theorem All2.length {α : Type} {V : α → Value → Prop} {xs : List α} {ys : List Value} (h : All2 V xs ys) : ys.length = xs.length := by
  induction h with
  | nil => rfl
  | cons _ _ ih => simp [ih]
theorem All2.ints {xs : List Int} {ys : List Value} (h : All2 (fun x v => ∃ t, v = Value.int x t) xs ys) : IntsAre ys xs := by
  induction h with
  | nil => exact .nil
  | cons a _ ih => obtain ⟨t, rfl⟩ := a; exact .cons _ t ih
theorem All2.strs {xs : List Str} {ys : List Value} (h : All2 (fun x v => ∃ t, v = Value.str x t) xs ys) : StrsAre ys xs := by
  induction h with
  | nil => exact .nil
  | cons a _ ih => obtain ⟨t, rfl⟩ := a; exact .cons _ t ih

section
variable {prog : Program} {w : World} {A : Around} {E : Value → Shared → Prop} {s : Shared}

theorem compLoop_any {R : Result → Shared → Prop} {elt target iter : PySem.Expr} {ifs : List PySem.Expr} {scope : Scope} {pos : Pos} {it acc : Value} {env : Env} (I : Nat → Shared → Prop)
    (turn : ∀ n s, I n s → wpAny (model prog w) A (pyNext it) (fun r s₁ => match r with
      | none => R (.ok .next) s₁
      | some v => wpAny (model prog w) A (letOwnedTupleGo target it v) (fun _ s₁' => wpAny (model prog w) A (assign target env v) (fun _ s₂ =>
          wpAny (model prog w) A (forIn ifs true fun c r => if r = true then do let ok ← isTrue c env (eval c env); pure (ForInStep.yield ok) else pure (ForInStep.yield r)) (fun ok s₃ =>
            if ok = true then wpAny (model prog w) A (eval elt env) (fun x s₄ =>
              wpAny (model prog w) A (call (.builtin "list.append") [acc, x]) (fun _ s₅ => ∃ m, m < n ∧ I m s₅) (fun _ _ => False) s₄) (fun _ _ => False) s₃
            else ∃ m, m < n ∧ I m s₃) (fun _ _ => False) s₂) (fun _ _ => False) s₁') (fun _ _ => False) s₁) (fun _ _ => False) s)
    (n : Nat) (h : I n s) :
    codeAny (model prog w) A (.compLoop (.ListComp elt [⟨target, iter, ifs, 0⟩] scope pos) 0 it acc env) R s := by
  refine codeAny_loop rfl I (fun n s hI => ?_) n h
  show wpAny _ A ((compTurn (.ListComp elt [⟨target, iter, ifs, 0⟩] scope pos) 0 it acc env).onRaise (fun x => do noteFrame x env; theTreesLotGoes x)) _ _ s
  refine wpAny_noted ?_
  rw [compTurn_list]
  refine wpAny_mono (E := fun _ _ => False) ?_ (fun _ _ x => x) fun _ _ x => x.elim
  refine wpAny_bind (wpAny_standAt (wpAny_bind (wpAny_mono (turn n s hI) (fun r s₁ h₁ => ?_) fun _ _ h' => h')))
  cases r with
  | none => exact wpAny_pure h₁
  | some v =>
    refine wpAny_bind (wpAny_mono h₁ (fun _ s₁' h₁' => ?_) fun _ _ h' => h')
    refine wpAny_bind (wpAny_mono h₁' (fun _ s₂ h₂ => wpAny_bind (wpAny_mono h₂ (fun ok s₃ h₃ => ?_) fun _ _ h' => h')) fun _ _ h' => h')
    cases ok with
    | false => 
      simp only [Bool.false_eq_true, if_false] at h₃ ⊢
      first | exact wpAny_pure ⟨rfl, h₃⟩ | exact wpAny_bind (wpAny_pure (wpAny_pure ⟨rfl, h₃⟩))
    | true =>
      simp only [if_true] at h₃ ⊢
      first
        | exact wpAny_bind (wpAny_mono h₃ (fun x s₄ h₄ => wpAny_bind (wpAny_mono h₄ (fun _ s₅ h₅ => wpAny_pure ⟨rfl, h₅⟩) fun _ _ h' => h')) fun _ _ h' => h')
        | exact wpAny_bind (wpAny_bind (wpAny_mono h₃ (fun x s₄ h₄ => wpAny_bind (wpAny_mono h₄ (fun _ s₅ h₅ => wpAny_pure (wpAny_pure ⟨rfl, h₅⟩)) fun _ _ h' => h')) fun _ _ h' => h'))

/-- the end of a comprehension's turn: base and iterator and list as they were -/
def CEnd (b : Heap) (C I : Addr) (oI : Obj) (D : Addr) (oD : Obj) (s₂ s₄ : Shared) : Prop :=
  ∃ h' tk m', s₄ = { s₂ with heap := h', toks := tk } ∧ Fr b C h' m' ∧ News b C h' [(I, oI), (D, oD)]

theorem comp_block {α : Type} {V : α → Value → Prop} {f : Nat → Option α} {elt target iter : PySem.Expr} {ifs : List PySem.Expr} {scope : Scope} {cl : List (Str × Addr)} {pos : Pos} {env : Env} {s₂ : Shared} {b : Heap} {I : Addr} {fp : List Addr} {n : Nat} {P : Nat → Value → Prop} {St : Nat → Heap → Prop}
    {RR : Value → Addr → Result → Shared → Prop}
    (W : Walks prog w A I fp [I] n P St) (hsz : n ≤ 100000) (hIo : ∀ i h, St i h → ∃ o, h.get? I = some o)
    (hSt : ∀ i h h' o, St i h → h.get? I = some o → h'.get? I = some o → (∀ x o, b.get? x = some o → h'.get? x = some o) → St i h')
    (hlet : ∀ i (s : Shared) (v : Value) (Q : Unit → Shared → Prop) (E : Value → Shared → Prop), St i s.heap → Q () s → wpAny (model prog w) A (letOwnedTupleGo target (.ref I) v) Q E s)
    (hcell : ∀ y ∈ scope.names, y.2 ≠ .cell) (hkind : scope.kind = .function) (hst : St 0 s₂.heap)
    (hb : ∀ x o, b.get? x = some o → s₂.heap.get? x = some o) (hbs : b.objs.size ≤ s₂.heap.objs.size) (hI₀ : b.get? I = none) (hIs : I < s₂.heap.objs.size) (hfp : ∀ x ∈ fp, x < s₂.heap.objs.size)
    (turn : ∀ i v C oI D oD h tk m, i < n → P i v → Fr b C h m → News b C h [(I, oI), (D, oD)] →
      wpAny (model prog w) A (assign target (compEnvC scope cl C env) v) (fun _ s₃ =>
        wpAny (model prog w) A (forIn ifs true fun c r => if r = true then do let ok ← isTrue c (compEnvC scope cl C env) (eval c (compEnvC scope cl C env)); pure (ForInStep.yield ok) else pure (ForInStep.yield r)) (fun ok s₄ =>
          if ok = true then wpAny (model prog w) A (eval elt (compEnvC scope cl C env)) (fun y s₅ => CEnd b C I oI D oD s₂ s₅ ∧ ∃ x, f i = some x ∧ V x y) (fun _ _ => False) s₄
          else CEnd b C I oI D oD s₂ s₄ ∧ f i = none) (fun _ _ => False) s₃) (fun _ _ => False) { s₂ with heap := h, toks := tk })
    (fin : ∀ D C h tk m' ys, (∀ x o, b.get? x = some o → h.get? x = some o) → h.get? D = some (LCg.lst ys) → b.get? D = none → b.get? C = none → D ≠ C → h.Ns C m' → All2 V ((List.range n).filterMap f) ys →
      RR (.ref D) C (.ok .next) { s₂ with heap := h, toks := tk }) :
    wpAny (model prog w) A (newList []) (fun acc s₃ => wpAny (model prog w) A (newFunctionEnv scope env.globals cl [] env.qual none .none (some env)) (fun cenv s₄ =>
      codeAny (model prog w) A (.compStart (.ListComp elt [⟨target, iter, ifs, 0⟩] scope pos) 0 (.ref I) acc { cenv with scope := relabel scope env }) (RR acc cenv.locals) s₄) E s₃) E s₂ := by
  refine wpAny_newObj_type (wpAny_newFunctionEnv hcell (by intro y hy; simp at hy) (fun h₁ hns₁ hsb₁ => ?_) hkind)
  dsimp only at hns₁ hsb₁ ⊢
  generalize hH2 : s₂.heap.push { cls := .type "list", dict := none, data := .seq ([] : List Value).toArray } = H2 at hns₁ hsb₁ ⊢
  have hC : H2.objs.size = s₂.heap.objs.size + 1 := by rw [← hH2, Heap.size_push]
  have hDC : s₂.heap.objs.size ≠ H2.objs.size := by rw [hC]; exact Nat.ne_of_lt (Nat.lt_succ_self _)
  have below : ∀ x, x < s₂.heap.objs.size → x ≠ H2.objs.size ∧ x ≠ s₂.heap.objs.size := fun x hx => ⟨by rw [hC]; exact Nat.ne_of_lt (Nat.lt_succ_of_lt hx), Nat.ne_of_lt hx⟩
  have old : ∀ x o, s₂.heap.get? x = some o → h₁.get? x = some o := fun x o e => hsb₁.extBut x o (below x (Heap.lt_size e)).1 (Heap.get?_push_of_some _ (hH2 ▸ Heap.get?_push_of_some _ e))
  have hacc : h₁.get? s₂.heap.objs.size = some (LCg.lst []) := hsb₁.extBut _ _ hDC (Heap.get?_push_of_some _ (hH2 ▸ Heap.get?_push_size _ rfl))
  have hst₁ : St 0 h₁ := W.frame _ _ _ hst fun x _ o e => old x o e
  have fresh : ∀ a, s₂.heap.objs.size ≤ a → b.get? a = none := fun a ha => Heap.get?_none_of_le (Nat.le_trans hbs ha)
  have hD₀ : b.get? s₂.heap.objs.size = none := fresh _ (Nat.le_refl _)
  have hC₀ : b.get? H2.objs.size = none := fresh _ (by rw [hC]; exact Nat.le_succ _)
  have hCI : I ≠ H2.objs.size := (below I hIs).1
  have hDI : I ≠ s₂.heap.objs.size := (below I hIs).2
  have hDf : s₂.heap.objs.size ∉ fp := fun hm => Nat.lt_irrefl _ (hfp _ hm)
  have habove : b.objs.size ≤ H2.objs.size := by rw [hC]; exact Nat.le_succ_of_le hbs
  have loop : ∀ s₃ : Shared, s₃ = { s₂ with heap := h₁, toks := s₂.toks + ([] : List (Str × Value)).length } →
      codeAny (model prog w) A (.compLoop (.ListComp elt [⟨target, iter, ifs, 0⟩] scope pos) 0 (.ref I) (.ref s₂.heap.objs.size) (compEnvC scope cl H2.objs.size env))
        (RR (.ref s₂.heap.objs.size) H2.objs.size) s₃ := by
    rintro s₃ rfl
    refine compLoop_any (fun k s' => ∃ h' tk i ys m', s' = { s₂ with heap := h', toks := tk } ∧ i ≤ n ∧ k = n + 1 - i ∧ St i h' ∧ Fr b H2.objs.size h' m' ∧ h'.get? s₂.heap.objs.size = some (LCg.lst ys) ∧ All2 V ((List.range i).filterMap f) ys) ?_ (n + 1)
      ⟨h₁, _, 0, [], _, rfl, Nat.zero_le _, rfl, hst₁, ⟨hns₁, fun x o e => old x o (hb x o e), habove⟩, hacc, .nil⟩
    rintro k s' ⟨h', tk, i, ys, m', rfl, hi, rfl, hst', F', hD', hV⟩
    by_cases hlt : i < n
    · refine W.item i _ _ _ hlt hst' fun v h₂ tk₂ hPv hst₂ hk₂ => ?_
      refine hlet (i + 1) _ v _ _ hst₂ ?_
      obtain ⟨oI, heI⟩ := hIo _ _ hst₂
      have F₂ : Fr b H2.objs.size h₂ m' := LCg.fr_but F' hk₂ (Ne.symm hCI) hI₀
      have N₂ : News b H2.objs.size h₂ [(I, oI), (s₂.heap.objs.size, LCg.lst ys)] := fun p hp => by
        rcases List.mem_cons.mp hp with rfl | hp
        · exact ⟨heI, hCI, hI₀⟩
        · rw [List.mem_singleton.mp hp]
          exact ⟨hk₂ _ _ (by simpa using Ne.symm hDI) hD', hDC, hD₀⟩
      have hlen : ys.length ≤ n := by
        rw [hV.length]
        exact Nat.le_trans (List.length_filterMap_le ..) (by rw [List.length_range]; omega)
      refine wpAny_mono (turn i v H2.objs.size oI s₂.heap.objs.size (LCg.lst ys) h₂ tk₂ m' hlt hPv F₂ N₂) (fun _ s₃ h₃ => ?_) fun _ _ e => e
      refine wpAny_mono h₃ (fun ok s₄ h₄ => ?_) fun _ _ e => e
      have hrange : (List.range (i + 1)).filterMap f = (List.range i).filterMap f ++ (f i).toList := by
        rw [List.range_succ, List.filterMap_append]
        rw [List.filterMap_cons, List.filterMap_nil]
        cases f i <;> rfl
      cases ok with
      | false =>
        simp only [Bool.false_eq_true, if_false] at h₄ ⊢
        obtain ⟨⟨h₅, tk₅, m₅, rfl, F₅, N₅⟩, hn⟩ := h₄
        refine ⟨n + 1 - (i + 1), by omega, h₅, tk₅, i + 1, ys, m₅, rfl, hlt, rfl, hSt _ _ _ _ hst₂ heI (N₅ _ (List.Mem.head _)).1 F₅.keep, F₅, (N₅ _ (List.Mem.tail _ (List.Mem.head _))).1, ?_⟩
        rw [hrange, hn]
        simpa using hV
      | true =>
        simp only [if_true] at h₄ ⊢
        refine wpAny_mono h₄ (fun y s₅ h₅ => ?_) fun _ _ e => e
        obtain ⟨⟨h₅, tk₅, m₅, rfl, F₅, N₅⟩, x, hx, hv⟩ := h₅
        have zI := (N₅ _ (List.Mem.head _)).1
        have zD := (N₅ _ (List.Mem.tail _ (List.Mem.head _))).1
        have hst₅ : St (i + 1) h₅ := hSt _ _ _ _ hst₂ heI zI F₅.keep
        refine append_at (hsz := by show ys.toArray.size ≤ sizeLine; rw [List.size_toArray, sizeLine_eq]; omega) zD fun h₆ hs₆ hD₆ => ?_
        refine ⟨n + 1 - (i + 1), by omega, h₆, tk₅, i + 1, ys ++ [y], m₅, rfl, hlt, rfl, W.frame _ _ _ hst₅ fun x hx o e => hs₆.extBut x o (fun q => hDf (q ▸ hx)) e, F₅.change hs₆ hDC hD₀, hD₆.trans (congrArg some (LCg.lst_snoc ys y)), ?_⟩
        rw [hrange, hx]
        exact hV.snoc hv
    · obtain rfl : i = n := Nat.le_antisymm hi (Nat.not_lt.mp hlt)
      refine W.done _ _ _ hst' fun h₂ tk₂ hk₂ => ?_
      have F₂ : Fr b H2.objs.size h₂ m' := LCg.fr_but F' hk₂ (Ne.symm hCI) hI₀
      exact fin _ _ h₂ tk₂ m' ys F₂.keep (hk₂ _ _ (by simpa using Ne.symm hDI) hD') hD₀ hC₀ hDC F₂.ns hV
  exact codeAny_compStart_list (loop _ rfl) (W.self 0 _ _ _ hst₁ (loop _ rfl))

/-- what a turn of a comprehension has to show -/
def CTurn (prog : Program) (w : World) (A : Around) {α : Type} (V : α → Value → Prop) (f : Nat → Option α) (elt target : PySem.Expr) (ifs : List PySem.Expr) (scope : Scope) (cl : List (Str × Addr)) (env : Env) (P : Nat → Value → Prop) (s₁ : Shared) : Prop :=
  ∀ i v C I oI D oD h tk m, P i v → Fr s₁.heap C h m → News s₁.heap C h [(I, oI), (D, oD)] →
      wpAny (model prog w) A (assign target (compEnvC scope cl C env) v) (fun _ s₃ =>
        wpAny (model prog w) A (forIn ifs true fun c r => if r = true then do let ok ← isTrue c (compEnvC scope cl C env) (eval c (compEnvC scope cl C env)); pure (ForInStep.yield ok) else pure (ForInStep.yield r)) (fun ok s₄ =>
          if ok = true then wpAny (model prog w) A (eval elt (compEnvC scope cl C env)) (fun y s₅ => Stop (CEnd s₁.heap C I oI D oD s₁ s₅ ∧ ∃ x, f i = some x ∧ V x y)) (fun _ _ => False) s₄
          else Stop (CEnd s₁.heap C I oI D oD s₁ s₄ ∧ f i = none)) (fun _ _ => False) s₃) (fun _ _ => False) { s₁ with heap := h, toks := tk }

theorem comp_list_core {α : Type} {V : α → Value → Prop} {f : Nat → Option α} {elt target iter : PySem.Expr} {ifs : List PySem.Expr} {scope : Scope} {cl : List (Str × Addr)} {pos pos' : Pos} {env : Env} {use : Option (Value → Sem Unit)} {Q : Value → Shared → Prop} (hh : A.handled = none)
    (hclos : closureFor scope env = pure cl) (hcell : ∀ y ∈ scope.names, y.2 ≠ .cell) (hkind : scope.kind = .function)
    (hnames : ∀ y ∈ scope.names, y.2 = .local → scope.names.lookup y.1 = some .local)
    (h : wpAny (model prog w) A (eval iter env) (fun xv s₁ => ∃ ax its, xv = .ref ax ∧ s₁.heap.IsList ax its ∧ its.size ≤ 100000 ∧
      CTurn prog w A V f elt target ifs scope cl env (fun i v => its[i]? = some v) s₁ ∧
      (∀ D C h tk m' ys, (∀ x o, s₁.heap.get? x = some o → h.get? x = some o) → h.get? D = some (LCg.lst ys) → s₁.heap.get? D = none → s₁.heap.get? C = none → D ≠ C → h.Ns C m' → All2 V ((List.range its.size).filterMap f) ys →
        compPost (model prog w) A E use Q (.ref D) C (.ok .next) { s₁ with heap := h, toks := tk })) E s)
    (hs : ∀ x, foldedSetIterable iter env x = pure x) :
    wpAny (model prog w) A (comprehension (.ListComp elt [⟨target, iter, ifs, 0⟩] scope pos) scope env pos' (newList []) false (eval iter env) use) Q E s := by
  refine wpAny_comprehension_free rfl hs hclos hkind hnames (wpAny_mono h (fun xv s₁ h₁ => ?_) fun _ _ e => e)
  obtain ⟨ax, its, rfl, hl, hsz, turn, fin⟩ := h₁
  have hlt : ax < s₁.heap.objs.size := by obtain ⟨_, e, _⟩ := hl; exact Heap.lt_size e
  refine wpAny_pyIter_list hl ?_
  have up : ∀ b o, s₁.heap.get? b = some o → (s₁.heap.push { cls := .type "list_iterator", data := .fields #[.ref ax, .int 0 0] }).get? b = some o := fun b o e => Heap.get?_push_of_some _ e
  refine comp_block (b := s₁.heap) (V := V) (f := f) (Walks.list hh s₁.heap.objs.size ax (Nat.ne_of_lt hlt) its) hsz (fun i h st => by obtain ⟨o, e, _⟩ := st.1; exact ⟨o, e⟩) ?_ let_list hcell hkind ⟨⟨_, Heap.get?_push_size _ rfl, rfl, rfl⟩, hl.push _⟩ up ?_ (Heap.get?_none_of_le (Nat.le_refl _)) ?_ ?_ ?_ ?_
  · intro i h h' o st e e' k
    exact ⟨by obtain ⟨o', q, r⟩ := st.1; rw [e] at q; cases q; exact ⟨o, e', r⟩, hl.at fun o q => k _ _ q⟩
  · show _ ≤ (s₁.heap.push _).objs.size
    rw [Heap.size_push]; exact Nat.le_succ _
  · show _ < (s₁.heap.push _).objs.size
    rw [Heap.size_push]; exact Nat.lt_succ_self _
  · intro x hx
    show x < (s₁.heap.push _).objs.size
    rw [Heap.size_push]
    rcases List.mem_cons.mp hx with rfl | hx
    · exact Nat.lt_succ_self _
    · rw [List.mem_singleton.mp hx]; exact Nat.lt_succ_of_lt hlt
  · intro i v C oI D oD h tk m _ hP F N
    exact turn i v C _ oI D oD h tk m hP F N
  · intro D C h tk m' ys k1 k2 k3 k4 k5 k6 k7
    exact fin D C h tk m' ys k1 k2 k3 k4 k5 k6 k7

theorem comp_range_core {α : Type} {V : α → Value → Prop} {f : Nat → Option α} {elt iter : PySem.Expr} {x : Str} {px : Pos} {ifs : List PySem.Expr} {scope : Scope} {cl : List (Str × Addr)} {pos pos' : Pos} {env : Env} {use : Option (Value → Sem Unit)} {Q : Value → Shared → Prop} (hh : A.handled = none)
    (hclos : closureFor scope env = pure cl) (hcell : ∀ y ∈ scope.names, y.2 ≠ .cell) (hkind : scope.kind = .function)
    (hnames : ∀ y ∈ scope.names, y.2 = .local → scope.names.lookup y.1 = some .local)
    (h : wpAny (model prog w) A (eval iter env) (fun xv s₁ => ∃ r a b c t u v n, xv = .ref r ∧ IsRange s₁.heap r a b c t u v ∧ Builtin.Range.small a b c = true ∧ Builtin.Range.rangeSize a b c = ((n : Nat) : Int) ∧ n ≤ 100000 ∧
      CTurn prog w A V f elt (.Name x px) ifs scope cl env (fun i v => i < n ∧ ∃ t, v = .int (a + (i : Int) * c) t) s₁ ∧
      (∀ D C h tk m' ys, (∀ x o, s₁.heap.get? x = some o → h.get? x = some o) → h.get? D = some (LCg.lst ys) → s₁.heap.get? D = none → s₁.heap.get? C = none → D ≠ C → h.Ns C m' → All2 V ((List.range n).filterMap f) ys →
        compPost (model prog w) A E use Q (.ref D) C (.ok .next) { s₁ with heap := h, toks := tk })) E s)
    (hs : ∀ x, foldedSetIterable iter env x = pure x) :
    wpAny (model prog w) A (comprehension (.ListComp elt [⟨.Name x px, iter, ifs, 0⟩] scope pos) scope env pos' (newList []) false (eval iter env) use) Q E s := by
  refine wpAny_comprehension_free rfl hs hclos hkind hnames (wpAny_mono h (fun xv s₁ h₁ => ?_) fun _ _ e => e)
  obtain ⟨r, a, b, c, t, u, v, n, rfl, hr, hsm, hn, hsz, turn, fin⟩ := h₁
  refine wpAny_pyIter_range hr hsm ?_
  have up : ∀ b o, s₁.heap.get? b = some o → (s₁.heap.push { cls := .type "range_iterator", data := .fields #[rawInt a, rawInt (Builtin.Range.rangeSize a b c), rawInt c] }).get? b = some o := fun b o e => Heap.get?_push_of_some _ e
  refine comp_block (b := s₁.heap) (V := V) (f := f) ((Walks.range hh s₁.heap.objs.size a c n).bound) hsz (fun i h st => ⟨_, st⟩) ?_ (fun _ _ _ _ _ _ h => wpAny_pure h) hcell hkind (by show IsRangeIter _ _ _ _ _; rw [hn]; simpa using Heap.get?_push_size _ rfl) (fun x o e => Heap.get?_push_of_some _ e) ?_ (Heap.get?_none_of_le (Nat.le_refl _)) ?_ ?_ ?_ ?_
  · intro i h h' o st e e' k
    have st' : h.get? s₁.heap.objs.size = some _ := st
    show h'.get? s₁.heap.objs.size = some _
    rw [e', ← e]; exact st'
  · show _ ≤ (s₁.heap.push _).objs.size
    rw [Heap.size_push]; exact Nat.le_succ _
  · show _ < (s₁.heap.push _).objs.size
    rw [Heap.size_push]; exact Nat.lt_succ_self _
  · intro x hx
    show x < (s₁.heap.push _).objs.size
    rw [Heap.size_push]
    rw [List.mem_singleton.mp hx]; exact Nat.lt_succ_self _
  · intro i v C oI D oD h tk m hi hP F N
    exact turn i v C _ oI D oD h tk m hP F N
  · intro D C h tk m' ys k1 k2 k3 k4 k5 k6 k7
    exact fin D C h tk m' ys k1 k2 k3 k4 k5 k6 k7

theorem post_none {Q : Value → Shared → Prop} {s₁ : Shared} {D C : Addr} {h : Heap} {tk : Nat} {m' : Str → Option Value} {ys : List Value}
    (k1 : ∀ x o, s₁.heap.get? x = some o → h.get? x = some o) (k2 : h.get? D = some (LCg.lst ys)) (k4 : s₁.heap.get? C = none) (k5 : D ≠ C) (k6 : h.Ns C m')
    (fin : ∀ h, (∀ x o, s₁.heap.get? x = some o → h.get? x = some o) → h.get? D = some (LCg.lst ys) → Q (.ref D) { s₁ with heap := h, toks := tk }) :
    compPost (model prog w) A E none Q (.ref D) C (.ok .next) { s₁ with heap := h, toks := tk } :=
  ⟨m', k6, fun h' hs' => fin h' (fun x o e => hs'.extBut x o (by rintro rfl; rw [k4] at e; cases e) (k1 x o e)) (hs'.extBut _ _ k5 k2)⟩

theorem comp_list {α : Type} {V : α → Value → Prop} {f : Nat → Option α} {elt target iter : PySem.Expr} {ifs : List PySem.Expr} {scope : Scope} {cl : List (Str × Addr)} {pos : Pos} {env : Env} {Q : Value → Shared → Prop} (hh : A.handled = none)
    (hclos : closureFor scope env = pure cl) (hcell : ∀ y ∈ scope.names, y.2 ≠ .cell) (hkind : scope.kind = .function)
    (hnames : ∀ y ∈ scope.names, y.2 = .local → scope.names.lookup y.1 = some .local)
    (h : wpAny (model prog w) A (eval iter env) (fun xv s₁ => Stop (∃ ax its, xv = .ref ax ∧ s₁.heap.IsList ax its ∧ its.size ≤ 100000 ∧
      CTurn prog w A V f elt target ifs scope cl env (fun i v => its[i]? = some v) s₁ ∧
      (∀ D h tk ys, (∀ x o, s₁.heap.get? x = some o → h.get? x = some o) → h.get? D = some (LCg.lst ys) → s₁.heap.get? D = none → All2 V ((List.range its.size).filterMap f) ys → Q (.ref D) { s₁ with heap := h, toks := tk }))) E s)
    (hs : ∀ x, foldedSetIterable iter env x = pure x := by intro _; rfl) :
    wpAny (model prog w) A (eval (.ListComp elt [⟨target, iter, ifs, 0⟩] scope pos) env) Q E s := by
  rw [eval_ListComp]
  refine comp_list_core (V := V) (f := f) hh hclos hcell hkind hnames (wpAny_mono h (fun xv s₁ h₁ => ?_) fun _ _ e => e) hs
  obtain ⟨ax, its, e, hl, hsz, turn, fin⟩ := h₁
  exact ⟨ax, its, e, hl, hsz, turn, fun D C h tk m' ys k1 k2 k3 k4 k5 k6 k7 => post_none k1 k2 k4 k5 k6 fun h' q1 q2 => fin D h' tk ys q1 q2 k3 k7⟩

theorem comp_range {α : Type} {V : α → Value → Prop} {f : Nat → Option α} {elt iter : PySem.Expr} {x : Str} {px : Pos} {ifs : List PySem.Expr} {scope : Scope} {cl : List (Str × Addr)} {pos : Pos} {env : Env} {Q : Value → Shared → Prop} (hh : A.handled = none)
    (hclos : closureFor scope env = pure cl) (hcell : ∀ y ∈ scope.names, y.2 ≠ .cell) (hkind : scope.kind = .function)
    (hnames : ∀ y ∈ scope.names, y.2 = .local → scope.names.lookup y.1 = some .local)
    (h : wpAny (model prog w) A (eval iter env) (fun xv s₁ => Stop (∃ r a b c t u v n, xv = .ref r ∧ IsRange s₁.heap r a b c t u v ∧ Builtin.Range.small a b c = true ∧ Builtin.Range.rangeSize a b c = ((n : Nat) : Int) ∧ n ≤ 100000 ∧
      CTurn prog w A V f elt (.Name x px) ifs scope cl env (fun i v => i < n ∧ ∃ t, v = .int (a + (i : Int) * c) t) s₁ ∧
      (∀ D h tk ys, (∀ x o, s₁.heap.get? x = some o → h.get? x = some o) → h.get? D = some (LCg.lst ys) → s₁.heap.get? D = none → All2 V ((List.range n).filterMap f) ys → Q (.ref D) { s₁ with heap := h, toks := tk }))) E s)
    (hs : ∀ x, foldedSetIterable iter env x = pure x := by intro _; rfl) :
    wpAny (model prog w) A (eval (.ListComp elt [⟨.Name x px, iter, ifs, 0⟩] scope pos) env) Q E s := by
  rw [eval_ListComp]
  refine comp_range_core (V := V) (f := f) hh hclos hcell hkind hnames (wpAny_mono h (fun xv s₁ h₁ => ?_) fun _ _ e => e) hs
  obtain ⟨r, a, b, c, t, u, v, n, e, hr, hsm, hn, hsz, turn, fin⟩ := h₁
  exact ⟨r, a, b, c, t, u, v, n, e, hr, hsm, hn, hsz, turn, fun D C h tk m' ys k1 k2 k3 k4 k5 k6 k7 => post_none k1 k2 k4 k5 k6 fun h' q1 q2 => fin D h' tk ys q1 q2 k3 k7⟩

theorem enterC_code {K : Frag} {p : Program} {loose : List Str} {f : Addr} {R : Result → Shared → Prop} {mean : ExcName → Option Value} {mg mb : Str → Option Value}
   {name qual : Str} {params : Arguments} {body : List Stmt} {scope : Scope} {dV kV doc pm cdv ct oc : Value} {an od : Option Addr} {osl : Array (Option Value)}
   {args : List Value} {kw : List (Str × Value)} {binds : List (Str × Value)}
   (X : K.In s.heap) (T : Top p loose mean mg mb s.heap)
   (hroom : A.depth < recursionLimit)
   (ho : K.lookup f = some ⟨oc, od, .func (fnOf name qual params body scope dV kV doc pm an cdv ct), osl⟩) (hcd : codeIn K cdv qual = true)
   (hbind : BindsTo s (fnOf name qual params body scope dV kV doc pm an cdv ct) ⟨args, kw⟩ binds)
   (hkind : (binds.all fun y => scope.names.lookup y.1 == some .local || scope.names.lookup y.1 == some .cell) = true)
   (hnd : ((cellsFrom 0 scope.names []).map (·.1)).Nodup)
   (h : ∀ L h₁ tk cells, Fr s.heap L h₁ (bindL (envOfC qual scope L f cdv).kindOf binds fun _ => none) → News s.heap L h₁ cells → CellsAre (bindC (envOfC qual scope L f cdv).kindOf binds fun _ => none) (cellsFrom (L + 1) scope.names []) cells →
      wpAny (model prog w) (A.deeper (envOfC qual scope L f cdv)) (execs body (envOfC qual scope L f cdv))
        (fun fl s' => R (.ok (.ret (match fl with | .ret v => v | _ => .none))) s') (fun _ _ => False)
        { s with heap := h₁, toks := tk })
   (hco : scope.isCoroutine = false) (hgen : scope.isGenerator = false) (hk : scope.kind = .function) :
   codeAny (model prog w) A (.call (.ref f) ⟨args, kw⟩) R s := by
  refine codeAny_call_function hroom (X _ _ ho) rfl hco hgen rfl (codeRec_of X hcd) (hbind _ _ _ _ ?_)
  refine wpAny_newFunctionEnv_cells hk (kindsX hkind _) fun env' he s' x => ?_
  subst he
  refine ⟨T.nolimit.keeps x.toInCall.keep, codeAny_func ?_⟩
  obtain ⟨h₁, tk, rfl, _⟩ := x.done
  have hk₁ := x.toInCall.keep
  obtain ⟨cells, NC, Y⟩ := Cl.news (h₀ := s.heap) (Nat.le_refl _) fun n c hm => ⟨x.cell n c (lookup_of_mem_nodup (cellsFrom_names scope.names 0 (s.heap.objs.size + 1) [] [] rfl ▸ hnd) hm), x.above n c hm⟩
  exact wpAny_mono (h s.heap.objs.size h₁ tk cells ⟨x.toInCall.ns, hk₁, Nat.le_refl _⟩ NC Y) (fun fl s' hl => hl) fun _ _ y => y.elim

/-- entering a def with cells -/
theorem enterC {K : Frag} {p : Program} {loose : List Str} {f : Addr} {Q E : Value → Shared → Prop} {mean : ExcName → Option Value} {mg mb : Str → Option Value}
   {name qual : Str} {params : Arguments} {body : List Stmt} {scope : Scope} {dV kV doc pm cdv ct oc : Value} {an od : Option Addr} {osl : Array (Option Value)}
   {args : List Value} {kw : List (Str × Value)} {binds : List (Str × Value)}
   (X : K.In s.heap) (T : Top p loose mean mg mb s.heap)
   (hroom : A.depth < recursionLimit)
   (ho : K.lookup f = some ⟨oc, od, .func (fnOf name qual params body scope dV kV doc pm an cdv ct), osl⟩) (hcd : codeIn K cdv qual = true)
   (hbind : BindsTo s (fnOf name qual params body scope dV kV doc pm an cdv ct) ⟨args, kw⟩ binds)
   (hkind : (binds.all fun y => scope.names.lookup y.1 == some .local || scope.names.lookup y.1 == some .cell) = true)
   (hnd : ((cellsFrom 0 scope.names []).map (·.1)).Nodup)
   (h : ∀ L h₁ tk cells, Fr s.heap L h₁ (bindL (envOfC qual scope L f cdv).kindOf binds fun _ => none) → News s.heap L h₁ cells → CellsAre (bindC (envOfC qual scope L f cdv).kindOf binds fun _ => none) (cellsFrom (L + 1) scope.names []) cells →
      wpAny (model prog w) (A.deeper (envOfC qual scope L f cdv)) (execs body (envOfC qual scope L f cdv))
        (fun fl s' => Q (match fl with | .ret v => v | _ => .none) s') (fun _ _ => False)
        { s with heap := h₁, toks := tk })
   (hco : scope.isCoroutine = false) (hgen : scope.isGenerator = false) (hk : scope.kind = .function) :
   wpAny (model prog w) A (call (.ref f) args kw) Q E s := by
  refine wpAny_call (codeAny_call_function hroom (X _ _ ho) rfl hco hgen rfl (codeRec_of X hcd) (hbind _ _ _ _ ?_))
  refine wpAny_newFunctionEnv_cells hk (kindsX hkind _) fun env' he s' x => ?_
  subst he
  refine ⟨T.nolimit.keeps x.toInCall.keep, codeAny_func ?_⟩
  obtain ⟨h₁, tk, rfl, _⟩ := x.done
  have hk₁ := x.toInCall.keep
  obtain ⟨cells, NC, Y⟩ := Cl.news (h₀ := s.heap) (Nat.le_refl _) fun n c hm => ⟨x.cell n c (lookup_of_mem_nodup (cellsFrom_names scope.names 0 (s.heap.objs.size + 1) [] [] rfl ▸ hnd) hm), x.above n c hm⟩
  exact wpAny_mono (h s.heap.objs.size h₁ tk cells ⟨x.toInCall.ns, hk₁, Nat.le_refl _⟩ NC Y) (fun fl s' hl => hl) fun _ _ y => y.elim
end

section
variable {M : Model} {A : Around} {E : Value → Shared → Prop} {s : Shared} {b : Heap} {C : Addr} {m mg mb : Str → Option Value} {K : Frag} {p : Program} {loose : List Str} {mean : ExcName → Option Value} {scope : Scope} {cl : List (Str × Addr)} {env : Env} {x : Str} {pos : Pos} {v : Value} {Q : Value → Shared → Prop} {news : List (Addr × Obj)}
theorem cmL (F : Fr b C s.heap m) (hv : m x = some v) (h : Q v s) (hk : scope.kind = .function := by rfl) (hx : (compEnvC scope cl C env).kindOf x = some .local := by rfl) (hd : (x == ("__debug__" : Str)) = false := by decide) :
    wpAny M A (eval (.Name x pos) (compEnvC scope cl C env)) Q E s := ldVarK F.ns hv h hk hx hd
theorem cmC {c : Addr} {o : Obj} (F : Fr b C s.heap m) (ho : b.get? c = some o) (hd' : o.data = .cell (some v)) (hc : cl.lookup x = some c) (h : Q v s) (hk : scope.kind = .function := by rfl) (hx : (compEnvC scope cl C env).kindOf x = some .cell := by rfl) (hd : (x == ("__debug__" : Str)) = false := by decide) :
    wpAny M A (eval (.Name x pos) (compEnvC scope cl C env)) Q E s := ldCellK hc ⟨o, F.keep _ _ ho, hd'⟩ h hk hx hd
theorem cmK (F : Fr b C s.heap m) (X : K.In b) (T : Top p loose mean mg mb b) (e : nsIn K mainGlobals x = some (some v)) (h : Q v s) (hg : env.globals = mainGlobals := by rfl)
    (hk : scope.kind = .function := by rfl) (hx : (compEnvC scope cl C env).kindOf x = some .globalImplicit := by rfl) (hd : (x == ("__debug__" : Str)) = false := by decide) :
    wpAny M A (eval (.Name x pos) (compEnvC scope cl C env)) Q E s := LCgL.ld_global F X T e h hg hk hx hd
theorem cmB (F : Fr b C s.heap m) (X : K.In b) (T : Top p loose mean mg mb b) (e : nsIn K mainGlobals x = some none) (hv : bootBuiltins x = some v) (hn : x ≠ "__name__") (h : Q v s) (hg : env.globals = mainGlobals := by rfl) (hgb : env.builtins = builtinsNs := by rfl)
    (hk : scope.kind = .function := by rfl) (hx : (compEnvC scope cl C env).kindOf x = some .globalImplicit := by rfl) (hd : (x == ("__debug__" : Str)) = false := by decide) :
    wpAny M A (eval (.Name x pos) (compEnvC scope cl C env)) Q E s := LCgL.ld_built F X T e hv hn h hg hgb hk hx hd
theorem cmS {Q : Unit → Shared → Prop} (F : Fr b C s.heap m) (N : News b C s.heap news) (h : ∀ h', Fr b C h' (fun y => if y = x then some v else m y) → News b C h' news → Q () { s with heap := h', toks := s.toks + 1 })
    (hk : scope.kind = .function := by rfl) (hx : (compEnvC scope cl C env).kindOf x = some .local := by rfl) :
    wpAny M A (assign (.Name x pos) (compEnvC scope cl C env) v) Q E s :=
  wpAny_assign_Name (wpAny_storeName_local hx F.ns (fun h' hn hs => h h' (F.set hn hs) (N.set hs)) (by show (scope.kind == .class || (scope.kind == .module && _)) = false; rw [hk]; rfl))
end
end Mine
namespace Mine
section
variable {M : Model} {A : Around} {E : Value → Shared → Prop} {s : Shared} {h₀ : Heap} {L f : Addr} {m : Str → Option Value} {qual : Str} {scope : Scope} {cdv : Value} {x : Str} {pos : Pos} {v : Value} {Q : Value → Shared → Prop}
theorem ldC (F : Fr h₀ L s.heap m) (hv : m x = some v) (h : Q v s) (hk : scope.kind = .function := by rfl) (hx : (envOfC qual scope L f cdv).kindOf x = some .local := by rfl) (hd : (x == ("__debug__" : Str)) = false := by decide) :
    wpAny M A (eval (.Name x pos) (envOfC qual scope L f cdv)) Q E s := ldLoc F hv h hk hx hd
end
end Mine
namespace Mine
theorem fr_ins {h₀ h h' : Heap} {L a : Addr} {m : Str → Option Value} (F : Fr h₀ L h m) (hk : ∀ b o, b ≠ a → h.get? b = some o → h'.get? b = some o) (hL : a ≠ L) (ha : h₀.get? a = none) : Fr h₀ L h' m :=
  LCg.fr_but (I := a) F (fun b o hb e => hk b o (by simpa using hb) e) (Ne.symm hL) ha
theorem news_ins {h₀ h h' : Heap} {L a I : Addr} {oI o o' : Obj} {rest : List (Addr × Obj)} (N : News h₀ L h ((I, oI) :: (a, o) :: rest)) (hk : ∀ b o, b ≠ a → h.get? b = some o → h'.get? b = some o) (ho' : h'.get? a = some o') (hIa : I ≠ a) (hrest : ∀ p ∈ rest, p.1 ≠ a) :
    News h₀ L h' ((I, oI) :: (a, o') :: rest) := fun p hp => by
  rcases List.mem_cons.mp hp with rfl | hp
  · have z := N _ (List.Mem.head _)
    exact ⟨hk _ _ hIa z.1, z.2⟩
  · rcases List.mem_cons.mp hp with rfl | hp
    · have z := N _ (List.Mem.tail _ (List.Mem.head _))
      exact ⟨ho', z.2⟩
    · have z := N p (List.Mem.tail _ (List.Mem.tail _ hp))
      exact ⟨hk _ _ (hrest p hp) z.1, z.2⟩
end Mine
namespace Mine
theorem foldl_arr (vs : List Value) : ∀ (i : Nat) (acc : Array Value), List.foldl (fun x1 x2 => x1 ++ x2) acc (List.replicate i vs.toArray) = acc ++ (List.replicate i vs).flatten.toArray
  | 0, acc => by simp
  | i + 1, acc => by
    rw [List.replicate_succ, List.foldl_cons, foldl_arr vs i, List.replicate_succ, List.flatten_cons]
    apply Array.toList_inj.mp
    simp
theorem mulL {prog : Program} {w : World} {A : Around} {E : Value → Shared → Prop} {s : Shared} {h₀ : Heap} {L : Addr} {m : Str → Option Value} {news : List (Addr × Obj)} {l : Addr} {v0 : Value} {vs : List Value} {k i : Nat} {u : Tok} {Q : Value → Shared → Prop}
    (F : Fr h₀ L s.heap m) (N : News h₀ L s.heap news) (hm : (l, listOf (v0 :: vs).toArray k) ∈ news) (hi : i ≤ 1000) (hsz : vs.length ≤ 1000)
    (h : ∀ D h', Fr h₀ L h' m → News h₀ L h' ((D, listOf (List.replicate i (v0 :: vs)).flatten.toArray 0) :: news) → (∀ p ∈ news, p.1 < D) → Q (.ref D) { s with heap := h' }) :
    wpAny (model prog w) A (binaryOp .Mult (.ref l) (.int (i : Int) u)) Q E s := by
  have h63 : (2:Int)^63 = 9223372036854775808 := by decide
  refine mul_list F N (N _ hm).1 (by omega) (by omega) ?_ fun h' F' N' => h _ h' F' ?_ fun p hp => Heap.lt_size (N p hp).1
  · rw [List.size_toArray, Int.toNat_natCast, List.length_cons]
    have := Nat.mul_le_mul (show vs.length + 1 ≤ 1001 by omega) hi
    have h24 : 2 ^ 24 = 16777216 := by decide
    omega
  · rw [Int.toNat_natCast, if_neg (by simp), foldl_arr, Array.empty_append] at N'
    exact N'
theorem strs_append {a b : List Value} {x y : List Str} (h1 : StrsAre a x) (h2 : StrsAre b y) : StrsAre (a ++ b) (x ++ y) := by
  induction h1 with
  | nil => exact h2
  | cons y t _ ih => exact .cons y t ih
theorem strs_rep {vs : List Value} {xs : List Str} (h : StrsAre vs xs) : ∀ i, StrsAre (List.replicate i vs).flatten (List.replicate i xs).flatten
  | 0 => .nil
  | i + 1 => by rw [List.replicate_succ, List.replicate_succ, List.flatten_cons, List.flatten_cons]; exact strs_append h (strs_rep h i)
end Mine
namespace Mine
theorem neSame {prog : Program} {w : World} {A : Around} {E : Value → Shared → Prop} {s : Shared} {x : Str} {t u : Tok} {Q : Value → Shared → Prop} (h : Q (.bool false) s) : wpAny (model prog w) A (compareOp .NotEq (.str x t) (.str x u)) Q E s := by
  refine P.ne_str ?_
  simpa using h
/-- a new object of a callee's onto the ledger -/
theorem news_new {h₀ h h' : Heap} {L d : Addr} {m : Str → Option Value} {news : List (Addr × Obj)} {its : Array Value} {n : Nat} (F : Fr h₀ L h m) (N : News h₀ L h news) (k : ∀ b o, h.get? b = some o → h'.get? b = some o) (hd : h'.get? d = some (listOf its n)) (hn : h.get? d = none) : News h₀ L h' ((d, listOf its n) :: news) := by
  refine News.more (F.keeps k) (N.grown k) hd (fun es n => by simp) ?_
  cases e : h₀.get? d with
  | none => rfl
  | some o => rw [F.keep _ _ e] at hn; cases hn
theorem news_lt {h₀ h : Heap} {L d : Addr} {news : List (Addr × Obj)} (N : News h₀ L h news) (hn : h.get? d = none) : ∀ p ∈ news, p.1 ≠ d := fun p hp e => by
  have := (N p hp).1
  rw [e, hn] at this; cases this
theorem addL {prog : Program} {w : World} {A : Around} {E : Value → Shared → Prop} {s : Shared} {h₀ : Heap} {L : Addr} {m : Str → Option Value} {news : List (Addr × Obj)} {a b : Addr} {vs ws : List Value} {n1 n2 : Nat} {Q : Value → Shared → Prop}
    (F : Fr h₀ L s.heap m) (N : News h₀ L s.heap news) (h1 : (a, listOf vs.toArray n1) ∈ news) (h2 : (b, listOf ws.toArray n2) ∈ news) (hz : vs.length + ws.length ≤ 100000)
    (h : ∀ D h', Fr h₀ L h' m → News h₀ L h' ((D, listOf (vs ++ ws).toArray 0) :: news) → (∀ p ∈ news, p.1 < D) → Q (.ref D) { s with heap := h' }) :
    wpAny (model prog w) A (binaryOp .Add (.ref a) (.ref b)) Q E s :=
  add_lists F N ⟨_, (N _ h1).1, rfl, _, rfl⟩ ⟨_, (N _ h2).1, rfl, _, rfl⟩ (fun h' F' N' => h _ h' F' N' fun p hp => Heap.lt_size (N p hp).1) (by rw [sizeLine_eq]; omega)
theorem rep_len (vs : List Value) (i : Nat) : (List.replicate i vs).flatten.length = i * vs.length := by
  rw [List.length_flatten, List.map_replicate, List.sum_replicate_nat]
end Mine
namespace Mine
theorem storeC {M : Model} {A : Around} {E : Value → Shared → Prop} {s : Shared} {h₀ : Heap} {L f c : Addr} {m : Str → Option Value} {qual : Str} {scope : Scope} {cdv : Value} {x : Str} {v : Value} {v₀ : Option Value} {o : Obj} {pre : List (Addr × Obj)} {Q : Unit → Shared → Prop}
    (F : Fr h₀ L s.heap m) (N : News h₀ L s.heap (pre ++ [(c, o)])) (hpre : ∀ p ∈ pre, p.1 ≠ c) (hd : o.data = .cell v₀)
    (h : ∀ h' o', Fr h₀ L h' m → News h₀ L h' (pre ++ [(c, o')]) → o'.data = .cell (some v) → Q () { s with heap := h' })
    (hc : (envOfC qual scope L f cdv).cells.lookup x = some c := by rfl) (hk : scope.kind = .function := by rfl) (hx : (envOfC qual scope L f cdv).kindOf x = some .cell := by rfl) :
    wpAny M A (storeName (envOfC qual scope L f cdv) x v) Q E s :=
  stCN (own := pre) (rest := []) F N hc hd hpre (fun _ hp => nomatch hp) h hk hx
end Mine
end PGC

section PGD
open PySem PySem.W PyProof.Rows PySem.Calls
set_option maxRecDepth 100000
set_option maxHeartbeats 4000000
namespace Mine
abbrev Row3 := Str × Int × Int
abbrev tupO (r : Row3) (t1 t2 t3 : Tok) (n : Nat) : Obj := { cls := .type "tuple", data := .seq [Value.str r.1 t1, Value.int r.2.1 t2, Value.int r.2.2 t3].toArray n }
def TupIn (L : List (Addr × Obj)) (r : Row3) (v : Value) : Prop := ∃ a t1 t2 t3 n, v = .ref a ∧ (a, tupO r t1 t2 t3 n) ∈ L
def TupAt (h : Heap) (r : Row3) (v : Value) : Prop := ∃ a t1 t2 t3 n, v = .ref a ∧ h.get? a = some (tupO r t1 t2 t3 n)
theorem All2.mono {α : Type} {V V' : α → Value → Prop} {xs : List α} {ys : List Value} (h : All2 V xs ys) (k : ∀ x y, V x y → V' x y) : All2 V' xs ys := by
  induction h with
  | nil => exact .nil
  | cons a _ ih => exact .cons (k _ _ a) ih
theorem All2.get {α : Type} {V : α → Value → Prop} {xs : List α} {ys : List Value} (h : All2 V xs ys) : ∀ {i : Nat} {v : Value}, ys[i]? = some v → ∃ (hi : i < xs.length), V xs[i] v := by
  induction h with
  | nil => intro i v e; simp at e
  | cons a _ ih =>
    intro i v e
    cases i with
    | zero => simp at e; subst e; exact ⟨Nat.zero_lt_succ _, a⟩
    | succ i =>
      have e' := e
      rw [List.getElem?_cons_succ] at e'
      obtain ⟨hi, q⟩ := ih e'
      exact ⟨Nat.succ_lt_succ hi, q⟩
theorem tups_at {h₀ h : Heap} {L : Addr} {news tups : List (Addr × Obj)} {rows : List Row3} {vs : List Value} (N : News h₀ L h news) (hs : ∀ p ∈ tups, p ∈ news) (hA : All2 (TupIn tups) rows vs) : All2 (TupAt h) rows vs :=
  hA.mono fun _ _ ⟨a, t1, t2, t3, n, e, hm⟩ => ⟨a, t1, t2, t3, n, e, (N _ (hs _ hm)).1⟩
theorem TupAt.keeps {h h' : Heap} (k : ∀ b o, h.get? b = some o → h'.get? b = some o) {r : Row3} {v : Value} : TupAt h r v → TupAt h' r v :=
  fun ⟨a, t1, t2, t3, n, e, q⟩ => ⟨a, t1, t2, t3, n, e, k _ _ q⟩

section
variable {prog : Program} {w : World} {A : Around} {E : Value → Shared → Prop} {s : Shared} {h₀ : Heap} {m : Str → Option Value} {news : List (Addr × Obj)}
theorem asg3 {env : Env} {x y z : Str} {px py pz pos : Pos} {k : Nat} {t : Addr} {v1 v2 v3 : Value} {Q : Unit → Shared → Prop} (hh : A.handled = none)
    (F : Fr h₀ env.locals s.heap m) (N : News h₀ env.locals s.heap news) (ht : IsTup s.heap t [v1, v2, v3].toArray)
    (hx : env.kindOf x = some .local) (hy : env.kindOf y = some .local) (hz : env.kindOf z = some .local) (hp : (env.scope.kind == .class || (env.scope.kind == .module && env.locals != env.globals)) = false)
    (h : ∀ h' tk, Fr h₀ env.locals h' (fun u => if u = z then some v3 else if u = y then some v2 else if u = x then some v1 else m u) → News h₀ env.locals h' news → Q () { s with heap := h', toks := tk }) :
    wpAny (model prog w) A (assign (.Tuple [.Name x px, .Name y py, .Name z pz] k pos) env (.ref t)) Q E s := by
  refine unpackN_ F N ht hh rfl rfl fun h1 F1 N1 => ?_
  show wpAny (model prog w) A (assignInOrder [assign (.Name x px) env, assign (.Name y py) env, assign (.Name z pz) env] [v1, v2, v3]) Q E _
  refine assignInOrder_cons (wpAny_assign_Name (wpAny_storeName_local hx F1.ns (fun h2 n2 s2 => ?_) hp))
  have F2 := F1.set n2 s2
  have N2 := N1.set s2
  refine assignInOrder_cons (wpAny_assign_Name (wpAny_storeName_local hy F2.ns (fun h3 n3 s3 => ?_) hp))
  have F3 := F2.set n3 s3
  have N3 := N2.set s3
  refine assignInOrder_cons (wpAny_assign_Name (wpAny_storeName_local hz F3.ns (fun h4 n4 s4 => ?_) hp))
  exact assignInOrder_nil (h h4 _ (F3.set n4 s4) (N3.set s4))
/-- append to a list of the ledger, whatever stands around it -/
theorem appG {L d : Addr} {vs : List Value} {n : Nat} {x : Value} {pre post : List (Addr × Obj)} {Q : Value → Shared → Prop}
    (F : Fr h₀ L s.heap m) (N : News h₀ L s.heap (pre ++ (d, listOf vs.toArray n) :: post)) (h1 : ∀ p ∈ pre, p.1 ≠ d) (h2 : ∀ p ∈ post, p.1 ≠ d) (hz : vs.length ≤ 100000)
    (h : ∀ h', Fr h₀ L h' m → News h₀ L h' (pre ++ (d, listOf (vs ++ [x]).toArray (n + 1)) :: post) → Q .none { s with heap := h' }) :
    wpAny (model prog w) A (call (.builtin "list.append") [.ref d, x]) Q E s := by
  have z := N (d, listOf vs.toArray n) (List.mem_append.mpr (.inr (.head _)))
  refine append_at (hsz := by rw [List.size_toArray, sizeLine_eq]; omega) z.1 fun h' hs ho' => h h' (F.change hs z.2.1 z.2.2) ?_
  have := news_set N h1 h2 hs ho'
  rw [List.push_toArray] at this
  exact this
theorem storeG {L f c : Addr} {qual : Str} {scope : Scope} {cdv : Value} {x : Str} {v : Value} {v₀ : Option Value} {o : Obj} {pre post : List (Addr × Obj)} {Q : Unit → Shared → Prop}
    (F : Fr h₀ L s.heap m) (N : News h₀ L s.heap (pre ++ (c, o) :: post)) (h1 : ∀ p ∈ pre, p.1 ≠ c) (h2 : ∀ p ∈ post, p.1 ≠ c) (hd : o.data = .cell v₀)
    (h : ∀ h' o', Fr h₀ L h' m → News h₀ L h' (pre ++ (c, o') :: post) → o'.data = .cell (some v) → Q () { s with heap := h' })
    (hc : (envOfC qual scope L f cdv).cells.lookup x = some c := by rfl) (hk : scope.kind = .function := by rfl) (hx : (envOfC qual scope L f cdv).kindOf x = some .cell := by rfl) :
    wpAny (model prog w) A (storeName (envOfC qual scope L f cdv) x v) Q E s :=
  stCN (own := pre) (rest := post) F N hc hd h1 h2 h hk hx
end
theorem rng_size (n : Nat) : Builtin.Range.rangeSize 0 (n : Int) 1 = (n : Int) := by
  rw [rangeSize_nat]; omega
theorem fitsL {i : Int} (h1 : -100000 ≤ i) (h2 : i ≤ 100000) : Builtin.Range.rangeFitsLong i = true := by
  have h63 : (2:Int)^63 = 9223372036854775808 := by decide
  exact Bool.and_eq_true_iff.mpr ⟨decide_eq_true (by omega), decide_eq_true (by omega)⟩
theorem rng_small (n : Nat) (h : n ≤ 100000) : Builtin.Range.small 0 (n : Int) 1 = true := by
  unfold Builtin.Range.small
  rw [rng_size n, fitsL (i := 0) (by decide) (by decide), fitsL (i := (n : Int)) (by omega) (by omega), fitsL (i := 1) (by decide) (by decide), if_pos (by decide), fitsL (i := (n : Int) + (1 - 1)) (by omega) (by omega)]
  simp
theorem ints_at {vs : List Value} {ns : List Int} (hi : IntsAre vs ns) {i : Nat} {v : Value} (h : vs.toArray[i]? = some v) : ∃ (t : Tok) (hlt : i < ns.length), v = .int ns[i] t := by
  have hlen := hi.length
  have h' : vs[i]? = some v := by simpa using h
  have hlt : i < vs.length := (List.getElem?_eq_some_iff.mp h').1
  have hlt' : i < ns.length := by omega
  obtain ⟨t, hx⟩ := hi.get i ns[i] (by simp [hlt'])
  rw [hx] at h'
  exact ⟨t, hlt', (Option.some.inj h').symm⟩
theorem sgetElem {vs : List Value} {xs : List Str} (h : StrsAre vs xs) {i : Nat} {v : Value} (e : vs.toArray[i]? = some v) : ∃ (t : Tok) (hlt : i < xs.length), v = .str xs[i] t := by
  have e' : vs[i]? = some v := by simpa using e
  have hlt : i < vs.length := (List.getElem?_eq_some_iff.mp e').1
  have hlt' : i < xs.length := by rw [← h.length]; exact hlt
  obtain ⟨t, hx⟩ := h.get i xs[i] (by simp [hlt'])
  rw [hx] at e'
  exact ⟨t, hlt', (Option.some.inj e').symm⟩
theorem itemL {prog : Program} {w : World} {A : Around} {E : Value → Shared → Prop} {s : Shared} {value slice : PySem.Expr} {l : Addr} {vs : List Value} {k : Nat} {u : Tok} {v : Value} {Q : Value → Shared → Prop}
    (hl : s.heap.IsList l vs.toArray) (hk : k ≤ 100000) (hx : vs[k]? = some v) (h : Q v s)
    (hs : subscripted slice false (.ref l) (.int (k : Int) u) = operate [.ref l, .int (k : Int) u] (getItem (.ref l) (.int (k : Int) u)) := by with_unfolding_all rfl) :
    wpAny (model prog w) A (subscriptTail value slice (.ref l) (.int (k : Int) u)) Q E s := by
  have h63 : (2:Int)^63 = 9223372036854775808 := by decide
  exact tail_any hl.typeIs slot_list_getitem.lookup (wpAny_getItem_list hl (by omega) (by omega) (by simpa using hx) h) hs
theorem All2.at {α : Type} {V : α → Value → Prop} {xs : List α} {ys : List Value} (h : All2 V xs ys) : ∀ {i : Nat} (hi : i < xs.length), ∃ v, ys[i]? = some v ∧ V xs[i] v := by
  induction h with
  | nil => intro i hi; simp at hi
  | cons a _ ih =>
    intro i hi
    cases i with
    | zero => exact ⟨_, rfl, a⟩
    | succ i => exact ih (Nat.lt_of_succ_lt_succ hi)
theorem lenL {prog : Program} {w : World} {A : Around} {E : Value → Shared → Prop} {s : Shared} {l : Addr} {vs : List Value} {Q : Value → Shared → Prop} (hl : s.heap.IsList l vs.toArray) (hz : vs.length ≤ 100000)
    (h : ∀ t tk, Q (.int (vs.length : Nat) t) { s with toks := tk }) : wpAny (model prog w) A (call (.builtin "len") [.ref l]) Q E s := by
  have h63 : (2:Int)^63 = 9223372036854775808 := by decide
  refine len_list hl (by rw [List.size_toArray]; omega) ?_
  rw [List.size_toArray]
  exact h _ _
end Mine
end PGD

section PGE
open PySem PySem.W PyProof.Rows PySem.Calls
set_option maxRecDepth 100000
set_option maxHeartbeats 4000000
namespace Mine
section
variable {prog : Program} {w : World} {A : Around} {E : Value → Shared → Prop} {s : Shared} {h₀ : Heap}
theorem post_some {env : Env} {y : Str} {py : Pos} {m : Str → Option Value} {news : List (Addr × Obj)} {Q : Flow → Shared → Prop} {s₁ : Shared} {D C : Addr} {h : Heap} {tk : Nat} {m' : Str → Option Value} {ys : List Value}
    (hy : env.kindOf y = some .local) (hp : (env.scope.kind == .class || (env.scope.kind == .module && env.locals != env.globals)) = false)
    (F : Fr h₀ env.locals s₁.heap m) (N : News h₀ env.locals s₁.heap news)
    (k1 : ∀ x o, s₁.heap.get? x = some o → h.get? x = some o) (k2 : h.get? D = some (LCg.lst ys)) (k3 : s₁.heap.get? D = none) (k4 : s₁.heap.get? C = none) (k5 : D ≠ C) (k6 : h.Ns C m')
    (fin : ∀ h' tk', Fr h₀ env.locals h' (fun u => if u = y then some (.ref D) else m u) → News h₀ env.locals h' ((D, listOf ys.toArray ys.length) :: news) → Q .next { s₁ with heap := h', toks := tk' }) :
    compPost (model prog w) A E (some (assign (.Name y py) env)) (fun _ s' => Q .next s') (.ref D) C (.ok .next) { s₁ with heap := h, toks := tk } := by
  have F1 := F.keeps k1
  have N1 : News h₀ env.locals h ((D, listOf ys.toArray ys.length) :: news) := news_new F N k1 k2 k3
  have hCL : C ≠ env.locals := by
    rintro rfl
    obtain ⟨o, _, _, ho, _⟩ := F.ns
    rw [k4] at ho; cases ho
  have hC0 : h₀.get? C = none := by
    cases e : h₀.get? C with
    | none => rfl
    | some o => rw [F.keep _ _ e] at k4; cases k4
  show wpAny _ A (assign (.Name y py) env (.ref D)) _ _ _
  refine wpAny_assign_Name (wpAny_storeName_local hy F1.ns (fun h2 n2 s2 => ?_) hp)
  have F2 := F1.set n2 s2
  have N2 := N1.set s2
  refine ⟨m', k6.sameBut s2 hCL, fun h3 s3 => fin h3 _ (F2.change s3 hCL hC0) fun p hp => ?_⟩
  have z := N2 p hp
  refine ⟨(s3.2 _ ?_).trans z.1, z.2⟩
  rcases List.mem_cons.mp hp with rfl | hp
  · exact k5
  · exact news_lt N k4 p hp

theorem asg_comp_range {α : Type} {V : α → Value → Prop} {f : Nat → Option α} {elt iter : PySem.Expr} {x y : Str} {px py : Pos} {ifs : List PySem.Expr} {scope : Scope} {cl : List (Str × Addr)} {pos spos : Pos} {env : Env} {Q : Flow → Shared → Prop} (hh : A.handled = none)
    (hsw : swapsWith (.ListComp elt [⟨.Name x px, iter, ifs, 0⟩] scope pos) (some (.Name y py)) spos.line env = pure true)
    (hclos : closureFor scope env = pure cl) (hcell : ∀ y ∈ scope.names, y.2 ≠ .cell) (hkind : scope.kind = .function)
    (hnames : ∀ y ∈ scope.names, y.2 = .local → scope.names.lookup y.1 = some .local)
    (hy : env.kindOf y = some .local) (hp : (env.scope.kind == .class || (env.scope.kind == .module && env.locals != env.globals)) = false)
    (h : wpAny (model prog w) A (eval iter env) (fun xv s₁ => Stop (∃ r a b c t u v n m news, xv = .ref r ∧ IsRange s₁.heap r a b c t u v ∧ Builtin.Range.small a b c = true ∧ Builtin.Range.rangeSize a b c = ((n : Nat) : Int) ∧ n ≤ 100000 ∧
      Fr h₀ env.locals s₁.heap m ∧ News h₀ env.locals s₁.heap news ∧
      CTurn prog w A V f elt (.Name x px) ifs scope cl env (fun i v => i < n ∧ ∃ t, v = .int (a + (i : Int) * c) t) s₁ ∧
      (∀ D h' tk ys, Fr h₀ env.locals h' (fun u => if u = y then some (.ref D) else m u) → News h₀ env.locals h' ((D, listOf ys.toArray ys.length) :: news) → (∀ p ∈ news, p.1 ≠ D) → All2 V ((List.range n).filterMap f) ys → Q .next { s₁ with heap := h', toks := tk }))) E s)
    (hs : ∀ x, foldedSetIterable iter env x = pure x := by intro _; rfl) :
    wpAny (model prog w) A (exec (.Assign [.Name y py] (.ListComp elt [⟨.Name x px, iter, ifs, 0⟩] scope pos) spos) env) Q E s := by
  rw [exec_Assign_Name_used _ _ _ _ hsw]
  refine wpAny_bind (wpAny_standAt (wpAny_bind ?_))
  show wpAny _ A (do let _ ← comprehension (.ListComp elt [⟨.Name x px, iter, ifs, 0⟩] scope pos) scope env _ (newList []) false (eval iter env) (some (assign (.Name y py) env))) _ _ s
  refine wpAny_bind (wpAny_mono (comp_range_core (V := V) (f := f) (use := some (assign (.Name y py) env)) (Q := fun _ s' => Q .next s') hh hclos hcell hkind hnames (wpAny_mono h (fun xv s₁ h₁ => ?_) fun _ _ e => e) hs) (fun _ s' hq => wpAny_pure (wpAny_pure hq)) fun _ _ e => e)
  obtain ⟨r, a, b, c, t, u, v, n, m, news, e, hr, hsm, hn, hsz, F, N, turn, fin⟩ := h₁
  exact ⟨r, a, b, c, t, u, v, n, e, hr, hsm, hn, hsz, turn, fun D C h tk m' ys k1 k2 k3 k4 k5 k6 k7 => post_some hy hp F N k1 k2 k3 k4 k5 k6 fun h' tk' q1 q2 => fin D h' tk' ys q1 q2 (news_lt N k3) k7⟩

theorem asg_comp_list {α : Type} {V : α → Value → Prop} {f : Nat → Option α} {elt target iter : PySem.Expr} {y : Str} {py : Pos} {ifs : List PySem.Expr} {scope : Scope} {cl : List (Str × Addr)} {pos spos : Pos} {env : Env} {Q : Flow → Shared → Prop} (hh : A.handled = none)
    (hsw : swapsWith (.ListComp elt [⟨target, iter, ifs, 0⟩] scope pos) (some (.Name y py)) spos.line env = pure true)
    (hclos : closureFor scope env = pure cl) (hcell : ∀ y ∈ scope.names, y.2 ≠ .cell) (hkind : scope.kind = .function)
    (hnames : ∀ y ∈ scope.names, y.2 = .local → scope.names.lookup y.1 = some .local)
    (hy : env.kindOf y = some .local) (hp : (env.scope.kind == .class || (env.scope.kind == .module && env.locals != env.globals)) = false)
    (h : wpAny (model prog w) A (eval iter env) (fun xv s₁ => Stop (∃ ax its m news, xv = .ref ax ∧ s₁.heap.IsList ax its ∧ its.size ≤ 100000 ∧
      Fr h₀ env.locals s₁.heap m ∧ News h₀ env.locals s₁.heap news ∧
      CTurn prog w A V f elt target ifs scope cl env (fun i v => its[i]? = some v) s₁ ∧
      (∀ D h' tk ys, Fr h₀ env.locals h' (fun u => if u = y then some (.ref D) else m u) → News h₀ env.locals h' ((D, listOf ys.toArray ys.length) :: news) → (∀ p ∈ news, p.1 ≠ D) → All2 V ((List.range its.size).filterMap f) ys → Q .next { s₁ with heap := h', toks := tk }))) E s)
    (hs : ∀ x, foldedSetIterable iter env x = pure x := by intro _; rfl) :
    wpAny (model prog w) A (exec (.Assign [.Name y py] (.ListComp elt [⟨target, iter, ifs, 0⟩] scope pos) spos) env) Q E s := by
  rw [exec_Assign_Name_used _ _ _ _ hsw]
  refine wpAny_bind (wpAny_standAt (wpAny_bind ?_))
  show wpAny _ A (do let _ ← comprehension (.ListComp elt [⟨target, iter, ifs, 0⟩] scope pos) scope env _ (newList []) false (eval iter env) (some (assign (.Name y py) env))) _ _ s
  refine wpAny_bind (wpAny_mono (comp_list_core (V := V) (f := f) (use := some (assign (.Name y py) env)) (Q := fun _ s' => Q .next s') hh hclos hcell hkind hnames (wpAny_mono h (fun xv s₁ h₁ => ?_) fun _ _ e => e) hs) (fun _ s' hq => wpAny_pure (wpAny_pure hq)) fun _ _ e => e)
  obtain ⟨ax, its, m, news, e, hl, hsz, F, N, turn, fin⟩ := h₁
  exact ⟨ax, its, e, hl, hsz, turn, fun D C h tk m' ys k1 k2 k3 k4 k5 k6 k7 => post_some hy hp F N k1 k2 k3 k4 k5 k6 fun h' tk' q1 q2 => fin D h' tk' ys q1 q2 (news_lt N k3) k7⟩
end
end Mine
end PGE

section PTOP01
open PySem PySem.W PyProof.Rows
namespace Mine
set_option maxRecDepth 100000
set_option maxHeartbeats 8000000
open_top hd for PySem.Challenge.rw_ph0062_01
end Mine
end PTOP01

section PC1a
open PySem PySem.W PyProof.Rows PySem.Calls
set_option maxRecDepth 100000
set_option maxHeartbeats 8000000
namespace Mine
local macro_rules | `(tactic| walk_at "eval Name") => `(tactic| (k_here; k_dflt (refine' ld ?k1 ?k2 ?_; (case k1 => k_asm); (case k2 => assumption); k_whole)))

local macro_rules | `(tactic| walk_at "go") => `(tactic| repeat' (first | (k_unfold; (try dsimp only)) | ((fail_if_success (with_reducible show wpAny _ _ (exec (Stmt.While _ _ _ _) _) _ _ _)); (fail_if_success (with_reducible show wpAny _ _ (exec (Stmt.For _ _ _ _ _) _) _ _ _)); (first | walk1 | (dsimp only; walk1)))))
def IntAt (m : Str → Option Value) (x : Str) (i : Int) : Prop := ∃ t, m x = some (.int i t)
local macro_rules | `(tactic| walk_at "subscriptTail") => `(tactic| (k_here; (with_reducible show wpAny _ _ (subscriptTail _ _ (Value.ref _) (Value.int _ _)) _ _ _); (with_unfolding_all refine' KTb.item_list ?k1 ?k2 ?k3 ?k4 ?k5 ?_ ?k6; (case k1 => is_list); (case k2 => assumption); (case k3 => (rw [mid_at]; omega)); (case k4 => (rw [mid_at]; omega)); (case k5 => (rw [mid_at]; omega)); (case k6 => with_unfolding_all rfl); k_whole); intro t' _))
theorem bisR_call {w : World} {A : Around} {s : Shared} {Q E : Value → Shared → Prop} {mean : ExcName → Option Value} {mg mb : Str → Option Value} {loose : List Str} {a : Addr} {vs : List Value} {ns : List Str} {x : Str} {tx tl : Tok}
   (X : (Mine.hd.heap_39 w.params).In s.heap) (T : Top Mine.hd.view_39 loose mean mg mb s.heap) (hh : A.handled = none) (hroom : A.depth < 900)
   (hl : s.heap.IsList a vs.toArray) (hi : StrsAre vs ns) (hlen : ns.length ≤ 1000) (hsort : ns.Pairwise sle)
   (hQ : ∀ t h' tk, (∀ b o, s.heap.get? b = some o → h'.get? b = some o) → Q (.int (ns.countP (fun y => decide (sle y x)) : Nat) t) { s with heap := h', toks := tk }) :
   wpAny (model PySem.Challenge.rw_ph0062_01.row.prog w) A (call (.ref 39) [.ref a, .str x tx, .int 0 tl, .none]) Q E s := by
  revert X; k_fill; intro X
  refine' enter (binds := [(Str.ofString "a", .ref a), (Str.ofString "x", .str x tx), (Str.ofString "lo", .int 0 tl), (Str.ofString "hi", .none), (Str.ofString "key", .none)]) X T (Nat.lt_trans hroom (by decide)) ?k1 ?k2 ?k3 ?k4 ?k5 ?_ ?k6 ?k7 ?k8
  case k1 => exact rfl
  case k2 => k_is
  case k3 => exact kp_binds X fun _ => rfl
  case k4 => exact locs rfl
  case k5 => decide
  case k6 => rfl
  case k7 => rfl
  case k8 => rfl
  intro L h₁ F N _
  k_fold
  walk_at "go"
  rename Fr _ _ _ _ => F2
  rename News _ _ _ _ => N2
  refine while_J (n := ns.length) (fun n m news => news = [] ∧ ∃ (lo hi : Nat), IntAt m (Str.ofString "lo") lo ∧ IntAt m (Str.ofString "hi") hi ∧ m (Str.ofString "a") = some (.ref a) ∧ m (Str.ofString "x") = some (.str x tx) ∧
    lo ≤ hi ∧ hi ≤ ns.length ∧ n = hi - lo ∧ (∀ i (h : i < ns.length), i < lo → sle ns[i] x) ∧ (∀ i (h : i < ns.length), hi ≤ i → slt x ns[i])) F2 N2 ?_ ?_
  · refine ⟨rfl, 0, ns.length, ⟨_, rfl⟩, ⟨_, rfl⟩, rfl, rfl, Nat.zero_le _, Nat.le_refl _, rfl, ?_, ?_⟩
    · intro i h h0; omega
    · intro i h h0; omega
  · rintro n h tk m news ⟨rfl, lo, hi', ⟨tlo, e1⟩, ⟨thi, e2⟩, e3, e4, hle, hle2, rfl, hlo, hhi⟩ F3 N3
    clear F2 N2
    walk_at "go"
    · rename_i hlt _ _ hx _ F4 N4
      rw [mid_at] at hx F4
      rw [Int.toNat_natCast, sgetD_at (by omega)] at hx
      refine ⟨(lo + hi') / 2 - lo, _, _, _, _, by omega, rfl, F4, N4, rfl, lo, (lo + hi') / 2, ⟨_, e1⟩, ⟨_, rfl⟩, e3, e4, by omega, by omega, rfl, hlo, ?_⟩
      intro i h hi2
      exact slt_of_lt_le hx (spw hsort _ h hi2)
    · rename_i hlt _ _ hx _ F4 N4
      rw [mid_at] at hx F4
      rw [Int.toNat_natCast, sgetD_at (by omega)] at hx
      refine ⟨hi' - ((lo + hi') / 2 + 1), _, _, _, _, by omega, rfl, F4, N4, rfl, (lo + hi') / 2 + 1, hi', ⟨_, rfl⟩, ⟨_, e2⟩, e3, e4, by omega, by omega, rfl, ?_, hhi⟩
      intro i h hi2
      exact sle_trans (spw hsort h (by omega) (by omega)) (not_slt.mp hx)
    · have hc : ns.countP (fun y => decide (sle y x)) = lo := countP_at _ _ lo (by omega) (fun i h h2 => decide_eq_true (hlo i h h2)) (fun i h h2 => decide_eq_false ((fun q => not_slt.mpr q (hhi i h (by omega)))))
      have z := hQ tlo h tk F3.keep
      rw [hc] at z
      exact z

theorem bisR2_call {w : World} {A : Around} {s : Shared} {Q E : Value → Shared → Prop} {mean : ExcName → Option Value} {mg mb : Str → Option Value} {loose : List Str} {a : Addr} {vs : List Value} {ns : List Str} {x : Str} {tx : Tok}
   (X : (Mine.hd.heap_39 w.params).In s.heap) (T : Top Mine.hd.view_39 loose mean mg mb s.heap) (hh : A.handled = none) (hroom : A.depth < 900)
   (hl : s.heap.IsList a vs.toArray) (hi : StrsAre vs ns) (hlen : ns.length ≤ 1000) (hsort : ns.Pairwise sle)
   (hQ : ∀ t h' tk, (∀ b o, s.heap.get? b = some o → h'.get? b = some o) → Q (.int (ns.countP (fun y => decide (sle y x)) : Nat) t) { s with heap := h', toks := tk }) :
   wpAny (model PySem.Challenge.rw_ph0062_01.row.prog w) A (call (.ref 39) [.ref a, .str x tx]) Q E s := by
  revert X; k_fill; intro X
  refine' enter X T (Nat.lt_trans hroom (by decide)) ?k1 ?k2 ?k3 ?k4 ?k5 ?_ ?k6 ?k7 ?k8
  case k1 => exact rfl
  case k2 => k_is
  case k3 => exact kp_binds X fun _ => rfl
  case k4 => exact locs rfl
  case k5 => decide
  case k6 => rfl
  case k7 => rfl
  case k8 => rfl
  intro L h₁ F N _
  k_fold
  walk_at "go"
  rename Fr _ _ _ _ => F2
  rename News _ _ _ _ => N2
  refine while_J (n := ns.length) (fun n m news => news = [] ∧ ∃ (lo hi : Nat), IntAt m (Str.ofString "lo") lo ∧ IntAt m (Str.ofString "hi") hi ∧ m (Str.ofString "a") = some (.ref a) ∧ m (Str.ofString "x") = some (.str x tx) ∧
    lo ≤ hi ∧ hi ≤ ns.length ∧ n = hi - lo ∧ (∀ i (h : i < ns.length), i < lo → sle ns[i] x) ∧ (∀ i (h : i < ns.length), hi ≤ i → slt x ns[i])) F2 N2 ?_ ?_
  · refine ⟨rfl, 0, ns.length, ⟨_, rfl⟩, ⟨_, rfl⟩, rfl, rfl, Nat.zero_le _, Nat.le_refl _, rfl, ?_, ?_⟩
    · intro i h h0; omega
    · intro i h h0; omega
  · rintro n h tk m news ⟨rfl, lo, hi', ⟨tlo, e1⟩, ⟨thi, e2⟩, e3, e4, hle, hle2, rfl, hlo, hhi⟩ F3 N3
    clear F2 N2
    walk_at "go"
    · rename_i hlt _ _ hx _ F4 N4
      rw [mid_at] at hx F4
      rw [Int.toNat_natCast, sgetD_at (by omega)] at hx
      refine ⟨(lo + hi') / 2 - lo, _, _, _, _, by omega, rfl, F4, N4, rfl, lo, (lo + hi') / 2, ⟨_, e1⟩, ⟨_, rfl⟩, e3, e4, by omega, by omega, rfl, hlo, ?_⟩
      intro i h hi2
      exact slt_of_lt_le hx (spw hsort _ h hi2)
    · rename_i hlt _ _ hx _ F4 N4
      rw [mid_at] at hx F4
      rw [Int.toNat_natCast, sgetD_at (by omega)] at hx
      refine ⟨hi' - ((lo + hi') / 2 + 1), _, _, _, _, by omega, rfl, F4, N4, rfl, (lo + hi') / 2 + 1, hi', ⟨_, rfl⟩, ⟨_, e2⟩, e3, e4, by omega, by omega, rfl, ?_, hhi⟩
      intro i h hi2
      exact sle_trans (spw hsort h (by omega) (by omega)) (not_slt.mp hx)
    · have hc : ns.countP (fun y => decide (sle y x)) = lo := countP_at _ _ lo (by omega) (fun i h h2 => decide_eq_true (hlo i h h2)) (fun i h h2 => decide_eq_false ((fun q => not_slt.mpr q (hhi i h (by omega)))))
      have z := hQ tlo h tk F3.keep
      rw [hc] at z
      exact z

theorem bisL_call {w : World} {A : Around} {s : Shared} {Q E : Value → Shared → Prop} {mean : ExcName → Option Value} {mg mb : Str → Option Value} {loose : List Str} {a : Addr} {vs : List Value} {ns : List Str} {x : Str} {tx : Tok}
   (X : (Mine.hd.heap_39 w.params).In s.heap) (T : Top Mine.hd.view_39 loose mean mg mb s.heap) (hh : A.handled = none) (hroom : A.depth < 900)
   (hl : s.heap.IsList a vs.toArray) (hi : StrsAre vs ns) (hlen : ns.length ≤ 1000) (hsort : ns.Pairwise sle)
   (hQ : ∀ t h' tk, (∀ b o, s.heap.get? b = some o → h'.get? b = some o) → Q (.int (ns.countP (fun y => decide (slt y x)) : Nat) t) { s with heap := h', toks := tk }) :
   wpAny (model PySem.Challenge.rw_ph0062_01.row.prog w) A (call (.ref 48) [.ref a, .str x tx]) Q E s := by
  revert X; k_fill; intro X
  refine' enter X T (Nat.lt_trans hroom (by decide)) ?k1 ?k2 ?k3 ?k4 ?k5 ?_ ?k6 ?k7 ?k8
  case k1 => exact rfl
  case k2 => k_is
  case k3 => exact kp_binds X fun _ => rfl
  case k4 => exact locs rfl
  case k5 => decide
  case k6 => rfl
  case k7 => rfl
  case k8 => rfl
  intro L h₁ F N _
  k_fold
  walk_at "go"
  rename Fr _ _ _ _ => F2
  rename News _ _ _ _ => N2
  refine while_J (n := ns.length) (fun n m news => news = [] ∧ ∃ (lo hi : Nat), IntAt m (Str.ofString "lo") lo ∧ IntAt m (Str.ofString "hi") hi ∧ m (Str.ofString "a") = some (.ref a) ∧ m (Str.ofString "x") = some (.str x tx) ∧
    lo ≤ hi ∧ hi ≤ ns.length ∧ n = hi - lo ∧ (∀ i (h : i < ns.length), i < lo → slt ns[i] x) ∧ (∀ i (h : i < ns.length), hi ≤ i → sle x ns[i])) F2 N2 ?_ ?_
  · refine ⟨rfl, 0, ns.length, ⟨_, rfl⟩, ⟨_, rfl⟩, rfl, rfl, Nat.zero_le _, Nat.le_refl _, rfl, ?_, ?_⟩
    · intro i h h0; omega
    · intro i h h0; omega
  · rintro n h tk m news ⟨rfl, lo, hi', ⟨tlo, e1⟩, ⟨thi, e2⟩, e3, e4, hle, hle2, rfl, hlo, hhi⟩ F3 N3
    clear F2 N2
    walk_at "go"
    · rename_i hlt _ _ hx _ F4 N4
      rw [mid_at] at hx F4
      rw [Int.toNat_natCast, sgetD_at (by omega)] at hx
      refine ⟨hi' - ((lo + hi') / 2 + 1), _, _, _, _, by omega, rfl, F4, N4, rfl, (lo + hi') / 2 + 1, hi', ⟨_, rfl⟩, ⟨_, e2⟩, e3, e4, by omega, by omega, rfl, ?_, hhi⟩
      intro i h hi2
      exact slt_of_le_lt (spw hsort h (by omega) (by omega)) hx
    · rename_i hlt _ _ hx _ F4 N4
      rw [mid_at] at hx F4
      rw [Int.toNat_natCast, sgetD_at (by omega)] at hx
      refine ⟨(lo + hi') / 2 - lo, _, _, _, _, by omega, rfl, F4, N4, rfl, lo, (lo + hi') / 2, ⟨_, e1⟩, ⟨_, rfl⟩, e3, e4, by omega, by omega, rfl, hlo, ?_⟩
      intro i h hi2
      exact sle_trans (not_slt.mp hx) (spw hsort _ h hi2)
    · have hc : ns.countP (fun y => decide (slt y x)) = lo := countP_at _ _ lo (by omega) (fun i h h2 => decide_eq_true (hlo i h h2)) (fun i h h2 => decide_eq_false (not_slt.mpr (hhi i h (by omega))))
      have z := hQ tlo h tk F3.keep
      rw [hc] at z
      exact z
end Mine
end PC1a

section PC1b
open PySem PySem.W PyProof.Rows PySem.Calls
set_option maxRecDepth 100000
set_option maxHeartbeats 8000000
namespace Mine
local macro_rules | `(tactic| walk_at "eval Name") => `(tactic| (k_here; k_dflt (refine' ld ?k1 ?k2 ?_; (case k1 => k_asm); (case k2 => assumption); k_whole)))
local macro_rules | `(tactic| walk_at "go") => `(tactic| repeat' (first | (k_unfold; (try dsimp only)) | ((fail_if_success (with_reducible show wpAny _ _ (exec (Stmt.While _ _ _ _) _) _ _ _)); (fail_if_success (with_reducible show wpAny _ _ (exec (Stmt.For _ _ _ _ _) _) _ _ _)); (fail_if_success (with_reducible show wpAny _ _ (call (Value.ref _) _ _) _ _ _)); (first | walk1 | (dsimp only; walk1)))))

theorem ins_call {w : World} {A : Around} {s : Shared} {Q E : Value → Shared → Prop} {mean : ExcName → Option Value} {mg mb : Str → Option Value} {loose : List Str} {b₀ : Heap} {a : Addr} {vs : List Value} {n : Nat} {ns : List Str} {x : Str} {tx : Tok}
   (X : (Mine.hd.heap_39 w.params).In b₀) (T : Top Mine.hd.view_39 loose mean mg mb b₀) (hb : ∀ b o, b₀.get? b = some o → s.heap.get? b = some o) (ha₀ : b₀.get? a = none) (ha : s.heap.get? a = some (listOf vs.toArray n))
   (hh : A.handled = none) (hroom : A.depth < 800)
   (hi : StrsAre vs ns) (hlen : ns.length ≤ 999) (hsort : ns.Pairwise sle)
   (hQ : ∀ h' tk, (∀ b o, b ≠ a → s.heap.get? b = some o → h'.get? b = some o) → h'.get? a = some (listOf (kl_ins vs (ns.countP (fun y => decide (sle y x)) : Nat) (.str x tx)).toArray (n + 1)) → Q .none { s with heap := h', toks := tk }) :
   wpAny (model PySem.Challenge.rw_ph0062_01.row.prog w) A (call (.ref 30) [.ref a, .str x tx]) Q E s := by
  revert X; k_fill; intro X
  refine' enterM X T hb ha₀ ha (Nat.lt_trans hroom (by decide)) ?k1 ?k2 ?k3 ?k4 ?k5 ?_ ?k6 ?k7 ?k8
  case k1 => exact rfl
  case k2 => k_is
  case k3 => exact kp_binds (X.keeps hb) fun _ => rfl
  case k4 => exact locs rfl
  case k5 => decide
  case k6 => rfl
  case k7 => rfl
  case k8 => rfl
  intro g L h₁ Xg Tg kg haL F N
  clear X T
  k_fold
  walk_at "go"
  have hl : h₁.IsList a vs.toArray := ⟨_, (N _ (List.Mem.head _)).1, rfl, n, rfl⟩
  refine bisR_call (Xg.keeps F.keep) (Tg.keeps F.keep) hh ?_ hl hi (by omega) hsort ?_
  · show A.depth + 1 < 900; omega
  · intro t h' tk' k'
    have F' := F.keeps k'
    have N' := N.grown k'
    clear F N hl
    dsimp only
    walk_at "go"
    rename Fr _ _ _ _ => F2
    rename News _ _ _ _ => N2
    have hlv : vs.length = ns.length := hi.length
    have hc : ns.countP (fun y => decide (sle y x)) ≤ ns.length := List.countP_le_length
    refine kl_insert (its := vs.toArray) (n := n) F2 N2 ?_ rfl (Upd.head (fun p hp => nomatch hp)) ?_ ?_
    · simp only [Builtin.List.listFitsIndex, Bool.and_eq_true, decide_eq_true_eq]
      have : (2:Int)^63 = 9223372036854775808 := by decide
      omega
    · rw [sizeLine_eq]; show vs.length ≤ _; omega
    · intro h'' F3 N3
      clear F2 N2
      dsimp only
      walk_at "go"
      exact hQ _ _ (fun b o hne e => F3.keep b o (kg b o hne e)) (N3 _ (List.Mem.head _)).1
end Mine
end PC1b

section PC1c
open PySem PySem.W PyProof.Rows PySem.Calls
set_option maxRecDepth 100000
set_option maxHeartbeats 8000000
namespace Mine
local macro_rules | `(tactic| walk_at "eval Name") => `(tactic| (k_here; k_dflt (refine' ld ?k1 ?k2 ?_; (case k1 => k_asm); (case k2 => assumption); k_whole)))
local macro_rules | `(tactic| walk_at "go") => `(tactic| repeat' (first | (k_unfold; (try dsimp only)) | ((fail_if_success (with_reducible show wpAny _ _ (exec (Stmt.While _ _ _ _) _) _ _ _)); (fail_if_success (with_reducible show wpAny _ _ (exec (Stmt.For _ _ _ _ _) _) _ _ _)); (fail_if_success (with_reducible show wpAny _ _ (call (Value.ref _) _ _) _ _ _)); (first | walk1 | (dsimp only; walk1)))))
def repl : Str → List Str → Str
  | t, p0 :: p1 :: r => repl (Txt.join p1 (Txt.split t p0)) r
  | t, _ => t
def okPairs : Str → List Str → Prop
  | t, p0 :: p1 :: r => (p0.length == 0) = false ∧ p1.length ≤ 64 ∧ t.length ≤ 1000 ∧ okPairs (Txt.join p1 (Txt.split t p0)) r
  | _, [_] => False
  | _, [] => True
theorem repl_call {w : World} {A : Around} {s : Shared} {Q E : Value → Shared → Prop} {mean : ExcName → Option Value} {mg mb : Str → Option Value} {loose : List Str} {x : Str} {tx : Tok} {vals : List Value} {ps : List Str}
   (X : (Mine.hd.heap_39 w.params).In s.heap) (T : Top Mine.hd.view_39 loose mean mg mb s.heap)
   (hh : A.handled = none) (hroom : A.depth < 800) (hps : StrsAre vals ps) (hlen : ps.length ≤ 100) (hok : okPairs x ps)
   (hQ : ∀ t h' tk, (∀ b o, s.heap.get? b = some o → h'.get? b = some o) → Q (.str (repl x ps) t) { s with heap := h', toks := tk }) :
   wpAny (model PySem.Challenge.rw_ph0062_01.row.prog w) A (call (.ref 21) (.str x tx :: vals)) Q E s := by
  revert X; k_fill; intro X
  refine' enterV (front := [(Str.ofString "text", .str x tx)]) (va := Str.ofString "pairs") (vs := vals) X T (Nat.lt_trans hroom (by decide)) ?k1 ?k2 ?k3 ?kz ?k4 ?k5 ?_ ?k6 ?k7 ?k8
  case k1 => exact rfl
  case k2 => k_is
  case k3 =>
    unfold bindArgs
    simp only [Option.isNone_some, Bool.and_false, Bool.false_eq_true, if_false]
    rfl
  case kz => rw [sizeLine_eq, hps.length]; omega
  case k4 => exact fun t => locs rfl
  case k5 => decide
  case k6 => rfl
  case k7 => rfl
  case k8 => rfl
  intro P L h₁ F N
  k_fold
  walk_at "go"
  refine while_J (n := ps.length) (fun n m news => ∃ (t : Str) (u : Tok) (P : Addr) (vals' : List Value) (ps' : List Str), n = ps'.length ∧ StrsAre vals' ps' ∧ m (Str.ofString "text") = some (.str t u) ∧ m (Str.ofString "pairs") = some (.ref P) ∧
     news = [(P, ({ cls := .type "tuple", data := .seq vals'.toArray } : Obj))] ∧ repl t ps' = repl x ps ∧ ps'.length ≤ 100 ∧ okPairs t ps') F N ⟨x, tx, P, vals, ps, rfl, hps, rfl, rfl, rfl, rfl, hlen, hok⟩ ?_
  rintro n h tk m news ⟨t, u, P', vals', ps', rfl, hv, e1, e2, rfl, hrepl, hlen', hok'⟩ F3 N3
  clear F N
  cases hv with
  | nil =>
    walk_at "go"
    have z := hQ u h tk F3.keep
    rw [← hrepl] at z
    exact z
  | cons p0 t0 hv =>
    cases hv with
    | nil => exact hok'.elim
    | @cons p1 t1 vals2 ps2 hv =>
      obtain ⟨hp0, hp1, htl, hok2⟩ := hok'
      have hl2 : vals2.length = ps2.length := hv.length
      walk_at "go"
      refine ktl_truthyK N3 (List.Mem.head _) (by simp only [List.length_cons] at hlen' ⊢; omega) ?_
      simp only [List.isEmpty_cons, Bool.not_false, if_true]
      walk_at "go"
      refine tsub1 N3 (List.Mem.head _) ?_
      walk_at "go"
      refine tsub0 N3 (List.Mem.head _) ?_
      walk_at "go"
      rename_i l h2 tk2 el hS hP hIs F5 N5
      have hln : l.length ≤ t.length + 2 := by
        have e := congrArg List.length el
        have := split_len t p0
        simp only [List.length_map] at e
        omega
      refine join_listC hIs hS hp1 ?_ ?_
      · have := sum_le _ hP
        simp only [List.length_map] at this ⊢
        have : l.length * t.length ≤ 1002 * 1000 := Nat.mul_le_mul (by omega) htl
        omega
      intro t' k'
      rw [el]
      dsimp only
      walk_at "go"
      rename Fr _ _ _ _ => F6
      rename News _ _ _ _ => N6
      have hl3 : (Value.str p0 t0 :: Value.str p1 t1 :: vals2).toArray.size ≤ 100 := by
        simp only [List.length_cons] at hlen'
        simp only [List.size_toArray, List.length_cons]
        omega
      refine slice_tuple_from (a := 2) F6 N6 ⟨_, (N6 _ (List.Mem.tail _ (List.Mem.head _))).1, rfl, _, rfl⟩ (by decide) (by simp) ?_ (hsz := by rw [sizeLine_eq]; omega)
      intro h7 F7 N7
      dsimp only at F7 N7 ⊢
      clear F6 N6
      walk_at "go"
      rename Fr _ _ _ _ => F8
      rename News _ _ _ _ => N8
      refine ⟨ps2.length, _, _, _, _, by simp only [List.length_cons]; omega, rfl, F8, fun p hp => N8 p (List.mem_cons.mpr (.inl (List.mem_singleton.mp hp))), _, _, _, vals2, ps2, rfl, hv, rfl, rfl, rfl, ?_, ?_, hok2⟩
      · exact hrepl
      · simp only [List.length_cons] at hlen'; omega
end Mine
end PC1c

section PC1d
open PySem PySem.W PyProof.Rows PySem.Calls
set_option maxRecDepth 100000
set_option maxHeartbeats 8000000
namespace Mine
local macro_rules | `(tactic| walk_at "go") => `(tactic| (repeat' (first | (k_unfold; (try dsimp only)) | ((fail_if_success (with_reducible show wpAny _ _ (exec (Stmt.While _ _ _ _) _) _ _ _)); (fail_if_success (with_reducible show wpAny _ _ (exec (Stmt.For _ _ _ _ _) _) _ _ _)); (fail_if_success (with_reducible show wpAny _ _ (call (Value.ref _) _ _) _ _ _)); (fail_if_success (with_reducible show wpAny _ _ (pyIter _) _ _ _)); (first | walk1 | (dsimp only; walk1)))); all_goals (try k_data)))

def turnS (x : Str) (p : Int) : Str := Txt.slice x (some p) none ++ Txt.slice x none (some p)
theorem turn_call {w : World} {A : Around} {s : Shared} {Q E : Value → Shared → Prop} {mean : ExcName → Option Value} {mg mb : Str → Option Value} {loose : List Str} {x : Str} {t1 t2 : Tok} {p : Int}
   (X : (Mine.hd.heap_39 w.params).In s.heap) (T : Top Mine.hd.view_39 loose mean mg mb s.heap) (hroom : A.depth < 800) (hp : 0 ≤ p) (hp2 : p ≤ 1000) (hx : x.length ≤ 1000)
   (hQ : ∀ t h' tk, (∀ b o, s.heap.get? b = some o → h'.get? b = some o) → Q (.str (turnS x p) t) { s with heap := h', toks := tk }) :
   wpAny (model PySem.Challenge.rw_ph0062_01.row.prog w) A (call (.ref 69) [.str x t1, .int p t2]) Q E s := by
  revert X; k_fill; intro X
  refine' enter (binds := [(Str.ofString "letters", .str x t1), (Str.ofString "place", .int p t2)]) X T (Nat.lt_trans hroom (by decide)) ?k1 ?k2 ?k3 ?k4 ?k5 ?_ ?k6 ?k7 ?k8
  case k1 => exact rfl
  case k2 => k_is
  case k3 => exact BindsTo.of_eq rfl
  case k4 => exact locs rfl
  case k5 => decide
  case k6 => rfl
  case k7 => rfl
  case k8 => rfl
  intro L h₁ F N _
  k_fold
  walk_at "go"
  rename Fr _ _ _ _ => F2
  exact hQ _ _ _ F2.keep

def mulA (c : Int) : Str := Txt.mul (Str.ofString "a") c ++ Str.ofString "b"
theorem pairs_call {w : World} {A : Around} {s : Shared} {Q E : Value → Shared → Prop} {mean : ExcName → Option Value} {mg mb : Str → Option Value} {loose : List Str} {c : Int} {t1 : Tok}
   (X : (Mine.hd.heap_39 w.params).In s.heap) (T : Top Mine.hd.view_39 loose mean mg mb s.heap) (hroom : A.depth < 800) (hp : 0 ≤ c) (hp2 : c ≤ 2)
   (hQ : ∀ d vs' n h' tk, (∀ b o, s.heap.get? b = some o → h'.get? b = some o) → h'.get? d = some (listOf vs'.toArray n) → s.heap.get? d = none → StrsAre vs' [Str.ofString "b", Str.ofString "c", Str.ofString "a", mulA c, Str.ofString "c", Str.ofString "a"] → Q (.ref d) { s with heap := h', toks := tk }) :
   wpAny (model PySem.Challenge.rw_ph0062_01.row.prog w) A (call (.ref 55) [.int c t1]) Q E s := by
  revert X; k_fill; intro X
  refine' enter (binds := [(Str.ofString "count", .int c t1)]) X T (Nat.lt_trans hroom (by decide)) ?k1 ?k2 ?k3 ?k4 ?k5 ?_ ?k6 ?k7 ?k8
  case k1 => exact rfl
  case k2 => k_is
  case k3 => exact BindsTo.of_eq rfl
  case k4 => exact locs rfl
  case k5 => decide
  case k6 => rfl
  case k7 => rfl
  case k8 => rfl
  intro L h₁ F N _
  k_fold
  walk_at "go"
  rename Fr _ _ _ _ => F2
  rename News _ _ _ _ => N2
  exact hQ _ _ _ _ _ F2.keep (N2 _ (List.Mem.head _)).1 (N2 _ (List.Mem.head _)).2.2 (.cons _ _ (.cons _ _ (.cons _ _ (.cons _ _ (.cons _ _ (.cons _ _ .nil))))))
theorem back_call {w : World} {A : Around} {s : Shared} {Q E : Value → Shared → Prop} {mean : ExcName → Option Value} {mg mb : Str → Option Value} {loose : List Str} {c : Int} {t1 : Tok}
   (X : (Mine.hd.heap_39 w.params).In s.heap) (T : Top Mine.hd.view_39 loose mean mg mb s.heap) (hroom : A.depth < 800) (hp : 0 ≤ c) (hp2 : c ≤ 2)
   (hQ : ∀ d vs' n h' tk, (∀ b o, s.heap.get? b = some o → h'.get? b = some o) → h'.get? d = some (listOf vs'.toArray n) → s.heap.get? d = none → StrsAre vs' [mulA c, Str.ofString "c", Str.ofString "a", Str.ofString "b", Str.ofString "c", Str.ofString "a"] → Q (.ref d) { s with heap := h', toks := tk }) :
   wpAny (model PySem.Challenge.rw_ph0062_01.row.prog w) A (call (.ref 62) [.int c t1]) Q E s := by
  revert X; k_fill; intro X
  refine' enter (binds := [(Str.ofString "count", .int c t1)]) X T (Nat.lt_trans hroom (by decide)) ?k1 ?k2 ?k3 ?k4 ?k5 ?_ ?k6 ?k7 ?k8
  case k1 => exact rfl
  case k2 => k_is
  case k3 => exact BindsTo.of_eq rfl
  case k4 => exact locs rfl
  case k5 => decide
  case k6 => rfl
  case k7 => rfl
  case k8 => rfl
  intro L h₁ F N _
  k_fold
  walk_at "go"
  rename Fr _ _ _ _ => F2
  rename News _ _ _ _ => N2
  exact hQ _ _ _ _ _ F2.keep (N2 _ (List.Mem.head _)).1 (N2 _ (List.Mem.head _)).2.2 (.cons _ _ (.cons _ _ (.cons _ _ (.cons _ _ (.cons _ _ (.cons _ _ .nil))))))
end Mine
end PC1d

section PC1e
open PySem PySem.W PyProof.Rows PySem.Calls
set_option maxRecDepth 100000
set_option maxHeartbeats 8000000
namespace Mine
local macro_rules | `(tactic| walk_at "eval Name") => `(tactic| (k_here; k_dflt (refine' ld ?k1 ?k2 ?_; (case k1 => k_asm); (case k2 => assumption); k_whole)))
local macro_rules | `(tactic| walk_at "go") => `(tactic| (repeat' (first | (k_unfold; (try dsimp only)) | ((fail_if_success (with_reducible show wpAny _ _ (exec (Stmt.While _ _ _ _) _) _ _ _)); (fail_if_success (with_reducible show wpAny _ _ (exec (Stmt.For _ _ _ _ _) _) _ _ _)); (fail_if_success (with_reducible show wpAny _ _ (call (Value.ref _) _ _) _ _ _)); (fail_if_success (with_reducible show wpAny _ _ (pyIter _) _ _ _)); (fail_if_success (with_reducible show wpAny _ _ (assign (PySem.Expr.Tuple _ _ _) _ _) _ _ _)); (fail_if_success (with_reducible show wpAny _ _ (subscriptTail _ _ (Value.ref _) (Value.int _ _)) _ _ _)); (first | walk1 | (dsimp only; walk1)))); all_goals (try k_data)))

def trs (g : Str) (n : Nat) : List Str := (List.range n).map fun (i : Nat) => turnS g i
theorem trs_succ (g : Str) (n : Nat) : trs g (n + 1) = trs g n ++ [turnS g n] := by unfold trs; rw [List.range_succ, List.map_append]; rfl

theorem strs_take {vs : List Value} {xs : List Str} (h : StrsAre vs xs) : ∀ k, StrsAre (vs.take k) (xs.take k) := by
  induction h with
  | nil => intro k; simp; exact .nil
  | cons y t _ ih =>
    intro k
    cases k with
    | zero => exact .nil
    | succ k => exact .cons y t (ih k)
theorem strs_drop {vs : List Value} {xs : List Str} (h : StrsAre vs xs) : ∀ k, StrsAre (vs.drop k) (xs.drop k) := by
  induction h with
  | nil => intro k; simp; exact .nil
  | cons y t hr ih =>
    intro k
    cases k with
    | zero => exact .cons y t hr
    | succ k => exact ih k
theorem known_call {w : World} {A : Around} {s : Shared} {Q E : Value → Shared → Prop} {mean : ExcName → Option Value} {mg mb : Str → Option Value} {loose : List Str} {g : Str} {tg : Tok} {pl : Addr} {vs : List Value} {rows : List Row3}
   (X : (Mine.hd.heap_39 w.params).In s.heap) (T : Top Mine.hd.view_39 loose mean mg mb s.heap) (hh : A.handled = none) (hroom : A.depth < 700)
   (hl : s.heap.IsList pl vs.toArray) (hR : All2 (TupAt s.heap) rows vs) (hrl : rows.length = g.length) (hgl : g.length ≤ 500)
   (hpure : ∀ i (hi : i < rows.length), rows[i].2.1 = ((trs g g.length).countP (fun y => decide (slt y (turnS g i))) : Nat) ∧ rows[i].2.2 = ((trs g g.length).countP (fun y => decide (sle y (turnS g i))) : Nat))
   (hQ : ∀ h' tk, (∀ b o, s.heap.get? b = some o → h'.get? b = some o) → Q (.bool true) { s with heap := h', toks := tk }) :
   wpAny (model PySem.Challenge.rw_ph0062_01.row.prog w) A (call (.ref 86) [.str g tg, .ref pl]) Q E s := by
  revert X; k_fill; intro X
  refine' enter (binds := [(Str.ofString "grown", .str g tg), (Str.ofString "places", .ref pl)]) X T (Nat.lt_trans hroom (by decide)) ?k1 ?k2 ?k3 ?k4 ?k5 ?_ ?k6 ?k7 ?k8
  case k1 => exact rfl
  case k2 => k_is
  case k3 => exact BindsTo.of_eq rfl
  case k4 => exact locs rfl
  case k5 => decide
  case k6 => rfl
  case k7 => rfl
  case k8 => rfl
  intro L h₁ F N _
  k_fold
  walk_at "go"
  refine wpAny_For ?_
  walk_at "go"
  rename_i rw _ _ _ _ _ h3 tk4 _ _ _ hr F2 N2 k3
  refine for_range (n := g.length) hh (fun i m news => ∃ vr n, news = [(rw, listOf vr.toArray n)] ∧ StrsAre vr (insAllS (trs g i)) ∧ m (Str.ofString "row") = some (.ref rw) ∧ m (Str.ofString "grown") = some (.str g tg) ∧ m (Str.ofString "places") = some (.ref pl)) hr (rng_small _ (by omega)) (rng_size _) F2 N2 ?_ ?_ ?_
  · exact ⟨[], 0, rfl, .nil, rfl, rfl, rfl⟩
  · rintro i t oI h tk m news hlt ⟨vr, n, rfl, hvr, e1, e2, e3⟩ F3 N3 off
    have hd' := off _ (List.Mem.head _)
    have e0 : (0:Int) + (i:Int) = (i : Int) := by omega
    rw [e0]
    clear F2 N2 k3
    have hll := insAllS_length (trs g i)
    have hl2 : (trs g i).length = i := by unfold trs; simp
    walk_at "go"
    rename Fr _ _ _ _ => F4
    rename News _ _ _ _ => N4
    refine turn_call (X.keeps F4.keep) (T.keeps F4.keep) ?_ (by omega) (by omega) (by omega) ?_
    · show A.depth + 1 < 800; omega
    intro t5 h5 tk5 k5
    have F5 := F4.keeps k5
    have N5 := N4.grown k5
    clear F4 N4 k5
    dsimp only
    walk_at "go"
    rename StrsAre vr _ => hvr
    refine ins_call X T F5.keep (N5 _ (List.Mem.tail _ (List.Mem.head _))).2.2 (N5 _ (List.Mem.tail _ (List.Mem.head _))).1 hh ?_ hvr (by omega) (insAllS_sorted _) ?_
    · show A.depth + 1 < 800; omega
    intro h6 tk6 k6 ho6
    have F6 := fr_ins F5 k6 (N5 _ (List.Mem.tail _ (List.Mem.head _))).2.1 (N5 _ (List.Mem.tail _ (List.Mem.head _))).2.2
    have N6 := news_ins N5 k6 ho6 (Ne.symm hd') (fun p hp => nomatch hp)
    clear F5 N5
    dsimp only
    walk_at "go"
    refine ⟨_, _, _, _, rfl, F6, N6, (fun p hp => by rw [List.mem_singleton.mp hp]; exact hd'), _, _, rfl, ?_, e1, e2, e3⟩
    have hle : (insAllS (trs g i)).countP (fun y => decide (sle y (turnS g i))) ≤ vr.length := by rw [hvr.length]; exact List.countP_le_length
    rw [trs_succ, insAllS_snoc]
    unfold kl_ins insS
    rw [if_neg (by omega), Int.toNat_natCast, Nat.min_eq_left hle]
    exact strs_append (strs_take hvr _) (.cons _ _ (strs_drop hvr _))
  · rintro h tk m news ⟨vr, n, rfl, hvr, e1, e2, e3⟩ F3 N3
    clear F2 N2 k3
    walk_at "go"
    refine wpAny_For ?_
    walk_at "go"
    rename StrsAre vr _ => hvr
    have hll := insAllS_length (trs g g.length)
    have hl2 : (trs g g.length).length = g.length := by unfold trs; simp
    rename_i h3 tk4 _ _ _ hr F4 N4 k4
    refine for_range (n := g.length) hh (fun i m news => news = [(rw, listOf vr.toArray n)] ∧ m (Str.ofString "row") = some (.ref rw) ∧ m (Str.ofString "grown") = some (.str g tg) ∧ m (Str.ofString "places") = some (.ref pl)) hr (rng_small _ (by omega)) (rng_size _) F4 N4 ⟨rfl, e1, e2, e3⟩ ?_ ?_
    · rintro i t oI h5 tk5 m5 news hlt ⟨rfl, q1, q2, q3⟩ F5 N5 off
      have hd' := off _ (List.Mem.head _)
      have e0 : (0:Int) + (i:Int) = (i : Int) := by omega
      rw [e0]
      clear F4 N4 k4 hr
      walk_at "go"
      rename Fr _ _ _ _ => F6
      rename News _ _ _ _ => N6
      refine turn_call (X.keeps F6.keep) (T.keeps F6.keep) ?_ (by omega) (by omega) (by omega) ?_
      · show A.depth + 1 < 800; omega
      intro t7 h7 tk7 k7
      have F7 := F6.keeps k7
      have N7 := N6.grown k7
      clear F6 N6 k7
      dsimp only
      walk_at "go"
      rename Fr _ _ _ _ => F8
      rename News _ _ _ _ => N8
      have hir : i < rows.length := by omega
      obtain ⟨v, hv, ta, t1, t2, t3, nn, rfl, hta⟩ := hR.at hir
      obtain ⟨hp1, hp2⟩ := hpure i hir
      refine itemL (hl.at fun o e => F8.keep _ _ e) (by omega) hv ?_
      dsimp only
      refine asg3 hh F8 N8 ⟨_, F8.keep _ _ hta, rfl, _, rfl⟩ rfl rfl rfl rfl ?_
      intro h9 tk9 F9 N9
      clear F8 N8
      rw [hp1, hp2] at F9
      change Fr s.heap L h9 _ at F9
      change News s.heap L h9 _ at N9
      dsimp only
      walk_at "go"
      rename StrsAre vr _ => hvr
      refine bisL_call (X.keeps F9.keep) (T.keeps F9.keep) hh ?_ ⟨_, (N9 _ (List.Mem.tail _ (List.Mem.head _))).1, rfl, _, rfl⟩ hvr (by omega) (insAllS_sorted _) ?_
      · show A.depth + 1 < 900; omega
      intro t10 h10 tk10 k10
      have F10 := F9.keeps k10
      have N10 := N9.grown k10
      clear F9 N9 k10
      rw [(insAllS_perm _).countP_eq]
      dsimp only
      walk_at "go"
      · exact absurd rfl (by assumption)
      rename StrsAre vr _ => hvr
      refine bisR2_call (X.keeps F10.keep) (T.keeps F10.keep) hh ?_ ⟨_, (N10 _ (List.Mem.tail _ (List.Mem.head _))).1, rfl, _, rfl⟩ hvr (by omega) (insAllS_sorted _) ?_
      · show A.depth + 1 < 900; omega
      intro t11 h11 tk11 k11
      have F11 := F10.keeps k11
      have N11 := N10.grown k11
      clear F10 N10 k11
      rw [(insAllS_perm _).countP_eq]
      dsimp only
      walk_at "go"
      · exact absurd rfl (by assumption)
      refine ⟨_, _, _, _, rfl, F11, N11, (fun p hp => by rw [List.mem_singleton.mp hp]; exact hd'), rfl, q1, q2, q3⟩
    · rintro h5 tk5 m5 news ⟨rfl, q1, q2, q3⟩ F5 N5
      walk_at "go"
      exact hQ _ _ F5.keep
end Mine
end PC1e

section PC1f
open PySem PySem.W PyProof.Rows PySem.Calls
set_option maxRecDepth 100000
set_option maxHeartbeats 8000000
namespace Mine
local macro_rules | `(tactic| walk_at "eval Name") => `(tactic| (k_here; k_dflt (refine' ld ?k1 ?k2 ?_; (case k1 => k_asm); (case k2 => assumption); k_whole)))
local macro_rules | `(tactic| walk_at "eval Name") => `(tactic| (k_here; (with_reducible show wpAny _ _ (eval (PySem.Expr.Name _ _) (compEnvC _ _ _ _)) _ _ _); k_dflt (first
  | (refine' cmL ?k1 ?k2 ?_; (case k1 => k_asm); (case k2 => first | exact rfl | assumption); k_whole)
  | (refine' cmC ?k1 ?k2 ?k3 ?k4 ?_; (case k4 => exact rfl); (case k1 => k_asm); (case k2 => assumption); (case k3 => assumption); k_whole)
  | (refine' cmK ?k1 ?k2 ?k3 ?k4 ?_; (case k1 => k_asm); (case k2 => k_asm); (case k3 => k_asm); (case k4 => k_is); k_whole)
  | (refine' cmB ?k1 ?k2 ?k3 ?k4 ?k5 ?k6 ?_; (case k1 => k_asm); (case k2 => k_asm); (case k3 => k_asm); (case k4 => k_is); (case k5 => boot_by_name); (case k6 => decide); k_whole))))
local macro_rules | `(tactic| walk_at "go") => `(tactic| (repeat' (first | (k_unfold; (try dsimp only)) | ((fail_if_success (with_reducible show wpAny _ _ (exec (Stmt.While _ _ _ _) _) _ _ _)); (fail_if_success (with_reducible show wpAny _ _ (exec (Stmt.For _ _ _ _ _) _) _ _ _)); (fail_if_success (with_reducible show wpAny _ _ (call (Value.ref _) _ _) _ _ _)); (fail_if_success (with_reducible show wpAny _ _ (call (Value.builtin "list.append") _ _) _ _ _)); (fail_if_success (with_reducible show wpAny _ _ (pyIter _) _ _ _)); (fail_if_success (with_reducible show wpAny _ _ (eval (PySem.Expr.ListComp _ _ _ _) _) _ _ _)); (fail_if_success (with_reducible show wpAny _ _ (assign (PySem.Expr.Tuple _ _ _) _ _) _ _ _)); (fail_if_success (with_reducible show wpAny _ _ (subscriptTail _ _ (Value.ref _) (Value.int _ _)) _ _ _)); (first | walk1 | (dsimp only; walk1)))); all_goals (try k_data)))

def lettersOf (c : Int) (l : Str) : Str := if l = Str.ofString "a" then mulA c else Str.ofString "a"
def growRow (size many c : Int) (r : Row3) : List Row3 := (List.range (lettersOf c r.1).length).map fun (k : Nat) => (Txt.item (lettersOf c r.1) k, size - r.2.2 + k * many, size - r.2.1 + k * many)
def manyOf (rows : List Row3) : Nat := rows.countP fun r => decide (r.1 = Str.ofString "a")
def growR (c : Int) (rows : List Row3) : List Row3 := rows.flatMap (growRow rows.length (manyOf rows) c)

theorem many_len (rows : List Row3) : ((List.range rows.length).filterMap fun i => if (rows.getD i (Str.empty, 0, 0)).1 = Str.ofString "a" then some (Str.ofString "a") else none).length = manyOf rows := by
  unfold manyOf
  induction rows with
  | nil => rfl
  | cons r t ih =>
    rw [List.length_cons, List.range_succ_eq_map, List.filterMap_cons]
    have e : ((List.range t.length).map Nat.succ).filterMap (fun i => if ((r :: t).getD i (Str.empty, 0, 0)).1 = Str.ofString "a" then some (Str.ofString "a") else none) = (List.range t.length).filterMap (fun i => if (t.getD i (Str.empty, 0, 0)).1 = Str.ofString "a" then some (Str.ofString "a") else none) := by
      rw [List.filterMap_map]; rfl
    by_cases h : r.1 = Str.ofString "a"
    · rw [List.countP_cons_of_pos (p := fun r : Row3 => decide (r.1 = Str.ofString "a")) (decide_eq_true h)]
      have h0 : ((r :: t).getD 0 (Str.empty, 0, 0)).1 = Str.ofString "a" := h
      simp only [h0, if_true, e, List.length_cons, ih]
    · rw [List.countP_cons_of_neg (p := fun r : Row3 => decide (r.1 = Str.ofString "a")) (by simpa using h)]
      have h0 : ¬ ((r :: t).getD 0 (Str.empty, 0, 0)).1 = Str.ofString "a" := h
      simp only [h0, if_false, e, ih]
theorem lettersOf_len {c : Int} (hc : 0 ≤ c) (hc2 : c ≤ 2) (l : Str) : (lettersOf c l).length ≤ 3 := by
  unfold lettersOf
  split
  · have h3 : c = 0 ∨ c = 1 ∨ c = 2 := by omega
    rcases h3 with rfl | rfl | rfl <;> decide +kernel
  · decide +kernel
theorem growRow_len {size many c : Int} (hc : 0 ≤ c) (hc2 : c ≤ 2) (r : Row3) : (growRow size many c r).length ≤ 3 := by
  unfold growRow; rw [List.length_map, List.length_range]; exact lettersOf_len hc hc2 _
theorem flat_len {α β : Type} {f : α → List β} {k : Nat} (h : ∀ a, (f a).length ≤ k) : ∀ l : List α, (l.flatMap f).length ≤ l.length * k
  | [] => by simp
  | a :: l => by
    rw [List.flatMap_cons, List.length_append, List.length_cons, Nat.succ_mul]
    have := flat_len h l
    have := h a
    omega
theorem growRow_take {g : List Row3} {f : Nat → Row3} {n : Nat} (h : g = (List.range n).map f) (k : Nat) (hk : k < n) : g.take (k + 1) = g.take k ++ [f k] := by
  subst h
  rw [← List.map_take, ← List.map_take, List.take_range, List.take_range, Nat.min_eq_left (by omega), Nat.min_eq_left (by omega), List.range_succ, List.map_append]
  rfl
theorem grown_call {w : World} {A : Around} {s : Shared} {Q E : Value → Shared → Prop} {mean : ExcName → Option Value} {mg mb : Str → Option Value} {loose : List Str} {c : Int} {tc : Tok} {pl : Addr} {vs : List Value} {rows : List Row3}
   (X : (Mine.hd.heap_39 w.params).In s.heap) (T : Top Mine.hd.view_39 loose mean mg mb s.heap) (hh : A.handled = none) (hroom : A.depth < 700)
   (hl : s.heap.IsList pl vs.toArray) (hR : All2 (TupAt s.heap) rows vs) (hrl : rows.length ≤ 100) (hc : 0 ≤ c) (hc2 : c ≤ 2) (hb : ∀ r ∈ rows, 0 ≤ r.2.1 ∧ r.2.1 ≤ 1000 ∧ 0 ≤ r.2.2 ∧ r.2.2 ≤ 1000)
   (hQ : ∀ d vs' n tups h' tk, (∀ b o, s.heap.get? b = some o → h'.get? b = some o) → (∀ p ∈ (d, listOf vs'.toArray n) :: tups, h'.get? p.1 = some p.2 ∧ s.heap.get? p.1 = none) → (∀ p ∈ tups, p.1 ≠ d) → All2 (TupIn tups) (growR c rows) vs' → Q (.ref d) { s with heap := h', toks := tk }) :
   wpAny (model PySem.Challenge.rw_ph0062_01.row.prog w) A (call (.ref 79) [.ref pl, .int c tc]) Q E s := by
  revert X; k_fill; intro X
  refine' enter (binds := [(Str.ofString "places", .ref pl), (Str.ofString "count", .int c tc)]) X T (Nat.lt_trans hroom (by decide)) ?k1 ?k2 ?k3 ?k4 ?k5 ?_ ?k6 ?k7 ?k8
  case k1 => exact rfl
  case k2 => k_is
  case k3 => exact BindsTo.of_eq rfl
  case k4 => exact locs rfl
  case k5 => decide
  case k6 => rfl
  case k7 => rfl
  case k8 => rfl
  intro L h₁ F N _
  k_fold
  walk_at "go"
  have hvl : vs.length = rows.length := hR.length
  refine lenL (hl.at fun o e => F.keep _ _ e) (by omega) ?_
  intro tz tkz
  rw [hvl]
  dsimp only
  walk_at "go"
  refine comp_list (V := fun (x : Str) v => ∃ t, v = Value.str x t) (f := fun i => if (rows.getD i (Str.empty, 0, 0)).1 = Str.ofString "a" then some (Str.ofString "a") else none) hh rfl (by decide) rfl (by decide) ?_
  walk_at "go"
  rename Fr _ _ _ _ => F2
  rename News _ _ _ _ => N2
  refine ⟨_, vs.toArray, rfl, hl.at fun o e => F2.keep _ _ e, by rw [List.size_toArray]; omega, ?_, ?_⟩
  · rintro i v C I oI D oD h3 tk3 m3 hv F3 N3
    obtain ⟨hi3, ta, t1, t2, t3, nn, rfl, hta⟩ := hR.get (by simpa using hv)
    have hta2 := F2.keep _ _ hta
    clear F2 N2
    dsimp only at F3 N3 hta2 ⊢
    refine asg3 hh F3 N3 ⟨_, F3.keep _ _ hta2, rfl, _, rfl⟩ rfl rfl rfl rfl ?_
    intro h4 tk4 F4 N4
    change Fr _ C h4 _ at F4
    change News _ C h4 _ at N4
    clear F3 N3
    refine wpAny_tests_one ?_
    have e : (rows.getD i (Str.empty, 0, 0)) = rows[i] := by simp [List.getD, hi3]
    dsimp only
    walk_at "go"
    · have ha : rows[i].1 = Str.ofString "a" := eq_of_beq (by assumption)
      refine ⟨⟨_, _, _, rfl, F4, N4⟩, Str.ofString "a", ?_, _, by rw [ha]⟩
      rw [e, if_pos ha]
    · have ha : ¬ rows[i].1 = Str.ofString "a" := fun q => by
        have : (rows[i].1 == Str.ofString "a") = false := by assumption
        rw [q] at this
        simp at this
      refine ⟨⟨_, _, _, rfl, F4, N4⟩, ?_⟩
      rw [e, if_neg ha]
  · intro D h3 tk3 ys k3 kD kD0 hA
    have F3 := F2.keeps k3
    have N3 := news_new F2 N2 k3 kD kD0
    have hyl : ys.length = manyOf rows := by
      rw [hA.length, List.size_toArray, hvl]
      exact many_len rows
    have hml : manyOf rows ≤ rows.length := List.countP_le_length
    clear F2 N2 k3 kD kD0 hA
    dsimp only
    walk_at "go"
    have hD : h3.IsList D ys.toArray := ⟨_, (N3 _ (List.Mem.head _)).1, rfl, _, rfl⟩
    refine lenL hD (by omega) ?_
    intro ty tky
    rw [hyl]
    have N4 : News s.heap L h3 [] := fun p hp => nomatch hp
    clear N3 hD hyl
    dsimp only
    walk_at "go"
    refine wpAny_For ?_
    walk_at "go"
    rename_i gr _ _ hS F5 N5
    have hbl : ∀ r : Row3, (growRow rows.length (manyOf rows) c r).length ≤ 3 := growRow_len hc hc2
    refine for_list (its := vs.toArray) hh (fun i m news => ∃ vg n tups, news = (gr, listOf vg.toArray n) :: tups ∧ All2 (TupIn tups) ((rows.take i).flatMap (growRow rows.length (manyOf rows) c)) vg ∧ (∀ p ∈ tups, p.1 ≠ gr) ∧
       m (Str.ofString "grown") = some (.ref gr) ∧ m (Str.ofString "size") = some (.int (rows.length : Nat) tz) ∧ m (Str.ofString "many") = some (.int (manyOf rows : Nat) ty) ∧ m (Str.ofString "count") = some (.int c tc)) ?_ F5 N5 ?_ ?_ ?_
    · rintro i m news _; exact .inl hl
    · exact ⟨[], 0, [], rfl, .nil, (fun p hp => nomatch hp), rfl, rfl, rfl, rfl⟩
    · rintro i v oI h tk m news hv ⟨vg, n, tups, rfl, hA, hne, e1, e2, e3, e4⟩ F6 N6 off
      obtain ⟨hi5, ta, t1, t2, t3, nn, rfl, hta⟩ := hR.get (by simpa using hv)
      generalize hIo : hS.objs.size = Io at N6 off ⊢
      clear F5 N5
      refine asg3 hh F6 N6 ⟨_, F6.keep _ _ hta, rfl, _, rfl⟩ rfl rfl rfl rfl ?_
      intro h7 tk7 F7 N7
      change Fr _ L h7 _ at F7
      change News _ L h7 _ at N7
      clear F6 N6
      dsimp only
      walk_at "go"
      all_goals
        rename Fr _ _ _ _ => F8
        rename News _ _ _ _ => N8
        obtain ⟨m8, G8, ⟨tl, g1⟩, g2, g3, g4, g5, g6, g7⟩ : ∃ m8, Fr s.heap L _ m8 ∧ (∃ tl, m8 (Str.ofString "letters") = some (.str (lettersOf c rows[i].1) tl)) ∧ m8 (Str.ofString "grown") = some (.ref gr) ∧ m8 (Str.ofString "size") = some (.int (rows.length : Nat) tz) ∧ m8 (Str.ofString "many") = some (.int (manyOf rows : Nat) ty) ∧ m8 (Str.ofString "count") = some (.int c tc) ∧ m8 (Str.ofString "low") = some (.int rows[i].2.1 t2) ∧ m8 (Str.ofString "high") = some (.int rows[i].2.2 t3) := by
          refine ⟨_, F8, ?_, e1, e2, e3, e4, rfl, rfl⟩
          first
          | (have ha : rows[i].1 = Str.ofString "a" := eq_of_beq (by assumption)
             unfold lettersOf; rw [if_pos ha]; exact ⟨_, rfl⟩)
          | (have ha : ¬ rows[i].1 = Str.ofString "a" := fun q => by
               have : (rows[i].1 == Str.ofString "a") = false := by assumption
               rw [q] at this
               simp at this
             unfold lettersOf; rw [if_neg ha]; exact ⟨_, rfl⟩)
        have hll := lettersOf_len hc hc2 rows[i].1
        have hbi := hb rows[i] (List.getElem_mem hi5)
        have hgr : growRow rows.length (manyOf rows) c rows[i] = (List.range (lettersOf c rows[i].1).length).map fun (k : Nat) => (Txt.item (lettersOf c rows[i].1) k, (rows.length : Int) - rows[i].2.2 + k * (manyOf rows : Int), (rows.length : Int) - rows[i].2.1 + k * (manyOf rows : Int)) := rfl
        generalize lettersOf c rows[i].1 = ls at g1 hll hgr
        have hvgl : vg.length ≤ i * 3 := by
          rw [hA.length]
          refine Nat.le_trans (flat_len hbl (rows.take i)) ?_
          rw [List.length_take]; omega
        clear F8
        refine wpAny_For ?_
        walk_at "go"
        rename_i hS9 tk9 _ _ _ hr F9 N9 k9
        have hgl := (fun k => growRow_take hgr k)
        refine for_range (n := ls.length) hh (fun k m news => ∃ vg n tups, news = (Io, oI) :: (gr, listOf vg.toArray n) :: tups ∧ All2 (TupIn tups) ((rows.take i).flatMap (growRow rows.length (manyOf rows) c) ++ (growRow rows.length (manyOf rows) c rows[i]).take k) vg ∧ (∀ p ∈ tups, p.1 ≠ gr) ∧ (∀ p ∈ tups, p.1 ≠ Io) ∧
           m (Str.ofString "letters") = some (.str ls tl) ∧ m (Str.ofString "grown") = some (.ref gr) ∧ m (Str.ofString "size") = some (.int (rows.length : Nat) tz) ∧ m (Str.ofString "many") = some (.int (manyOf rows : Nat) ty) ∧ m (Str.ofString "count") = some (.int c tc) ∧ m (Str.ofString "low") = some (.int rows[i].2.1 t2) ∧ m (Str.ofString "high") = some (.int rows[i].2.2 t3)) hr (rng_small _ (by omega)) (rng_size _) F9 N9 ?_ ?_ ?_
        · exact ⟨vg, n, tups, rfl, by rw [List.take_zero, List.append_nil]; exact hA, hne, fun p hp => off p (List.Mem.tail _ hp), g1, g2, g3, g4, g5, g6, g7⟩
        · rintro k t oI2 hk tkk mk news hlt ⟨vg', n', tups', rfl, hA', hne', hnI', q1, q2, q3, q4, q5, q6, q7⟩ F10 N10 off2
          have e0 : (0:Int) + (k:Int) = (k : Int) := by omega
          rw [e0]
          clear F9 N9 k9 hr
          generalize hS9.objs.size = Ii at N10 off2 ⊢
          have hvl' : vg'.length ≤ 310 := by
            rw [hA'.length, List.length_append, List.length_take]
            have h1 := flat_len hbl (rows.take i)
            rw [List.length_take] at h1
            have h2 := hbl rows[i]
            omega
          walk_at "go"
          rename_i D h11 F11 N11 l1
          refine appG (pre := [(D, _), (Ii, oI2), (Io, oI)]) (post := tups') F11 N11 ?_ hne' (by omega) ?_
          · intro p hp
            rcases List.mem_cons.mp hp with rfl | hp
            · exact Nat.ne_of_gt l1.2.2.1
            · rcases List.mem_cons.mp hp with rfl | hp
              · exact Ne.symm (off2 (gr, _) (List.Mem.tail _ (List.Mem.head _)))
              · rw [List.mem_singleton.mp hp]; exact Ne.symm (off (gr, _) (List.Mem.head _))
          intro h12 F12 N12
          clear F11 N11
          obtain ⟨oT, ⟨u1, u2, u3, u4, hoT⟩, N12⟩ : ∃ oT, (∃ u1 u2 u3 u4, oT = tupO (Txt.item ls k, (rows.length : Int) - rows[i].2.2 + k * (manyOf rows : Int), (rows.length : Int) - rows[i].2.1 + k * (manyOf rows : Int)) u1 u2 u3 u4) ∧ News s.heap L h12 ([(D, oT), (Ii, oI2), (Io, oI)] ++ (gr, listOf (vg' ++ [Value.ref D]).toArray (n' + 1)) :: tups') := ⟨_, ⟨_, _, _, _, rfl⟩, N12⟩
          dsimp only
          walk_at "go"
          refine ⟨_, _, _, (Io, oI) :: (gr, listOf (vg' ++ [Value.ref D]).toArray (n' + 1)) :: (D, oT) :: tups', rfl, F12, ?_, ?_, _, _, (D, oT) :: tups', rfl, ?_, ?_, ?_, q1, q2, q3, q4, q5, q6, q7⟩
          · intro p hp
            rcases List.mem_cons.mp hp with rfl | hp
            · exact N12 _ (List.Mem.tail _ (List.Mem.head _))
            · rcases List.mem_cons.mp hp with rfl | hp
              · exact N12 _ (List.Mem.tail _ (List.Mem.tail _ (List.Mem.head _)))
              · rcases List.mem_cons.mp hp with rfl | hp
                · exact N12 _ (List.Mem.tail _ (List.Mem.tail _ (List.Mem.tail _ (List.Mem.head _))))
                · rcases List.mem_cons.mp hp with rfl | hp
                  · exact N12 _ (List.Mem.head _)
                  · exact N12 _ (List.Mem.tail _ (List.Mem.tail _ (List.Mem.tail _ (List.Mem.tail _ hp))))
          · intro p hp
            rcases List.mem_cons.mp hp with rfl | hp
            · exact off2 _ (List.Mem.head _)
            · rcases List.mem_cons.mp hp with rfl | hp
              · exact off2 (gr, listOf vg'.toArray n') (List.Mem.tail _ (List.Mem.head _))
              · rcases List.mem_cons.mp hp with rfl | hp
                · exact Nat.ne_of_gt l1.1
                · exact off2 _ (List.Mem.tail _ (List.Mem.tail _ hp))
          · rw [hgl k hlt, ← List.append_assoc]
            refine All2.snoc (hA'.mono fun _ _ ⟨a, b1, b2, b3, b4, b5, b6⟩ => ⟨a, b1, b2, b3, b4, b5, List.Mem.tail _ b6⟩) ?_
            exact ⟨D, u1, u2, u3, u4, rfl, by rw [hoT]; exact List.Mem.head _⟩
          · intro p hp
            rcases List.mem_cons.mp hp with rfl | hp
            · exact Nat.ne_of_gt l1.2.2.1
            · exact hne' p hp
          · intro p hp
            rcases List.mem_cons.mp hp with rfl | hp
            · exact Nat.ne_of_gt l1.2.1
            · exact hnI' p hp
        · rintro hk tkk mk news ⟨vg', n', tups', rfl, hA', hne', hnI', q1, q2, q3, q4, q5, q6, q7⟩ F10 N10
          clear F9 N9 k9 hr
          walk_at "go"
          refine ⟨_, _, _, _, rfl, F10, N10, ?_, _, _, _, rfl, ?_, hne', q2, q3, q4, q5⟩
          · intro p hp
            rcases List.mem_cons.mp hp with rfl | hp
            · exact off (gr, listOf vg.toArray n) (List.Mem.head _)
            · exact hnI' p hp
          · rw [List.take_of_length_le (l := growRow rows.length (manyOf rows) c rows[i]) (by rw [hgr]; simp)] at hA'
            rw [List.take_succ_eq_append_getElem hi5, List.flatMap_append, List.flatMap_singleton]
            exact hA'
    · rintro h tk m news ⟨vg, n, tups, rfl, hA, hne, e1, e2, e3, e4⟩ F6 N6
      clear F5 N5
      dsimp only
      walk_at "go"
      rw [List.size_toArray, hvl, List.take_length] at hA
      exact hQ _ _ _ tups _ _ F6.keep (fun p hp => ⟨(N6 p hp).1, (N6 p hp).2.2⟩) hne hA
end Mine
end PC1f

section PC1g
open PySem PySem.W PyProof.Rows PySem.Calls
set_option maxRecDepth 100000
set_option maxHeartbeats 8000000
namespace Mine
local macro_rules | `(tactic| walk_at "eval Name") => `(tactic| (k_here; k_dflt (first
  | (refine' ld ?k1 ?k2 ?_; (case k1 => k_asm); (case k2 => assumption); k_whole)
  | (refine' ldC ?k1 ?k2 ?_; (case k1 => k_asm); (case k2 => assumption); k_whole))))
local macro_rules | `(tactic| walk_at "eval Name") => `(tactic| (k_here; (with_reducible show wpAny _ _ (eval (PySem.Expr.Name _ _) (compEnvC _ _ _ _)) _ _ _); k_dflt (first
  | (refine' cmL ?k1 ?k2 ?_; (case k1 => k_asm); (case k2 => first | exact rfl | assumption); k_whole)
  | (refine' cmC ?k1 ?k2 ?k3 ?k4 ?_; (case k4 => exact rfl); (case k1 => k_asm); (case k2 => assumption); (case k3 => assumption); k_whole)
  | (refine' cmK ?k1 ?k2 ?k3 ?k4 ?_; (case k1 => k_asm); (case k2 => k_asm); (case k3 => k_asm); (case k4 => k_is); k_whole)
  | (refine' cmB ?k1 ?k2 ?k3 ?k4 ?k5 ?k6 ?_; (case k1 => k_asm); (case k2 => k_asm); (case k3 => k_asm); (case k4 => k_is); (case k5 => boot_by_name); (case k6 => decide); k_whole))))
local macro_rules | `(tactic| walk_at "go") => `(tactic| (repeat' (first | (k_unfold; (try dsimp only)) | ((fail_if_success (with_reducible show wpAny _ _ (exec (Stmt.While _ _ _ _) _) _ _ _)); (fail_if_success (with_reducible show wpAny _ _ (exec (Stmt.For _ _ _ _ _) _) _ _ _)); (fail_if_success (with_reducible show wpAny _ _ (call (Value.ref _) _ _) _ _ _)); (fail_if_success (with_reducible show wpAny _ _ (call (Value.builtin "list.append") _ _) _ _ _)); (fail_if_success (with_reducible show wpAny _ _ (pyIter _) _ _ _)); (fail_if_success (with_reducible show wpAny _ _ (eval (PySem.Expr.ListComp _ _ _ _) _) _ _ _)); (fail_if_success (with_reducible show wpAny _ _ (exec (Stmt.Assign _ (PySem.Expr.ListComp _ _ _ _) _) _) _ _ _)); (fail_if_success (with_reducible show wpAny _ _ (call (Value.builtin "len") [Value.ref _] _) _ _ _)); (fail_if_success (with_reducible show wpAny _ _ (assign (PySem.Expr.Tuple _ _ _) _ _) _ _ _)); (fail_if_success (with_reducible show wpAny _ _ (subscriptTail _ _ (Value.ref _) (Value.int _ _)) _ _ _)); (first | walk1 | (dsimp only; walk1)))); all_goals (try k_data)))


def countR (g : Str) : List Row3 := (List.range g.length).map fun (i : Nat) => (Txt.item (turnS g i) 0, ((trs g g.length).countP (fun y => decide (slt y (turnS g i))) : Nat), ((trs g g.length).countP (fun y => decide (sle y (turnS g i))) : Nat))

theorem turn_toL (g : Str) {i : Nat} (h : i ≤ g.length) : toL (turnS g i) = (toL g).drop i ++ (toL g).take i := by
  have hl := toL_length g
  have hl' : g.cps.toList.length = g.length := hl
  have e1 : Txt.slice g (some (i : Int)) none = ⟨((toL g).drop i).toArray⟩ := by
    have := StrLaws.sliceText_from (x := g) (i := (i : Int)) ⟨by omega, by omega⟩
    rw [List.take_of_length_le (by rw [List.length_drop]; omega), Int.toNat_natCast] at this
    exact this
  have e2 : Txt.slice g none (some (i : Int)) = ⟨((toL g).take i).toArray⟩ := by
    have := StrLaws.sliceText_to (x := g) (j := (i : Int)) ⟨by omega, by omega⟩
    rw [List.drop_zero, show ((i : Int) - 0).toNat = i by omega] at this
    exact this
  unfold turnS
  rw [toL_append, e1, e2]
theorem turn_len (g : Str) {i : Nat} (h : i ≤ g.length) : (turnS g i).length = g.length := by
  rw [← toL_length, turn_toL g h, List.length_append, List.length_drop, List.length_take, toL_length]; omega
theorem trs_at (g : Str) (n : Nat) {i : Nat} (h : i < (trs g n).length) : (trs g n)[i] = turnS g i := by
  simp [trs]
theorem cnt_len (p : Str → Prop) [DecidablePred p] (ts : List Str) : ((List.range ts.length).filterMap fun j => if p (ts.getD j Str.empty) then some (1 : Int) else none).length = ts.countP (fun y => decide (p y)) := by
  induction ts with
  | nil => rfl
  | cons r t ih =>
    rw [List.length_cons, List.range_succ_eq_map, List.filterMap_cons]
    have e : ((List.range t.length).map Nat.succ).filterMap (fun i => if p ((r :: t).getD i Str.empty) then some (1 : Int) else none) = (List.range t.length).filterMap (fun i => if p (t.getD i Str.empty) then some (1 : Int) else none) := by
      rw [List.filterMap_map]; rfl
    by_cases h : p r
    · rw [List.countP_cons_of_pos (p := fun y => decide (p y)) (decide_eq_true h)]
      have h0 : p ((r :: t).getD 0 Str.empty) := h
      simp only [h0, if_true, e, List.length_cons, ih]
    · rw [List.countP_cons_of_neg (p := fun y => decide (p y)) (by simpa using h)]
      have h0 : ¬ p ((r :: t).getD 0 Str.empty) := h
      simp only [h0, if_false, e, ih]
theorem counted_call {w : World} {A : Around} {s : Shared} {Q E : Value → Shared → Prop} {mean : ExcName → Option Value} {mg mb : Str → Option Value} {loose : List Str} {g : Str} {tg : Tok}
   (X : (Mine.hd.heap_39 w.params).In s.heap) (T : Top Mine.hd.view_39 loose mean mg mb s.heap) (hh : A.handled = none) (hroom : A.depth < 700) (hgl : g.length ≤ 100)
   (hQ : ∀ d vs' n tups h' tk, (∀ b o, s.heap.get? b = some o → h'.get? b = some o) → (∀ p ∈ (d, listOf vs'.toArray n) :: tups, h'.get? p.1 = some p.2 ∧ s.heap.get? p.1 = none) → (∀ p ∈ tups, p.1 ≠ d) → All2 (TupIn tups) (countR g) vs' → Q (.ref d) { s with heap := h', toks := tk }) :
   wpAny (model PySem.Challenge.rw_ph0062_01.row.prog w) A (call (.ref 74) [.str g tg]) Q E s := by
  revert X; k_fill; intro X
  refine' enterC (binds := [(Str.ofString "ring", .str g tg)]) X T (Nat.lt_trans hroom (by decide)) ?k1 ?k2 ?k3 ?k4 ?k5 ?_ ?k6 ?k7 ?k8
  case k1 => exact rfl
  case k2 => k_is
  case k3 => exact BindsTo.of_eq rfl
  case k4 => exact rfl
  case k5 => decide +kernel
  case k6 => rfl
  case k7 => rfl
  case k8 => rfl
  intro L h₁ tk cells F N Y
  k_cells Y
  rename_i ot oR dt dR
  have dt2 : ot.data = .cell none := dt
  have dR2 : oR.data = .cell (some (.str g tg)) := dR
  clear dt dR
  k_unmd
  k_fold
  walk_at "go"
  refine asg_comp_range (h₀ := s.heap) (V := fun (x : Str) v => ∃ t, v = Value.str x t) (f := fun i => some (turnS g i)) hh rfl rfl (by decide) rfl (by decide) rfl rfl ?_
  walk_at "go"
  rename_i h2 tk2 _ _ _ hr F2 N2 k2
  refine ⟨_, _, _, _, _, _, _, g.length, _, _, rfl, hr, rng_small _ (by omega), rng_size _, by omega, F2, N2, ?_, ?_⟩
  · rintro i v C I oI D oD h3 tk3 m3 ⟨hi3, t3, rfl⟩ F3 N3
    have X2 := X.keeps F2.keep
    have T2 := T.keeps F2.keep
    have hcell := (N2 (L + 1, oR) (by simp)).1
    clear F2 N2 k2 hr X T
    dsimp only at F3 N3 hcell ⊢
    refine cmS F3 N3 ?_
    intro h4 F4 N4
    clear F3 N3
    refine wpAny_tests_nil ?_
    rw [if_pos rfl]
    have ev : (0 : Int) + (i : Int) * 1 = (i : Int) := by omega
    rw [ev] at F4
    dsimp only
    walk_at "go"
    refine turn_call (X2.keeps F4.keep) (T2.keeps F4.keep) ?_ (by omega) (by omega) (by omega) ?_
    · show A.depth + 1 < 800; omega
    intro t5 h5 tk5 k5
    have F5 := F4.keeps k5
    have N5 := N4.grown k5
    clear F4 N4
    dsimp only
    walk_at "go"
    exact ⟨⟨_, _, _, rfl, F5, N5⟩, _, rfl, _, rfl⟩
  · intro D h3 tk3 ys F3 N3 hne3 hA
    rw [List.filterMap_eq_map'] at hA
    have hS := hA.strs
    change StrsAre ys (trs g g.length) at hS
    clear hA F2 N2 k2 hr
    change Fr s.heap L h3 _ at F3
    change News s.heap L h3 _ at N3
    have hD1 := hne3 (L + 1 + 1, ot) (by simp)
    have hD2 := hne3 (L + 1, oR) (by simp)
    dsimp only
    walk_at "go"
    refine wpAny_For ?_
    walk_at "go"
    rename_i pl _ l1 h5 F5 N5
    have hpD : pl ≠ D := Nat.ne_of_gt l1.1
    have hpt : pl ≠ L + 1 + 1 := Nat.ne_of_gt l1.2.1
    have N6 : News s.heap L h5 [(pl, listOf ([] : List Value).toArray 0), (D, listOf ys.toArray ys.length), (L + 1 + 1, ot)] := fun p hp => by
      rcases List.mem_cons.mp hp with rfl | hp
      · exact N5 _ (List.Mem.head _)
      · rcases List.mem_cons.mp hp with rfl | hp
        · exact N5 _ (List.Mem.tail _ (List.Mem.head _))
        · rw [List.mem_singleton.mp hp]; exact N5 _ (List.Mem.tail _ (List.Mem.tail _ (List.Mem.head _)))
    clear N5
    have hyl : ys.length = g.length := by rw [hS.length]; unfold trs; simp
    have htl : (trs g g.length).length = g.length := by unfold trs; simp
    refine for_list (its := ys.toArray) hh (fun i m news => ∃ vp n oc c tups, news = (pl, listOf vp.toArray n) :: (D, listOf ys.toArray ys.length) :: (L + 1 + 1, oc) :: tups ∧ oc.data = .cell c ∧ All2 (TupIn tups) ((countR g).take i) vp ∧ (∀ p ∈ tups, p.1 ≠ pl ∧ p.1 ≠ L + 1 + 1) ∧
       m (Str.ofString "turns") = some (.ref D) ∧ m (Str.ofString "places") = some (.ref pl)) ?_ F5 N6 ?_ ?_ ?_
    · rintro i m news ⟨vp, n, oc, c, tups, rfl, _⟩
      exact .inr ⟨_, List.Mem.tail _ (List.Mem.head _), rfl, _, rfl⟩
    · exact ⟨[], 0, ot, _, [], rfl, dt2, by rw [List.take_zero]; exact .nil, (fun p hp => nomatch hp), rfl, rfl⟩
    · rintro i v oI h tk m news hv ⟨vp, n, oc, c, tups, rfl, hoc, hA, hne, e1, e2⟩ F7 N7 off
      obtain ⟨t, hlt, rfl⟩ := sgetElem hS hv
      have hxi : (trs g g.length)[i] = turnS g i := trs_at g _ hlt
      rw [hxi]
      have hig : i < g.length := by omega
      clear F5 N6
      generalize h5.objs.size = Io at N7 off ⊢
      refine wpAny_assign_Name (storeG (pre := [(Io, oI), (pl, listOf vp.toArray n), (D, listOf ys.toArray ys.length)]) (post := tups) F7 N7 ?_ (fun p hp => (hne p hp).2) hoc ?_)
      · intro p hp
        rcases List.mem_cons.mp hp with rfl | hp
        · exact Ne.symm (off (L + 1 + 1, oc) (List.Mem.tail _ (List.Mem.tail _ (List.Mem.head _))))
        · rcases List.mem_cons.mp hp with rfl | hp
          · exact hpt
          · rw [List.mem_singleton.mp hp]; exact Ne.symm hD1
      intro h8 oc' F8 N8 hoc'
      clear F7 N7
      dsimp only [List.cons_append, List.nil_append] at N8 ⊢
      walk_at "go"
      refine comp_list (V := fun (x : Int) v => ∃ t, v = Value.int x t) (f := fun j => if slt ((trs g g.length).getD j Str.empty) (turnS g i) then some 1 else none) hh rfl (by decide) rfl (by decide) ?_
      walk_at "go"
      have hS := hS
      refine ⟨_, ys.toArray, rfl, ⟨_, (N8 _ (List.Mem.tail _ (List.Mem.tail _ (List.Mem.head _)))).1, rfl, _, rfl⟩, by rw [List.size_toArray]; omega, ?_, ?_⟩
      · rintro j v C I oI2 D2 oD2 h9 tk9 m9 hv9 F9 N9
        obtain ⟨t9, hlt9, rfl⟩ := sgetElem hS hv9
        have hcell := (N8 _ (List.Mem.tail _ (List.Mem.tail _ (List.Mem.tail _ (List.Mem.head _))))).1
        clear F8 N8
        dsimp only at F9 N9 hcell ⊢
        refine cmS F9 N9 ?_
        intro h10 F10 N10
        clear F9 N9
        refine wpAny_tests_one ?_
        rw [sgetD_at hlt9]
        generalize (trs g g.length)[j] = other at F10 ⊢
        dsimp only
        walk_at "go"
        · exact ⟨⟨_, _, _, rfl, F10, N10⟩, 1, if_pos (by assumption), _, rfl⟩
        · exact ⟨⟨_, _, _, rfl, F10, N10⟩, if_neg (by assumption)⟩
      · intro D2 h9 tk9 ys2 k9 kD kD0 hA2
        have F9 := F8.keeps k9
        have N9 := N8.grown k9
        have hl2 : ys2.length = (trs g g.length).countP (fun y => decide (slt y (turnS g i))) := by
          rw [hA2.length, List.size_toArray, hyl, ← htl]
          have q := cnt_len (fun y => slt y (turnS g i)) (trs g g.length)
          rw [htl] at q ⊢
          exact q
        have hcl : (trs g g.length).countP (fun y => decide (slt y (turnS g i))) ≤ 100 := Nat.le_trans List.countP_le_length (by omega)
        have hD2 : h9.IsList D2 ys2.toArray := ⟨_, kD, rfl, _, rfl⟩
        clear F8 N8 k9 kD kD0 hA2
        dsimp only
        walk_at "go"
        refine lenL hD2 (by omega) ?_
        intro tlo tklo
        rw [hl2]
        clear hD2 hl2
        generalize hlo : (trs g g.length).countP (fun y => decide (slt y (turnS g i))) = lo at hcl ⊢
        dsimp only
        walk_at "go"
        rename Fr _ _ _ _ => F11
        rename News _ _ _ _ => N11
        refine comp_list (V := fun (x : Int) v => ∃ t, v = Value.int x t) (f := fun j => if sle ((trs g g.length).getD j Str.empty) (turnS g i) then some 1 else none) hh rfl (by decide) rfl (by decide) ?_
        walk_at "go"
        refine ⟨_, ys.toArray, rfl, ⟨_, (N11 _ (List.Mem.tail _ (List.Mem.tail _ (List.Mem.head _)))).1, rfl, _, rfl⟩, by rw [List.size_toArray]; omega, ?_, ?_⟩
        · rintro j v C I oI2 D2 oD2 h9 tk9 m9 hv9 F9 N9
          obtain ⟨t9, hlt9, rfl⟩ := sgetElem hS hv9
          have hcell := (N11 _ (List.Mem.tail _ (List.Mem.tail _ (List.Mem.tail _ (List.Mem.head _))))).1
          clear F11 N11
          dsimp only at F9 N9 hcell ⊢
          refine cmS F9 N9 ?_
          intro h10 F10 N10
          clear F9 N9
          refine wpAny_tests_one ?_
          rw [sgetD_at hlt9]
          generalize (trs g g.length)[j] = other at F10 ⊢
          dsimp only
          walk_at "go"
          · exact ⟨⟨_, _, _, rfl, F10, N10⟩, if_neg (fun q => not_slt.mpr q (by assumption))⟩
          · exact ⟨⟨_, _, _, rfl, F10, N10⟩, 1, if_pos (not_slt.mp (by assumption)), _, rfl⟩
        · intro D2 h9 tk9 ys2 k9 kD kD0 hA2
          have F9 := F11.keeps k9
          have N9 := N11.grown k9
          have hl2 : ys2.length = (trs g g.length).countP (fun y => decide (sle y (turnS g i))) := by
            rw [hA2.length, List.size_toArray, hyl, ← htl]
            have q := cnt_len (fun y => sle y (turnS g i)) (trs g g.length)
            rw [htl] at q ⊢
            exact q
          have hcl2 : (trs g g.length).countP (fun y => decide (sle y (turnS g i))) ≤ 100 := Nat.le_trans List.countP_le_length (by omega)
          have hD2 : h9.IsList D2 ys2.toArray := ⟨_, kD, rfl, _, rfl⟩
          clear F11 N11 k9 kD kD0 hA2
          dsimp only
          walk_at "go"
          refine lenL hD2 (by omega) ?_
          intro thi tkhi
          rw [hl2]
          clear hD2 hl2
          generalize hhi : (trs g g.length).countP (fun y => decide (sle y (turnS g i))) = hi at hcl2 ⊢
          have htn : 1 ≤ (turnS g i).length := by rw [turn_len g (by omega)]; omega
          dsimp only
          walk_at "go"
          rename_i D3 h11 F11 N11 l1
          have hvpl : vp.length ≤ 100 := by rw [hA.length, List.length_take]; omega
          refine appG (pre := [(D3, _), (Io, oI)]) (post := (D, listOf ys.toArray ys.length) :: (L + 1 + 1, oc') :: tups) F11 N11 ?_ ?_ (by omega) ?_
          · intro p hp
            rcases List.mem_cons.mp hp with rfl | hp
            · exact Nat.ne_of_gt l1.2.1
            · rw [List.mem_singleton.mp hp]; exact Ne.symm (off (pl, _) (List.Mem.head _))
          · intro p hp
            rcases List.mem_cons.mp hp with rfl | hp
            · exact Ne.symm hpD
            · rcases List.mem_cons.mp hp with rfl | hp
              · exact Ne.symm hpt
              · exact (hne p hp).1
          intro h12 F12 N12
          clear F11 N11
          obtain ⟨oT, ⟨u1, u2, u3, u4, hoT⟩, N12⟩ : ∃ oT, (∃ u1 u2 u3 u4, oT = tupO (Txt.item (turnS g i) 0, (lo : Int), (hi : Int)) u1 u2 u3 u4) ∧ News s.heap L h12 ([(D3, oT), (Io, oI)] ++ (pl, listOf (vp ++ [Value.ref D3]).toArray (n + 1)) :: (D, listOf ys.toArray ys.length) :: (L + 1 + 1, oc') :: tups) := ⟨_, ⟨_, _, _, _, rfl⟩, N12⟩
          dsimp only
          walk_at "go"
          refine ⟨_, _, _, (pl, listOf (vp ++ [Value.ref D3]).toArray (n + 1)) :: (D, listOf ys.toArray ys.length) :: (L + 1 + 1, oc') :: (D3, oT) :: tups, rfl, F12, ?_, ?_, _, _, _, _, (D3, oT) :: tups, rfl, hoc', ?_, ?_, e1, e2⟩
          · intro p hp
            rcases List.mem_cons.mp hp with rfl | hp
            · exact N12 _ (List.Mem.tail _ (List.Mem.head _))
            · rcases List.mem_cons.mp hp with rfl | hp
              · exact N12 _ (List.Mem.tail _ (List.Mem.tail _ (List.Mem.head _)))
              · rcases List.mem_cons.mp hp with rfl | hp
                · exact N12 _ (List.Mem.tail _ (List.Mem.tail _ (List.Mem.tail _ (List.Mem.head _))))
                · rcases List.mem_cons.mp hp with rfl | hp
                  · exact N12 _ (List.Mem.tail _ (List.Mem.tail _ (List.Mem.tail _ (List.Mem.tail _ (List.Mem.head _)))))
                  · rcases List.mem_cons.mp hp with rfl | hp
                    · exact N12 _ (List.Mem.head _)
                    · exact N12 _ (List.Mem.tail _ (List.Mem.tail _ (List.Mem.tail _ (List.Mem.tail _ (List.Mem.tail _ hp)))))
          · intro p hp
            rcases List.mem_cons.mp hp with rfl | hp
            · exact off (pl, listOf vp.toArray n) (List.Mem.head _)
            · rcases List.mem_cons.mp hp with rfl | hp
              · exact off (D, listOf ys.toArray ys.length) (List.Mem.tail _ (List.Mem.head _))
              · rcases List.mem_cons.mp hp with rfl | hp
                · exact off (L + 1 + 1, oc) (List.Mem.tail _ (List.Mem.tail _ (List.Mem.head _)))
                · rcases List.mem_cons.mp hp with rfl | hp
                  · exact Nat.ne_of_gt l1.1
                  · exact off p (List.Mem.tail _ (List.Mem.tail _ (List.Mem.tail _ hp)))
          · rw [growRow_take (g := countR g) rfl i hig]
            refine All2.snoc (hA.mono fun _ _ ⟨a, b1, b2, b3, b4, b5, b6⟩ => ⟨a, b1, b2, b3, b4, b5, List.Mem.tail _ b6⟩) ?_
            refine ⟨D3, u1, u2, u3, u4, rfl, ?_⟩
            rw [hlo, hhi, hoT]
            exact List.Mem.head _
          · intro p hp
            rcases List.mem_cons.mp hp with rfl | hp
            · exact ⟨Nat.ne_of_gt l1.2.1, Nat.ne_of_gt l1.2.2.2.1⟩
            · exact hne p hp
    · rintro h tk m news ⟨vp, n, oc, c, tups, rfl, hoc, hA, hne, e1, e2⟩ F7 N7
      clear F5 N6
      dsimp only
      walk_at "go"
      rw [List.size_toArray, hyl, List.take_of_length_le (by unfold countR; simp)] at hA
      refine hQ pl vp n tups h _ F7.keep (fun p hp => ?_) (fun p hp => (hne p hp).1) hA
      rcases List.mem_cons.mp hp with rfl | hp
      · have z := N7 _ (List.Mem.head _)
        exact ⟨z.1, z.2.2⟩
      · have z := N7 p (List.Mem.tail _ (List.Mem.tail _ (List.Mem.tail _ hp)))
        exact ⟨z.1, z.2.2⟩
end Mine
end PC1g

section PP1a
open PySem
namespace Mine
theorem rep1F (x : Nat) (q : List Nat) : ∀ l : List Nat, repL [x] q 0 l = l.flatMap (fun y => if y = x then q else [y])
  | [] => by unfold repL; rfl
  | c :: t => by
    unfold repL
    rw [List.flatMap_cons]
    by_cases h : c = x
    · subst h
      rw [if_pos (by simp [List.isPrefixOf]), if_pos rfl]
      show q ++ repL [c] q 0 t = _
      rw [rep1F c q t]
    · rw [if_neg (by simp [List.isPrefixOf]; exact fun e => h e.symm), if_neg h, rep1F x q t]
      rfl
def phi (c : Nat) (x : Nat) : List Nat := if x = 97 then List.replicate c 97 ++ [98] else [97]
def AL (l : List Nat) : Prop := ∀ x ∈ l, x = 97 ∨ x = 98
theorem AL.tail {x : Nat} {l : List Nat} (h : AL (x :: l)) : AL l := fun y hy => h y (List.mem_cons_of_mem _ hy)
theorem phi_AL (c : Nat) (x : Nat) : AL (phi c x) := by
  unfold phi
  split
  · intro y hy
    rcases List.mem_append.mp hy with hy | hy
    · exact .inl (List.eq_of_mem_replicate hy)
    · exact .inr (by simpa using hy)
  · intro y hy; exact .inl (by simpa using hy)
theorem flat_AL (c : Nat) (l : List Nat) : AL (l.flatMap (phi c)) := by
  intro y hy
  obtain ⟨x, _, hx⟩ := List.mem_flatMap.mp hy
  exact phi_AL c x y hx
/-- the three pairs grow -/
theorem grow3 (c : Nat) : ∀ {l : List Nat}, AL l → repL [99] [97] 0 (repL [97] (List.replicate c 97 ++ [98]) 0 (repL [98] [99] 0 l)) = l.flatMap (phi c) := by
  intro l h
  rw [rep1F, rep1F, rep1F, List.flatMap_assoc, List.flatMap_assoc]
  induction l with
  | nil => rfl
  | cons x t ih =>
    rw [List.flatMap_cons, List.flatMap_cons, ih h.tail]
    congr 1
    rcases h x List.mem_cons_self with rfl | rfl
    · show List.flatMap (fun y => if y = 99 then [97] else [y]) (List.replicate c 97 ++ [98]) ++ [] = List.replicate c 97 ++ [98]
      rw [List.append_nil, List.flatMap_append]
      have : ∀ k : Nat, (List.replicate k 97).flatMap (fun y => if y = 99 then [97] else [y]) = List.replicate k 97 := by
        intro k
        induction k with
        | zero => rfl
        | succ k ih => rw [List.replicate_succ, List.flatMap_cons, ih]; rfl
      rw [this]; rfl
    · rfl
theorem rep_skip (p q : List Nat) : ∀ (a b : List Nat), repL p q a.length (a ++ b) = repL p q 0 b
  | [], b => rfl
  | x :: a, b => by
    show repL p q (a.length + 1) (x :: (a ++ b)) = _
    conv => lhs; unfold repL
    exact rep_skip p q a b
theorem pfx_rep (k c : Nat) (z : List Nat) (h : k < c) : (List.replicate k 97 ++ [98]).isPrefixOf (List.replicate c 97 ++ z) = false := by
  induction k generalizing c with
  | zero =>
    obtain ⟨c, rfl⟩ : ∃ d, c = d + 1 := ⟨c - 1, by omega⟩
    rw [List.replicate_succ]
    simp [List.isPrefixOf]
  | succ k ih =>
    obtain ⟨c, rfl⟩ : ∃ d, c = d + 1 := ⟨c - 1, by omega⟩
    rw [List.replicate_succ, List.replicate_succ, List.cons_append, List.cons_append]
    simp only [List.isPrefixOf, beq_self_eq_true, Bool.true_and]
    exact ih c (by omega)
theorem no_pfx (c : Nat) : ∀ (t : List Nat), AL t → ∀ k, k ≤ c → (List.replicate k 97 ++ [98]).isPrefixOf (97 :: t.flatMap (phi c)) = false := by
  intro t
  induction t with
  | nil =>
    intro _ k _
    cases k with
    | zero => rfl
    | succ k =>
      rw [List.replicate_succ, List.cons_append]
      simp only [List.isPrefixOf, beq_self_eq_true, Bool.true_and, List.flatMap_nil]
      cases k <;> rfl
  | cons x t ih =>
    intro h k hk
    cases k with
    | zero => rfl
    | succ k =>
      rw [List.replicate_succ, List.cons_append, List.flatMap_cons]
      simp only [List.isPrefixOf, beq_self_eq_true, Bool.true_and]
      rcases h x List.mem_cons_self with rfl | rfl
      · unfold phi
        rw [if_pos rfl, List.append_assoc]
        exact pfx_rep k c _ (by omega)
      · exact ih h.tail k (by omega)
theorem back1 (c : Nat) : ∀ {l : List Nat}, AL l → repL (List.replicate c 97 ++ [98]) [99] 0 (l.flatMap (phi c)) = l.map (fun x => if x = 97 then 99 else 97) := by
  intro l
  induction l with
  | nil => intro _; unfold repL; rfl
  | cons x t ih =>
    intro h
    rw [List.flatMap_cons, List.map_cons]
    rcases h x List.mem_cons_self with rfl | rfl
    · have e : phi c 97 = List.replicate c 97 ++ [98] := rfl
      rw [e, if_pos rfl]
      generalize hP : List.replicate c 97 ++ [98] = P at ih ⊢
      cases P with
      | nil => simp at hP
      | cons a P =>
        rw [List.cons_append]
        conv => lhs; unfold repL
        rw [if_pos (by rw [← List.cons_append, List.isPrefixOf_iff_prefix]; exact List.prefix_append _ _)]
        show [99] ++ repL (a :: P) [99] P.length (P ++ _) = _
        rw [rep_skip, ih h.tail]
        rfl
    · show repL _ [99] 0 (97 :: t.flatMap (phi c)) = 97 :: _
      conv => lhs; unfold repL
      rw [if_neg (by rw [no_pfx c t h.tail c (Nat.le_refl _)]; decide), ih h.tail]
theorem back3 (c : Nat) {l : List Nat} (h : AL l) : repL [99] [97] 0 (repL [97] [98] 0 (repL (List.replicate c 97 ++ [98]) [99] 0 (l.flatMap (phi c)))) = l := by
  rw [back1 c h, rep1F, rep1F, List.flatMap_assoc]
  induction l with
  | nil => rfl
  | cons x t ih =>
    rw [List.map_cons, List.flatMap_cons, ih h.tail]
    rcases h x List.mem_cons_self with rfl | rfl <;> rfl

def halfW (r : List Nat) : List Nat := List.replicate (r.length / 2) 99 ++ List.replicate (r.length % 2) 97
theorem joinL_cons (q x : List Nat) {r : List (List Nat)} (h : r ≠ []) : joinL q (x :: r) = x ++ q ++ joinL q r := by
  cases r with
  | nil => exact absurd rfl h
  | cons y r => rfl
theorem halfL : ∀ {l : List Nat}, AL l → repL [97, 97] [99] 0 l = joinL [98] ((splL [98] 0 l).map halfW)
  | [], _ => by unfold repL splL; rfl
  | [x], h => by
    rcases h x List.mem_cons_self with rfl | rfl <;> decide
  | x :: y :: t, h => by
    rcases h x List.mem_cons_self with rfl | rfl
    · rcases h y (List.mem_cons_of_mem _ List.mem_cons_self) with rfl | rfl
      · have ih := halfL h.tail.tail
        obtain ⟨a, r, e⟩ := splL_ne [98] t 0
        have e2 : splL [98] 0 (97 :: 97 :: t) = (97 :: 97 :: a) :: r := by
          have e1 : splL [98] 0 (97 :: t) = (97 :: a) :: r := by
            conv => lhs; unfold splL
            rw [if_neg (by simp [List.isPrefixOf]), e]
          conv => lhs; unfold splL
          rw [if_neg (by simp [List.isPrefixOf]), e1]
        rw [e2]
        rw [e] at ih
        have el : repL [97, 97] [99] 0 (97 :: 97 :: t) = 99 :: repL [97, 97] [99] 0 t := by
          conv => lhs; unfold repL
          rw [if_pos (by simp [List.isPrefixOf])]
          show [99] ++ repL [97, 97] [99] 1 (97 :: t) = _
          conv => lhs; rhs; unfold repL
          rfl
        rw [el, ih, List.map_cons, List.map_cons]
        have eh : halfW (97 :: 97 :: a) = 99 :: halfW a := by
          unfold halfW
          simp only [List.length_cons]
          rw [show (a.length + 1 + 1) / 2 = a.length / 2 + 1 by omega, show (a.length + 1 + 1) % 2 = a.length % 2 by omega, List.replicate_succ]
          rfl
        rw [eh]
        cases r with
        | nil => rfl
        | cons z r => rfl
      · have ih := halfL h.tail.tail
        have e2 : splL [98] 0 (97 :: 98 :: t) = [97] :: splL [98] 0 t := by
          have e1 : splL [98] 0 (98 :: t) = [] :: splL [98] 0 t := by
            conv => lhs; unfold splL
            rw [if_pos (by simp [List.isPrefixOf])]
            rfl
          conv => lhs; unfold splL
          rw [if_neg (by simp [List.isPrefixOf]), e1]
        have el : repL [97, 97] [99] 0 (97 :: 98 :: t) = 97 :: 98 :: repL [97, 97] [99] 0 t := by
          conv => lhs; unfold repL
          rw [if_neg (by simp [List.isPrefixOf])]
          conv => lhs; rhs; unfold repL
          rw [if_neg (by simp [List.isPrefixOf])]
        obtain ⟨a, r, e⟩ := splL_ne [98] t 0
        rw [e2, el, ih, List.map_cons, joinL_cons _ _ (by rw [e]; simp)]
        rfl
    · have ih := halfL h.tail
      have e1 : splL [98] 0 (98 :: y :: t) = [] :: splL [98] 0 (y :: t) := by
        conv => lhs; unfold splL
        rw [if_pos (by simp [List.isPrefixOf])]
        rfl
      have el : repL [97, 97] [99] 0 (98 :: y :: t) = 98 :: repL [97, 97] [99] 0 (y :: t) := by
        conv => lhs; unfold repL
        rw [if_neg (by simp [List.isPrefixOf])]
      obtain ⟨a, r, e⟩ := splL_ne [98] (y :: t) 0
      rw [e1, el, ih, List.map_cons, joinL_cons _ _ (by rw [e]; simp)]
      rfl
theorem joinL_flat (F : Nat → List Nat) (q : List Nat) : ∀ xs : List (List Nat), (joinL q xs).flatMap F = joinL (q.flatMap F) (xs.map (·.flatMap F))
  | [] => rfl
  | [x] => rfl
  | x :: y :: r => by
    show (x ++ q ++ joinL q (y :: r)).flatMap F = x.flatMap F ++ q.flatMap F ++ joinL (q.flatMap F) ((y :: r).map (·.flatMap F))
    rw [List.flatMap_append, List.flatMap_append, joinL_flat F q (y :: r)]
theorem rep_flat (F : Nat → List Nat) (x : Nat) (hx : F x = [x]) : ∀ k : Nat, (List.replicate k x).flatMap F = List.replicate k x
  | 0 => rfl
  | k + 1 => by rw [List.replicate_succ, List.flatMap_cons, rep_flat F x hx k, hx]; rfl
theorem halfL2 {l : List Nat} (h : AL l) : repL [97] [] 0 (repL [97, 97] [99] 0 l) = joinL [98] ((splL [98] 0 l).map fun r => List.replicate (r.length / 2) 99) := by
  rw [halfL h, rep1F, joinL_flat, List.map_map]
  congr 1
  refine List.map_congr_left fun r _ => ?_
  show (halfW r).flatMap _ = _
  unfold halfW
  rw [List.flatMap_append, rep_flat _ 99 rfl]
  have : ∀ k : Nat, (List.replicate k 97).flatMap (fun y => if y = 97 then [] else [y]) = [] := by
    intro k
    induction k with
    | zero => rfl
    | succ k ih => rw [List.replicate_succ, List.flatMap_cons, ih]; rfl
  rw [this, List.append_nil]
end Mine
end PP1a

section PP1b
open PySem
namespace Mine
theorem app_lt (p : List Nat) {a b : List Nat} (h : a < b) : p ++ a < p ++ b := by
  induction p with
  | nil => exact h
  | cons x p ih => exact List.cons_lt_cons_iff.mpr (.inr ⟨rfl, ih⟩)
theorem cons_lt_of {a b : Nat} (h : a < b) (x y : List Nat) : a :: x < b :: y := List.cons_lt_cons_iff.mpr (.inl h)
/-- leading a's -/
theorem lead (c : Nat) : ∀ {v : List Nat}, AL v → 97 ∈ v → ∃ m w, v.flatMap (phi c) = List.replicate (m + c) 97 ++ 98 :: w := by
  intro v
  induction v with
  | nil => intro _ h; cases h
  | cons x t ih =>
    intro h hm
    rcases h x List.mem_cons_self with rfl | rfl
    · refine ⟨0, t.flatMap (phi c), ?_⟩
      rw [List.flatMap_cons, Nat.zero_add]
      show (List.replicate c 97 ++ [98]) ++ _ = _
      rw [List.append_assoc]; rfl
    · obtain ⟨m, w, e⟩ := ih h.tail (by simpa using hm)
      refine ⟨m + 1, w, ?_⟩
      rw [List.flatMap_cons, e, show m + 1 + c = (m + c) + 1 by omega, List.replicate_succ]
      rfl
theorem rep_lt {j k : Nat} (h : j < k) (x y : List Nat) : List.replicate k 97 ++ x < List.replicate j 97 ++ 98 :: y := by
  obtain ⟨d, rfl⟩ : ∃ d, k = j + (d + 1) := ⟨k - j - 1, by omega⟩
  rw [← List.replicate_append_replicate, List.append_assoc, List.replicate_succ]
  exact app_lt _ (cons_lt_of (by decide) _ _)
theorem mem_of_count {v : List Nat} (h : 0 < v.count 97) : 97 ∈ v := List.count_pos_iff.mp h
theorem rev (c : Nat) : ∀ {u v : List Nat}, AL u → AL v → u.length = v.length → u.count 97 = v.count 97 → u < v → ∀ z z', v.flatMap (phi c) ++ z < u.flatMap (phi c) ++ z' := by
  intro u
  induction u with
  | nil =>
    intro v _ _ hl _ h
    cases v with
    | nil => exact absurd h (List.lt_irrefl _)
    | cons _ _ => simp at hl
  | cons a u ih =>
    intro v hu hv hl hcnt h z z'
    cases v with
    | nil => simp at hl
    | cons b v =>
      rw [List.flatMap_cons, List.flatMap_cons, List.append_assoc, List.append_assoc]
      rcases List.cons_lt_cons_iff.mp h with h | ⟨rfl, h2⟩
      · rcases hu a List.mem_cons_self with rfl | rfl
        · rcases hv b List.mem_cons_self with rfl | rfl
          · exact absurd h (Nat.lt_irrefl _)
          · have hm : 97 ∈ v := mem_of_count (by
              rw [List.count_cons_self, List.count_cons_of_ne (by decide)] at hcnt; omega)
            obtain ⟨m, w, e⟩ := lead c hv.tail hm
            show [97] ++ (v.flatMap (phi c) ++ z) < (List.replicate c 97 ++ [98]) ++ _
            rw [e, List.append_assoc (List.replicate c 97)]
            have := rep_lt (j := c) (k := m + c + 1) (by omega) (98 :: w ++ z) (u.flatMap (phi c) ++ z')
            rw [List.replicate_succ] at this
            simpa using this
        · rcases hv b List.mem_cons_self with rfl | rfl
          · exact absurd h (by decide)
          · exact absurd h (Nat.lt_irrefl _)
      · refine app_lt _ (ih hu.tail hv.tail (by simpa using hl) ?_ h2 z z')
        by_cases ha : a = 97
        · subst ha; rw [List.count_cons_self, List.count_cons_self] at hcnt; omega
        · rw [List.count_cons_of_ne ha, List.count_cons_of_ne ha] at hcnt; exact hcnt
end Mine
end PP1b

section PP1c
open PySem
namespace Mine
def wd (c : Nat) (x : Nat) (r : List Nat) (k : Nat) : List Nat := (phi c x).drop k ++ r.flatMap (phi c) ++ (phi c x).take k
def lev (x k : Nat) : Nat := if x = 97 then k + 1 else 0
theorem wd_a {c k : Nat} (r : List Nat) (h : k ≤ c) : wd c 97 r k = List.replicate (c - k) 97 ++ 98 :: (r.flatMap (phi c) ++ List.replicate k 97) := by
  have e : phi c 97 = List.replicate k 97 ++ (List.replicate (c - k) 97 ++ [98]) := by
    show List.replicate c 97 ++ [98] = _
    rw [← List.append_assoc, List.replicate_append_replicate, show k + (c - k) = c by omega]
  unfold wd
  rw [e, List.drop_left' (by simp), List.take_left' (by simp)]
  simp
theorem wd_b (c : Nat) (r : List Nat) : wd c 98 r 0 = 97 :: (r.flatMap (phi c) ++ []) := by
  unfold wd phi
  simp
theorem len_a (c : Nat) : (phi c 97).length = c + 1 := by unfold phi; simp
theorem len_b (c : Nat) : (phi c 98).length = 1 := rfl
structure Fit (x : Nat) (r : List Nat) (y : Nat) (s : List Nat) : Prop where
  hx : AL (x :: r)
  hy : AL (y :: s)
  hl : r.length = s.length
  hc : (x :: r).count 97 = (y :: s).count 97
theorem Fit.symm {x : Nat} {r : List Nat} {y : Nat} {s : List Nat} (h : Fit x r y s) : Fit y s x r := ⟨h.hy, h.hx, h.hl.symm, h.hc.symm⟩
theorem lead_b {c : Nat} {r s : List Nat} (h : Fit 97 r 98 s) : ∃ m w, 97 :: (s.flatMap (phi c) ++ []) = List.replicate (m + c + 1) 97 ++ 98 :: w := by
  have hm : 97 ∈ s := mem_of_count (by
    have := h.hc
    rw [List.count_cons_self, List.count_cons_of_ne (by decide)] at this; omega)
  obtain ⟨m, w, e⟩ := lead c h.hy.tail hm
  exact ⟨m, w, by rw [e, List.replicate_succ, List.append_nil]; rfl⟩
theorem wd_lev {c x y k k' : Nat} {r s : List Nat} (h : Fit x r y s) (hk : k < (phi c x).length) (hk' : k' < (phi c y).length) (hlev : lev y k' < lev x k) : wd c y s k' < wd c x r k := by
  rcases h.hx x List.mem_cons_self with rfl | rfl
  · rw [len_a] at hk
    rw [wd_a r (by omega)]
    rcases h.hy y List.mem_cons_self with rfl | rfl
    · rw [len_a] at hk'
      rw [wd_a s (by omega)]
      have : k' < k := by unfold lev at hlev; simpa using hlev
      exact rep_lt (by omega) _ _
    · rw [len_b] at hk'
      obtain rfl : k' = 0 := by omega
      obtain ⟨m, w, e⟩ := lead_b (c := c) h
      rw [wd_b, e]
      exact rep_lt (by omega) _ _
  · exact absurd hlev (by unfold lev; simp)
theorem wd_eqlev {c x y k k' : Nat} {r s : List Nat} (h : Fit x r y s) (hk : k < (phi c x).length) (hk' : k' < (phi c y).length) (hlev : lev y k' = lev x k) (hrs : r < s) : wd c y s k' < wd c x r k := by
  rcases h.hx x List.mem_cons_self with rfl | rfl
  · rcases h.hy y List.mem_cons_self with rfl | rfl
    · have : k' = k := by unfold lev at hlev; simpa using hlev
      subst this
      rw [len_a] at hk
      rw [wd_a r (by omega), wd_a s (by omega)]
      refine app_lt _ (List.cons_lt_cons_iff.mpr (.inr ⟨rfl, rev c h.hx.tail h.hy.tail h.hl ?_ hrs _ _⟩))
      have := h.hc
      rw [List.count_cons_self, List.count_cons_self] at this; omega
    · exact absurd hlev (by unfold lev; simp)
  · rcases h.hy y List.mem_cons_self with rfl | rfl
    · exact absurd hlev (by unfold lev; simp)
    · rw [len_b] at hk hk'
      obtain rfl : k = 0 := by omega
      obtain rfl : k' = 0 := by omega
      rw [wd_b, wd_b]
      refine List.cons_lt_cons_iff.mpr (.inr ⟨rfl, rev c h.hx.tail h.hy.tail h.hl ?_ hrs _ _⟩)
      have := h.hc
      rw [List.count_cons_of_ne (by decide), List.count_cons_of_ne (by decide)] at this; exact this
theorem lev_inj {x y k k' c : Nat} {r s : List Nat} (h : Fit x r y s) (hk : k < (phi c x).length) (hk' : k' < (phi c y).length) (e : lev y k' = lev x k) : x = y ∧ k = k' := by
  rcases h.hx x List.mem_cons_self with rfl | rfl <;> rcases h.hy y List.mem_cons_self with rfl | rfl
  · refine ⟨rfl, ?_⟩; unfold lev at e; simp at e; omega
  · unfold lev at e; simp at e
  · unfold lev at e; simp at e
  · rw [len_b] at hk hk'; exact ⟨rfl, by omega⟩
theorem wd_lt_iff {c x y k k' : Nat} {r s : List Nat} (h : Fit x r y s) (hk : k < (phi c x).length) (hk' : k' < (phi c y).length) : wd c y s k' < wd c x r k ↔ lev y k' < lev x k ∨ lev y k' = lev x k ∧ r < s := by
  constructor
  · intro hw
    rcases Nat.lt_trichotomy (lev y k') (lev x k) with q | q | q
    · exact .inl q
    · refine .inr ⟨q, ?_⟩
      rcases Classical.em (r < s) with t | t
      · exact t
      · rcases Classical.em (s < r) with t2 | t2
        · exact absurd (List.lt_trans hw (wd_eqlev h.symm hk' hk q.symm t2)) (List.lt_irrefl _)
        · have : r = s := List.le_antisymm t2 t
          subst this
          obtain ⟨rfl, rfl⟩ := lev_inj h hk hk' q
          exact absurd hw (List.lt_irrefl _)
    · exact absurd (List.lt_trans hw (wd_lev h.symm hk' hk q)) (List.lt_irrefl _)
  · rintro (q | ⟨q, t⟩)
    · exact wd_lev h hk hk' q
    · exact wd_eqlev h hk hk' q t
theorem wd_le_iff {c x y k k' : Nat} {r s : List Nat} (h : Fit x r y s) (hk : k < (phi c x).length) (hk' : k' < (phi c y).length) : wd c y s k' ≤ wd c x r k ↔ lev y k' < lev x k ∨ lev y k' = lev x k ∧ r ≤ s := by
  have z := wd_lt_iff h.symm hk' hk
  show ¬ (wd c x r k < wd c y s k') ↔ _
  rw [z]
  constructor
  · intro hn
    rcases Nat.lt_trichotomy (lev y k') (lev x k) with q | q | q
    · exact .inl q
    · exact .inr ⟨q, fun t => hn (.inr ⟨q.symm, t⟩)⟩
    · exact absurd (.inl q) hn
  · rintro (q | ⟨q, t⟩) (q2 | ⟨q2, t2⟩)
    · omega
    · omega
    · omega
    · exact t t2
end Mine
end PP1c

section PP1d
open PySem
namespace Mine
theorem rc (P : Prop) [Decidable P] (k : Nat) : ∀ n, (k < n → (List.range n).countP (fun k' => decide (k' < k ∨ k' = k ∧ P)) = k + (if P then 1 else 0)) ∧ (n ≤ k → (List.range n).countP (fun k' => decide (k' < k ∨ k' = k ∧ P)) = n)
  | 0 => ⟨fun h => by omega, fun _ => rfl⟩
  | n + 1 => by
    have ih := rc P k n
    rw [List.range_succ, List.countP_append]
    constructor
    · intro h
      by_cases hn : n = k
      · subst hn
        rw [ih.2 (Nat.le_refl _)]
        congr 1
        by_cases hP : P <;> simp [hP]
      · rw [ih.1 (by omega)]
        have : ¬ (n < k ∨ n = k ∧ P) := by rintro (h1 | ⟨h1, _⟩) <;> omega
        simp [this]
    · intro h
      rw [ih.2 (by omega)]
      have : n < k ∨ n = k ∧ P := .inl (by omega)
      simp [this]
theorem cnt_lev {c x y k : Nat} {r s : List Nat} (P : Prop) [Decidable P] (h : Fit x r y s) (hk : k < (phi c x).length) :
    (List.range (phi c y).length).countP (fun k' => decide (lev y k' < lev x k ∨ lev y k' = lev x k ∧ P)) = (if x < y ∨ x = y ∧ P then 1 else 0) + k * (if y = 97 then 1 else 0) := by
  rcases h.hx x List.mem_cons_self with rfl | rfl <;> rcases h.hy y List.mem_cons_self with rfl | rfl
  · rw [len_a] at hk ⊢
    have z := (rc P k (c + 1)).1 hk
    have e : (fun k' => decide (lev 97 k' < lev 97 k ∨ lev 97 k' = lev 97 k ∧ P)) = fun k' => decide (k' < k ∨ k' = k ∧ P) := by
      funext k'
      unfold lev
      simp
    rw [e, z]
    simp
    omega
  · rw [len_b]
    show (List.countP _ [0]) = _
    unfold lev
    simp
  · rw [len_b] at hk
    obtain rfl : k = 0 := by omega
    have : ∀ k' ∈ List.range (phi c 97).length, ¬ (fun k' => decide (lev 97 k' < lev 98 0 ∨ lev 97 k' = lev 98 0 ∧ P)) k' = true := by
      intro k' _
      unfold lev
      simp
    rw [List.countP_eq_zero.mpr this]
    simp
  · rw [len_b] at hk ⊢
    obtain rfl : k = 0 := by omega
    show (List.countP _ [0]) = _
    unfold lev
    by_cases hP : P <;> simp [hP]
theorem seg {α β : Type} (F : α → List β) (d : α) {γ : Type} : ∀ (l : List α) (f : Nat → γ), (List.range (l.flatMap F).length).map f = (List.range l.length).flatMap (fun i => (List.range (F (l.getD i d)).length).map (fun k => f (((l.take i).flatMap F).length + k)))
  | [], f => rfl
  | x :: t, f => by
    rw [List.flatMap_cons, List.length_append, List.range_add, List.map_append, List.length_cons, List.range_succ_eq_map, List.flatMap_cons, List.flatMap_map, List.map_map]
    congr 1
    · simp
    · have ih := seg F d t (fun p => f ((F x).length + p))
      rw [show (f ∘ fun p => (F x).length + p) = fun p => f ((F x).length + p) from rfl, ih]
      congr 1
      funext i
      simp [Nat.add_assoc]
end Mine
end PP1d

section PP1e
open PySem
namespace Mine
def rot (l : List Nat) (i : Nat) : List Nat := l.drop i ++ l.take i
def rr (l : List Nat) (i : Nat) : List Nat := l.drop (i + 1) ++ l.take i
theorem rot_cons {l : List Nat} {i : Nat} (h : i < l.length) : rot l i = l.getD i 0 :: rr l i := by
  unfold rot rr
  rw [List.drop_eq_getElem_cons h, List.cons_append]
  congr 1
  simp [List.getD, h]
theorem rot_perm (l : List Nat) (i : Nat) : (rot l i).Perm l := by
  unfold rot
  exact (List.perm_append_comm).trans (by rw [List.take_append_drop])
theorem fit {l : List Nat} (h : AL l) {i j : Nat} (hi : i < l.length) (hj : j < l.length) : Fit (l.getD i 0) (rr l i) (l.getD j 0) (rr l j) := by
  refine ⟨?_, ?_, ?_, ?_⟩
  · rw [← rot_cons hi]; exact fun x hx => h x ((rot_perm l i).mem_iff.mp hx)
  · rw [← rot_cons hj]; exact fun x hx => h x ((rot_perm l j).mem_iff.mp hx)
  · unfold rr; simp only [List.length_append, List.length_drop, List.length_take]; omega
  · rw [← rot_cons hi, ← rot_cons hj, (rot_perm l i).count_eq, (rot_perm l j).count_eq]
theorem rot_grown (c : Nat) {l : List Nat} {i k : Nat} (hi : i < l.length) (hk : k < (phi c (l.getD i 0)).length) :
    rot (l.flatMap (phi c)) (((l.take i).flatMap (phi c)).length + k) = wd c (l.getD i 0) (rr l i) k := by
  have e : l.flatMap (phi c) = (l.take i).flatMap (phi c) ++ (phi c (l.getD i 0) ++ (l.drop (i + 1)).flatMap (phi c)) := by
    have hd : l.drop i = l.getD i 0 :: l.drop (i + 1) := by
      rw [List.drop_eq_getElem_cons hi]
      congr 1
      simp [List.getD, hi]
    rw [← List.flatMap_cons, ← hd, ← List.flatMap_append, List.take_append_drop]
  unfold rot wd rr
  rw [e, List.drop_append, List.take_append]
  have h1 : ((l.take i).flatMap (phi c)).drop (((l.take i).flatMap (phi c)).length + k) = [] := List.drop_eq_nil_of_le (by omega)
  have h2 : ((l.take i).flatMap (phi c)).take (((l.take i).flatMap (phi c)).length + k) = (l.take i).flatMap (phi c) := List.take_of_length_le (by omega)
  rw [h1, h2, show ((l.take i).flatMap (phi c)).length + k - ((l.take i).flatMap (phi c)).length = k by omega, List.drop_append_of_le_length (by omega), List.take_append_of_le_length (by omega), List.flatMap_append]
  simp only [List.nil_append, List.append_assoc]
theorem sum_two (A B : Nat → Prop) [DecidablePred A] [DecidablePred B] (k : Nat) : ∀ l : List Nat, (l.map fun j => (if A j then 1 else 0) + k * (if B j then 1 else 0)).sum = l.countP (fun j => decide (A j)) + k * l.countP (fun j => decide (B j))
  | [] => by simp
  | x :: t => by
    rw [List.map_cons, List.sum_cons, sum_two A B k t, List.countP_cons, List.countP_cons]
    by_cases hA : A x <;> by_cases hB : B x <;> simp [hA, hB, Nat.mul_add] <;> omega
theorem count_range (l : List Nat) : (List.range l.length).countP (fun j => decide (l.getD j 0 = 97)) = l.count 97 := by
  induction l with
  | nil => rfl
  | cons x t ih =>
    rw [List.length_cons, List.range_succ_eq_map, List.countP_cons, List.countP_map, List.count_cons]
    have : ((fun j => decide ((x :: t).getD j 0 = 97)) ∘ Nat.succ) = fun j => decide (t.getD j 0 = 97) := rfl
    rw [this, ih]
    by_cases h : x = 97 <;> simp [h]
theorem tot {l : List Nat} (n : Nat) (i : Nat) : (List.range n).countP (fun j => decide (rot l i < rot l j)) + (List.range n).countP (fun j => decide (rot l j ≤ rot l i)) = n := by
  have := List.length_eq_countP_add_countP (fun j => decide (rot l i < rot l j)) (l := List.range n)
  rw [List.length_range] at this
  have e : (fun a => decide ¬decide (rot l i < rot l a) = true) = fun j => decide (rot l j ≤ rot l i) := by
    funext j
    exact decide_eq_decide.mpr (by rw [decide_eq_true_eq]; exact Iff.rfl)
  rw [e] at this
  omega
theorem low_grow (c : Nat) {l : List Nat} (h : AL l) {i k : Nat} (hi : i < l.length) (hk : k < (phi c (l.getD i 0)).length) :
    ((List.range (l.flatMap (phi c)).length).map (rot (l.flatMap (phi c)))).countP (fun y => decide (y < rot (l.flatMap (phi c)) (((l.take i).flatMap (phi c)).length + k))) + (List.range l.length).countP (fun j => decide (rot l j ≤ rot l i)) = l.length + k * l.count 97 := by
  rw [rot_grown c hi hk, seg (phi c) 0 l, List.countP_flatMap]
  have e : (List.range l.length).map (List.countP (fun y => decide (y < wd c (l.getD i 0) (rr l i) k)) ∘ fun j => (List.range (phi c (l.getD j 0)).length).map fun k' => rot (l.flatMap (phi c)) (((l.take j).flatMap (phi c)).length + k'))
      = (List.range l.length).map fun j => (if rot l i < rot l j then 1 else 0) + k * (if l.getD j 0 = 97 then 1 else 0) := by
    refine List.map_congr_left fun j hj => ?_
    have hj := List.mem_range.mp hj
    show List.countP _ (List.map _ _) = _
    rw [List.countP_map]
    have z := cnt_lev (c := c) (rr l i < rr l j) (fit h hi hj) hk
    have e2 : (if rot l i < rot l j then 1 else 0) = (if l.getD i 0 < l.getD j 0 ∨ l.getD i 0 = l.getD j 0 ∧ rr l i < rr l j then 1 else 0) := by
      rw [rot_cons hi, rot_cons hj]
      simp only [List.cons_lt_cons_iff]
    rw [e2, ← z]
    refine List.countP_congr fun k' hk' => ?_
    have hk' := List.mem_range.mp hk'
    simp only [Function.comp_apply, decide_eq_true_eq]
    rw [rot_grown c hj hk']
    exact wd_lt_iff (fit h hi hj) hk hk'
  rw [e, sum_two, count_range]
  have := tot (l := l) l.length i
  omega
theorem tot2 {l : List Nat} (n : Nat) (i : Nat) : (List.range n).countP (fun j => decide (rot l i ≤ rot l j)) + (List.range n).countP (fun j => decide (rot l j < rot l i)) = n := by
  have := List.length_eq_countP_add_countP (fun j => decide (rot l j < rot l i)) (l := List.range n)
  rw [List.length_range] at this
  have e : (fun a => decide ¬decide (rot l a < rot l i) = true) = fun j => decide (rot l i ≤ rot l j) := by
    funext j
    exact decide_eq_decide.mpr (by rw [decide_eq_true_eq]; exact Iff.rfl)
  rw [e] at this
  omega
theorem high_grow (c : Nat) {l : List Nat} (h : AL l) {i k : Nat} (hi : i < l.length) (hk : k < (phi c (l.getD i 0)).length) :
    ((List.range (l.flatMap (phi c)).length).map (rot (l.flatMap (phi c)))).countP (fun y => decide (y ≤ rot (l.flatMap (phi c)) (((l.take i).flatMap (phi c)).length + k))) + (List.range l.length).countP (fun j => decide (rot l j < rot l i)) = l.length + k * l.count 97 := by
  rw [rot_grown c hi hk, seg (phi c) 0 l, List.countP_flatMap]
  have e : (List.range l.length).map (List.countP (fun y => decide (y ≤ wd c (l.getD i 0) (rr l i) k)) ∘ fun j => (List.range (phi c (l.getD j 0)).length).map fun k' => rot (l.flatMap (phi c)) (((l.take j).flatMap (phi c)).length + k'))
      = (List.range l.length).map fun j => (if rot l i ≤ rot l j then 1 else 0) + k * (if l.getD j 0 = 97 then 1 else 0) := by
    refine List.map_congr_left fun j hj => ?_
    have hj := List.mem_range.mp hj
    show List.countP _ (List.map _ _) = _
    rw [List.countP_map]
    have z := cnt_lev (c := c) (rr l i ≤ rr l j) (fit h hi hj) hk
    have e2 : (if rot l i ≤ rot l j then 1 else 0) = (if l.getD i 0 < l.getD j 0 ∨ l.getD i 0 = l.getD j 0 ∧ rr l i ≤ rr l j then 1 else 0) := by
      rw [rot_cons hi, rot_cons hj]
      simp only [List.cons_le_cons_iff]
    rw [e2, ← z]
    refine List.countP_congr fun k' hk' => ?_
    have hk' := List.mem_range.mp hk'
    simp only [Function.comp_apply, decide_eq_true_eq]
    rw [rot_grown c hj hk']
    exact wd_le_iff (fit h hi hj) hk hk'
  rw [e, sum_two, count_range]
  have := tot2 (l := l) l.length i
  omega
end Mine
end PP1e

section PP1s
open PySem
set_option maxRecDepth 10000
set_option maxHeartbeats 4000000
namespace Mine
def AB (g : Str) : Prop := ∀ x ∈ toL g, x = 97 ∨ x = 98
def pairsOf (c : Int) : List Str := [Str.ofString "b", Str.ofString "c", Str.ofString "a", mulA c, Str.ofString "c", Str.ofString "a"]
def backOf (c : Int) : List Str := [mulA c, Str.ofString "c", Str.ofString "a", Str.ofString "b", Str.ofString "c", Str.ofString "a"]
def grow (c : Int) (g : Str) : Str := repl g (pairsOf c)
theorem foldl_repx (x : Nat) (i : Nat) : ∀ acc : Array Nat, List.foldl (· ++ ·) acc (List.replicate i #[x]) = acc ++ (List.replicate i x).toArray := by
  induction i with
  | zero => intro acc; simp
  | succ i ih =>
    intro acc
    rw [List.replicate_succ, List.foldl_cons, ih, List.replicate_succ]
    apply Array.toList_inj.mp
    simp
theorem mulx_toL {q : Str} {x : Nat} (hr : q = ⟨#[x]⟩) (n : Int) : toL (Txt.mul q n) = List.replicate n.toNat x := by
  unfold Txt.mul
  split
  · rename_i h; rw [show n.toNat = 0 by omega]; rfl
  · split
    · rename_i h0 h
      have : n = 1 := by
        rw [Bool.or_eq_true] at h
        rcases h with h | h
        · simpa using h
        · rw [hr] at h; simp [Str.length] at h
      subst this; rw [hr]; rfl
    · show (List.foldl (· ++ ·) #[] (List.replicate n.toNat q.cps)).toList = _
      rw [hr, foldl_repx]; simp
theorem mulA_toL (c : Int) : toL (mulA c) = List.replicate c.toNat 97 ++ [98] := by
  unfold mulA
  rw [toL_append, mulx_toL (x := 97) (by decide), show toL (Str.ofString "b") = [98] by decide]
theorem mulA_kind {c : Int} (hc : 0 ≤ c) (hc2 : c ≤ 2) : PySem.Builtin.Str.strKind (mulA c) = 1 := by
  have h3 : c = 0 ∨ c = 1 ∨ c = 2 := by omega
  rcases h3 with rfl | rfl | rfl <;> decide +kernel
theorem mulA_len (c : Int) : (mulA c).length = c.toNat + 1 := by
  rw [← toL_length, mulA_toL, List.length_append, List.length_replicate]; rfl
theorem grow_toL {g : Str} (c : Int) (h : AB g) : toL (grow c g) = (toL g).flatMap (phi c.toNat) := by
  show toL (Txt.join (Str.ofString "a") (Txt.split (Txt.join (mulA c) (Txt.split (Txt.join (Str.ofString "c") (Txt.split g (Str.ofString "b"))) (Str.ofString "a"))) (Str.ofString "c"))) = _
  rw [repl_toL _ (Str.ofString "c") (Str.ofString "a") (by decide) (by decide +kernel), repl_toL _ (Str.ofString "a") (mulA c) (by decide) (by decide +kernel), repl_toL _ (Str.ofString "b") (Str.ofString "c") (by decide) (by decide +kernel),
    show toL (Str.ofString "a") = [97] by decide, show toL (Str.ofString "b") = [98] by decide, show toL (Str.ofString "c") = [99] by decide, mulA_toL]
  exact grow3 c.toNat h
theorem grow_AB {g : Str} (c : Int) (h : AB g) : AB (grow c g) := by
  intro x hx
  rw [grow_toL c h] at hx
  exact flat_AL _ _ x hx
theorem back_eq {g : Str} {c : Int} (hc : 0 ≤ c) (hc2 : c ≤ 2) (h : AB g) : repl (grow c g) (backOf c) = g := by
  apply str_ext
  show toL (Txt.join (Str.ofString "a") (Txt.split (Txt.join (Str.ofString "b") (Txt.split (Txt.join (Str.ofString "c") (Txt.split (grow c g) (mulA c))) (Str.ofString "a"))) (Str.ofString "c"))) = _
  rw [repl_toL _ (Str.ofString "c") (Str.ofString "a") (by decide) (by decide +kernel), repl_toL _ (Str.ofString "a") (Str.ofString "b") (by decide) (by decide +kernel), repl_toL _ (mulA c) (Str.ofString "c") (by rw [mulA_len]; omega) (mulA_kind hc hc2),
    show toL (Str.ofString "a") = [97] by decide, show toL (Str.ofString "b") = [98] by decide, show toL (Str.ofString "c") = [99] by decide, mulA_toL, grow_toL c h]
  exact back3 c.toNat h
/-- what a pair's round may tell at most -/
theorem repL_le (p q : List Nat) (B : Nat) (hB : 1 ≤ B) (hq : q.length ≤ B) : ∀ (l : List Nat) (k : Nat), (repL p q k l).length ≤ B * l.length
  | [], k => by unfold repL; exact Nat.zero_le _
  | c :: t, k + 1 => by
    unfold repL
    have := repL_le p q B hB hq t k
    rw [List.length_cons, Nat.mul_succ]; omega
  | c :: t, 0 => by
    unfold repL
    split
    · have := repL_le p q B hB hq t (p.length - 1)
      rw [List.length_append, List.length_cons, Nat.mul_succ]; omega
    · have := repL_le p q B hB hq t 0
      rw [List.length_cons, List.length_cons, Nat.mul_succ]; omega
theorem one_le (t p q : Str) {B : Nat} (hB : 1 ≤ B) (hq : q.length ≤ B) (hp : 1 ≤ p.length) (hk : PySem.Builtin.Str.strKind p = 1) : (Txt.join q (Txt.split t p)).length ≤ B * t.length := by
  rw [← toL_length, repl_toL _ _ _ hp hk]
  have := repL_le (toL p) (toL q) B hB (by rw [toL_length]; exact hq) (toL t) 0
  rw [toL_length] at this
  exact this
theorem repl_app : ∀ (a : List Str) (b : List Str) (t : Str), okPairs t a → repl t (a ++ b) = repl (repl t a) b
  | [], b, t, _ => by rfl
  | [x], b, t, h => h.elim
  | p0 :: p1 :: r, b, t, h => repl_app r b _ h.2.2.2
theorem ok_app : ∀ (a : List Str) (b : List Str) (t : Str), okPairs t a → okPairs (repl t a) b → okPairs t (a ++ b)
  | [], b, t, _, h2 => h2
  | [x], b, t, h, _ => h.elim
  | p0 :: p1 :: r, b, t, h, h2 => ⟨h.1, h.2.1, h.2.2.1, ok_app r b _ h.2.2.2 h2⟩
theorem ok_pairs {g : Str} {c : Int} (hc : 0 ≤ c) (hc2 : c ≤ 2) (hl : g.length ≤ 100) : okPairs g (pairsOf c) := by
  have h1 := one_le g (Str.ofString "b") (Str.ofString "c") (B := 1) (by decide) (by decide) (by decide) (by decide +kernel)
  have hm := mulA_len c
  have h2 := one_le (Txt.join (Str.ofString "c") (Txt.split g (Str.ofString "b"))) (Str.ofString "a") (mulA c) (B := 3) (by decide) (by omega) (by decide) (by decide +kernel)
  exact ⟨by decide, by decide, by omega, by decide, by omega, by omega, by decide, by decide, by omega, trivial⟩
theorem ok_back {g : Str} {c : Int} (hc : 0 ≤ c) (hc2 : c ≤ 2) (hl : g.length ≤ 300) : okPairs g (backOf c) := by
  have hm := mulA_len c
  have h1 := one_le g (mulA c) (Str.ofString "c") (B := 1) (by decide) (by decide) (by omega) (mulA_kind hc hc2)
  have h2 := one_le (Txt.join (Str.ofString "c") (Txt.split g (mulA c))) (Str.ofString "a") (Str.ofString "b") (B := 1) (by decide) (by decide) (by decide) (by decide +kernel)
  refine ⟨?_, by decide, by omega, by decide, by decide, by omega, by decide, by decide, by omega, trivial⟩
  rw [hm]; simp
structure Inv (ring g : Str) (ps us : List Str) : Prop where
  ab : AB g
  ok1 : okPairs ring ps
  e1 : repl ring ps = g
  ok2 : okPairs g us
  e2 : repl g us = ring
theorem inv_zero {ring : Str} (h : AB ring) : Inv ring ring [] [] := ⟨h, trivial, rfl, trivial, rfl⟩
theorem grow_len {g : Str} {c : Int} (hc : 0 ≤ c) (hc2 : c ≤ 2) (h : AB g) : (grow c g).length ≤ 3 * g.length := by
  rw [← toL_length, grow_toL c h, ← toL_length g]
  generalize toL g = l
  induction l with
  | nil => exact Nat.le_refl _
  | cons x t ih =>
    rw [List.flatMap_cons, List.length_append, List.length_cons]
    have : (phi c.toNat x).length ≤ 3 := by
      unfold phi
      split
      · rw [List.length_append, List.length_replicate]; simp only [List.length_cons, List.length_nil]; omega
      · exact (by decide : 1 ≤ 3)
    omega
theorem inv_step {ring g : Str} {ps us : List Str} {c : Int} (hc : 0 ≤ c) (hc2 : c ≤ 2) (h : Inv ring g ps us) (hl : g.length ≤ 100) : Inv ring (grow c g) (ps ++ pairsOf c) (backOf c ++ us) := by
  have hg := grow_len hc hc2 h.ab
  have hb := ok_back hc hc2 (g := grow c g) (by omega)
  refine ⟨grow_AB c h.ab, ok_app _ _ _ h.ok1 ?_, ?_, ok_app _ _ _ hb ?_, ?_⟩
  · rw [h.e1]; exact ok_pairs hc hc2 hl
  · rw [repl_app _ _ _ h.ok1, h.e1]; rfl
  · rw [back_eq hc hc2 h.ab]; exact h.ok2
  · rw [repl_app _ _ _ hb, back_eq hc hc2 h.ab]; exact h.e2
theorem joinL_one : ∀ (l : List Nat), joinL [] (l.map fun c => [c]) = l
  | [] => rfl
  | [x] => rfl
  | x :: y :: r => by
    show [x] ++ [] ++ joinL [] ((y :: r).map fun c => [c]) = _
    rw [joinL_one (y :: r)]; rfl
theorem item0 (t : Str) {x : Nat} {r : List Nat} (h : toL t = x :: r) : Txt.charAt t 0 = some x := by
  have hi : t.cps[(0 : Int).toNat]? = some x := by
    rw [← Array.getElem?_toList]
    show (toL t)[0]? = some x
    rw [h]; rfl
  have := StrLaws.at_nonneg (x := t) (i := 0) (by decide) hi
  unfold Txt.charAt
  rw [this]
theorem lowS (g : Str) {i : Nat} (hi : i ≤ g.length) : (trs g g.length).countP (fun y => decide (slt y (turnS g i))) = ((List.range (toL g).length).map (rot (toL g))).countP (fun y => decide (y < rot (toL g) i)) := by
  unfold trs
  rw [List.countP_map, List.countP_map, toL_length]
  refine List.countP_congr fun j hj => ?_
  have hj := List.mem_range.mp hj
  simp only [Function.comp_apply, decide_eq_true_eq]
  show toL (turnS g j) < toL (turnS g i) ↔ _
  rw [turn_toL g (by omega), turn_toL g hi]
  exact Iff.rfl
theorem highS (g : Str) {i : Nat} (hi : i ≤ g.length) : (trs g g.length).countP (fun y => decide (sle y (turnS g i))) = ((List.range (toL g).length).map (rot (toL g))).countP (fun y => decide (y ≤ rot (toL g) i)) := by
  unfold trs
  rw [List.countP_map, List.countP_map, toL_length]
  refine List.countP_congr fun j hj => ?_
  have hj := List.mem_range.mp hj
  simp only [Function.comp_apply, decide_eq_true_eq]
  show toL (turnS g j) ≤ toL (turnS g i) ↔ _
  rw [turn_toL g (by omega), turn_toL g hi]
  exact Iff.rfl
theorem itemT (g : Str) {i : Nat} (hi : i < g.length) : Txt.item (turnS g i) 0 = ⟨#[(toL g).getD i 0]⟩ := by
  have hl := toL_length g
  unfold Txt.item
  rw [item0 (turnS g i) (x := (toL g).getD i 0) (r := rr (toL g) i) (by rw [turn_toL g (by omega)]; exact rot_cons (by omega))]
  rfl
theorem itemK (t : Str) {k : Nat} (hk : k < t.length) : Txt.item t k = ⟨#[(toL t).getD k 0]⟩ := by
  have hl := toL_length t
  have hi : t.cps[(k : Int).toNat]? = some ((toL t).getD k 0) := by
    rw [Int.toNat_natCast, ← Array.getElem?_toList]
    show (toL t)[k]? = _
    rw [List.getElem?_eq_getElem (by omega)]
    simp [List.getD, hl, hk]
  have := StrLaws.at_nonneg (x := t) (i := (k : Int)) (by omega) hi
  unfold Txt.item Txt.charAt
  rw [this]; rfl
theorem letters_phi {c : Int} {x : Nat} (h : x = 97 ∨ x = 98) : toL (lettersOf c ⟨#[x]⟩) = phi c.toNat x := by
  unfold lettersOf
  rcases h with rfl | rfl
  · rw [if_pos (by decide), mulA_toL]; rfl
  · rw [if_neg (by decide)]
    show toL (Str.ofString "a") = [97]
    decide
theorem many_countR {g : Str} : manyOf (countR g) = (toL g).count 97 := by
  unfold manyOf countR
  rw [List.countP_map, ← count_range, toL_length]
  refine List.countP_congr fun j hj => ?_
  have hj := List.mem_range.mp hj
  simp only [Function.comp_apply, decide_eq_true_eq]
  rw [itemT g hj]
  constructor
  · intro e
    have := congrArg toL e
    rw [show toL (Str.ofString "a") = [97] by decide] at this
    have q : [(toL g).getD j 0] = [97] := this
    simpa using q
  · intro e
    rw [e]; decide
theorem seg_lt (F : Nat → List Nat) {l : List Nat} {i : Nat} (hi : i < l.length) : ((l.take i).flatMap F).length + (F (l.getD i 0)).length ≤ (l.flatMap F).length := by
  have hd : l.drop i = l.getD i 0 :: l.drop (i + 1) := by
    rw [List.drop_eq_getElem_cons hi]
    congr 1
    simp [List.getD, hi]
  conv => rhs; rw [← List.take_append_drop i l, List.flatMap_append, hd, List.flatMap_cons]
  simp only [List.length_append]
  omega
theorem seg_at (F : Nat → List Nat) {l : List Nat} {i k : Nat} (hi : i < l.length) (hk : k < (F (l.getD i 0)).length) : (F (l.getD i 0)).getD k 0 = (l.flatMap F).getD (((l.take i).flatMap F).length + k) 0 := by
  have hd : l.drop i = l.getD i 0 :: l.drop (i + 1) := by
    rw [List.drop_eq_getElem_cons hi]
    congr 1
    simp [List.getD, hi]
  conv => rhs; arg 1; rw [← List.take_append_drop i l, List.flatMap_append, hd, List.flatMap_cons]
  unfold List.getD
  rw [List.getElem?_append_right (by omega), show ((l.take i).flatMap F).length + k - ((l.take i).flatMap F).length = k by omega, List.getElem?_append_left (by simpa [List.getD] using hk)]
theorem grow_rows {g : Str} {c : Int} (hc : 0 ≤ c) (hc2 : c ≤ 2) (h : AB g) : growR c (countR g) = countR (grow c g) := by
  have hG := grow_toL c h
  have hl := toL_length g
  have hGl : (grow c g).length = ((toL g).flatMap (phi c.toNat)).length := by rw [← toL_length, hG]
  have hcl : (countR g).length = g.length := by unfold countR; simp
  unfold growR
  conv => rhs; unfold countR
  rw [hGl, seg (phi c.toNat) 0 (toL g), many_countR, hcl]
  conv => lhs; arg 2; unfold countR
  rw [List.flatMap_map, hl, List.flatMap_def, List.flatMap_def]
  refine congrArg List.flatten (List.map_congr_left fun i hi => ?_)
  have hi := List.mem_range.mp hi
  have hx : (toL g).getD i 0 = 97 ∨ (toL g).getD i 0 = 98 := h _ (by simp [List.getD, hl, hi])
  unfold growRow
  dsimp only
  rw [itemT g hi]
  have hlp := letters_phi (c := c) hx
  have hll : (lettersOf c ⟨#[(toL g).getD i 0]⟩).length = (phi c.toNat ((toL g).getD i 0)).length := by rw [← toL_length, hlp]
  rw [hll]
  refine List.map_congr_left fun k hk => ?_
  have hk := List.mem_range.mp hk
  have hoff : (((toL g).take i).flatMap (phi c.toNat)).length + k < (grow c g).length := by
    rw [hGl]
    have := seg_lt (phi c.toNat) (l := toL g) (i := i) (by omega)
    omega
  have h1 := low_grow c.toNat h (i := i) (k := k) (by omega) hk
  have h2 := high_grow c.toNat h (i := i) (k := k) (by omega) hk
  rw [← hG] at h1 h2
  rw [← lowS (grow c g) (by omega)] at h1
  rw [← highS (grow c g) (by omega)] at h2
  have h3 := lowS g (i := i) (by omega)
  have h4 := highS g (i := i) (by omega)
  rw [List.countP_map] at h3 h4
  simp only [Function.comp_def] at h3 h4
  rw [← h4] at h1
  rw [← h3] at h2
  rw [hGl] at h1 h2
  have key : ∀ (a b : Str) (x y u v : Int), a = b → x = u → y = v → ((a, x, y) : Row3) = (b, u, v) := by rintro _ _ _ _ _ _ rfl rfl rfl; rfl
  refine key _ _ _ _ _ _ ?_ ?_ ?_
  · show Txt.item _ _ = Txt.item _ _
    rw [itemK _ (by omega), itemT (grow c g) hoff, hlp, hG]
    exact congrArg (fun x : Nat => (⟨#[x]⟩ : Str)) (seg_at (phi c.toNat) (by omega) hk)
  · have q : ((k * (toL g).count 97 : Nat) : Int) = (k : Int) * ((toL g).count 97 : Nat) := Int.natCast_mul _ _
    rw [← q]
    rw [hl] at h1
    omega
  · have q : ((k * (toL g).count 97 : Nat) : Int) = (k : Int) * ((toL g).count 97 : Nat) := Int.natCast_mul _ _
    rw [← q]
    rw [hl] at h2
    omega
theorem letters_eq (g : Str) : Txt.join (Str.ofString "") ((countR g).map (·.1)) = g := by
  apply str_ext
  rw [join_toL, show toL (Str.ofString "") = [] by decide, List.map_map]
  have e : (countR g).map (toL ∘ fun r => r.1) = (toL g).map fun c => [c] := by
    refine List.ext_getElem (by simp [countR, Str.length]) fun k h1 h2 => ?_
    have hk : k < g.length := by simpa [countR] using h1
    have hl : (toL g).length = g.length := toL_length g
    simp only [countR, List.getElem_map, List.getElem_range, Function.comp_apply]
    show [(Txt.charAt (turnS g k) 0).getD 0] = [(toL g)[k]]
    rw [item0 (turnS g k) (x := (toL g)[k]) (r := (toL g).drop (k + 1) ++ (toL g).take k) (by
      rw [turn_toL g (by omega), List.drop_eq_getElem_cons (by omega)]; rfl)]
    rfl
  rw [e, joinL_one]
def rtx1 (r : Int) : Str := Txt.mul (Str.ofString "c") (Int.fdiv r 2) ++ Txt.mul (Str.ofString "a") (Int.fmod r 2)
def rtx2 (r : Int) : Str := Txt.mul (Str.ofString "c") (Int.fdiv r 2)
def runsOf (g : Str) : List Int := (Txt.split g (Str.ofString "b")).map fun r : Str => ((r.length : Nat) : Int)
theorem half1 {g : Str} (h : AB g) : repl g [Str.ofString "aa", Str.ofString "c"] = Txt.join (Str.ofString "b") ((runsOf g).map rtx1) := by
  apply str_ext
  show toL (Txt.join (Str.ofString "c") (Txt.split g (Str.ofString "aa"))) = _
  rw [repl_toL _ (Str.ofString "aa") (Str.ofString "c") (by decide) (by decide +kernel), show toL (Str.ofString "aa") = [97, 97] by decide, show toL (Str.ofString "c") = [99] by decide, halfL h, join_toL, show toL (Str.ofString "b") = [98] by decide]
  congr 1
  have e := split_toL g (Str.ofString "b") (by decide) (by decide +kernel)
  rw [show toL (Str.ofString "b") = [98] by decide] at e
  rw [← e]
  unfold runsOf
  rw [List.map_map, List.map_map, List.map_map]
  refine List.map_congr_left fun r _ => ?_
  show halfW (toL r) = toL (rtx1 ((r.length : Nat) : Int))
  unfold halfW rtx1
  rw [toL_append, mulx_toL (x := 99) (by decide), mulx_toL (x := 97) (by decide), toL_length]
  congr 2
  · rw [Int.fdiv_eq_ediv_of_nonneg _ (by decide)]; omega
  · rw [Int.fmod_eq_emod_of_nonneg _ (by decide)]; omega
theorem half2 {g : Str} (h : AB g) : repl g [Str.ofString "aa", Str.ofString "c", Str.ofString "a", Str.ofString ""] = Txt.join (Str.ofString "b") ((runsOf g).map rtx2) := by
  apply str_ext
  show toL (Txt.join (Str.ofString "") (Txt.split (Txt.join (Str.ofString "c") (Txt.split g (Str.ofString "aa"))) (Str.ofString "a"))) = _
  rw [repl_toL _ (Str.ofString "a") (Str.ofString "") (by decide) (by decide +kernel), repl_toL _ (Str.ofString "aa") (Str.ofString "c") (by decide) (by decide +kernel), show toL (Str.ofString "aa") = [97, 97] by decide, show toL (Str.ofString "a") = [97] by decide, show toL (Str.ofString "") = [] by decide, show toL (Str.ofString "c") = [99] by decide, halfL2 h, join_toL, show toL (Str.ofString "b") = [98] by decide]
  congr 1
  have e := split_toL g (Str.ofString "b") (by decide) (by decide +kernel)
  rw [show toL (Str.ofString "b") = [98] by decide] at e
  rw [← e]
  unfold runsOf
  rw [List.map_map, List.map_map, List.map_map]
  refine List.map_congr_left fun r _ => ?_
  show List.replicate ((toL r).length / 2) 99 = toL (rtx2 ((r.length : Nat) : Int))
  unfold rtx2
  rw [mulx_toL (x := 99) (by decide), toL_length]
  congr 1
  rw [Int.fdiv_eq_ediv_of_nonneg _ (by decide)]; omega
theorem rtx1_len {r : Int} (h : 0 ≤ r ∧ r ≤ 54) : (rtx1 r).length ≤ 64 := by
  unfold rtx1
  rw [← toL_length, toL_append, mulx_toL (x := 99) (by decide), mulx_toL (x := 97) (by decide), List.length_append, List.length_replicate, List.length_replicate, Int.fdiv_eq_ediv_of_nonneg _ (by decide), Int.fmod_eq_emod_of_nonneg _ (by decide)]
  omega
theorem rtx2_len {r : Int} (h : 0 ≤ r ∧ r ≤ 54) : (rtx2 r).length ≤ 64 := by
  unfold rtx2
  rw [← toL_length, mulx_toL (x := 99) (by decide), List.length_replicate, Int.fdiv_eq_ediv_of_nonneg _ (by decide)]
  omega
theorem ok_half {g : Str} (_ : AB g) (hl : g.length ≤ 200) : okPairs g [Str.ofString "aa", Str.ofString "c", Str.ofString "a", Str.ofString ""] := by
  have h1 := one_le g (Str.ofString "aa") (Str.ofString "c") (B := 1) (by decide) (by decide) (by decide) (by decide +kernel)
  exact ⟨by decide, by decide, by omega, by decide, by decide, by omega, trivial⟩
theorem ok_half1 {g : Str} (hl : g.length ≤ 200) : okPairs g [Str.ofString "aa", Str.ofString "c"] := ⟨by decide, by decide, by omega, trivial⟩
def ringOf (ns : List Int) : Str := Txt.join (Str.ofString "") (ns.map fun n => Txt.item (Str.ofString "ab") (Int.fmod n 2))
theorem ab_item (n : Int) : toL (Txt.item (Str.ofString "ab") (Int.fmod n 2)) = [if Int.fmod n 2 = 0 then 97 else 98] := by
  have h1 := Int.fmod_nonneg_of_pos n (show (0:Int) < 2 by decide)
  have h2 := Int.fmod_lt_of_pos n (show (0:Int) < 2 by decide)
  have h : Int.fmod n 2 = 0 ∨ Int.fmod n 2 = 1 := by omega
  rcases h with h | h <;> rw [h] <;> decide +kernel
theorem ring_toL (ns : List Int) : toL (ringOf ns) = ns.map fun n => if Int.fmod n 2 = 0 then 97 else 98 := by
  unfold ringOf
  rw [join_toL, show toL (Str.ofString "") = [] by decide, List.map_map]
  have e : ns.map (toL ∘ fun n => Txt.item (Str.ofString "ab") (Int.fmod n 2)) = (ns.map fun n => if Int.fmod n 2 = 0 then 97 else 98).map fun c => [c] := by
    rw [List.map_map]
    exact List.map_congr_left fun n _ => ab_item n
  rw [e, joinL_one]
theorem ring_ab (ns : List Int) : AB (ringOf ns) := by
  intro x hx
  rw [ring_toL] at hx
  obtain ⟨n, _, rfl⟩ := List.mem_map.mp hx
  split
  · exact .inl rfl
  · exact .inr rfl
theorem ring_len (ns : List Int) : (ringOf ns).length = ns.length := by
  rw [← toL_length, ring_toL, List.length_map]
end Mine
end PP1s

section PC1h
open PySem PySem.W PyProof.Rows PySem.Calls
set_option maxRecDepth 100000
set_option maxHeartbeats 8000000
namespace Mine
local macro_rules | `(tactic| walk_at "compareOp NotEq str str") => `(tactic| (with_reducible refine neSame ?_))
local macro_rules | `(tactic| walk_at "eval Name") => `(tactic| (k_here; k_dflt (first
  | (refine' ld ?k1 ?k2 ?_; (case k1 => k_asm); (case k2 => assumption); k_whole)
  | (refine' ldC ?k1 ?k2 ?_; (case k1 => k_asm); (case k2 => assumption); k_whole))))
local macro_rules | `(tactic| walk_at "eval Name") => `(tactic| (k_here; (with_reducible show wpAny _ _ (eval (PySem.Expr.Name _ _) (compEnvC _ _ _ _)) _ _ _); k_dflt (first
  | (refine' cmL ?k1 ?k2 ?_; (case k1 => k_asm); (case k2 => first | exact rfl | assumption); k_whole)
  | (refine' cmC ?k1 ?k2 ?k3 ?k4 ?_; (case k4 => exact rfl); (case k1 => k_asm); (case k2 => assumption); (case k3 => assumption); k_whole)
  | (refine' cmK ?k1 ?k2 ?k3 ?k4 ?_; (case k1 => k_asm); (case k2 => k_asm); (case k3 => k_asm); (case k4 => k_is); k_whole)
  | (refine' cmB ?k1 ?k2 ?k3 ?k4 ?k5 ?k6 ?_; (case k1 => k_asm); (case k2 => k_asm); (case k3 => k_asm); (case k4 => k_is); (case k5 => boot_by_name); (case k6 => decide); k_whole))))
local macro_rules | `(tactic| walk_at "go") => `(tactic| (repeat' (first | (k_unfold; (try dsimp only)) | ((fail_if_success (with_reducible show wpAny _ _ (exec (Stmt.While _ _ _ _) _) _ _ _)); (fail_if_success (with_reducible show wpAny _ _ (exec (Stmt.For _ _ _ _ _) _) _ _ _)); (fail_if_success (with_reducible show wpAny _ _ (call (Value.ref _) _ _) _ _ _)); (fail_if_success (with_reducible show wpAny _ _ (call (Value.builtin "list.append") _ _) _ _ _)); (fail_if_success (with_reducible show wpAny _ _ (pyIter _) _ _ _)); (fail_if_success (with_reducible show wpAny _ _ (binaryOp Operator.Add (Value.ref _) (Value.ref _)) _ _ _)); (fail_if_success (with_reducible show StarOf _ _ _ _ _ _)); (fail_if_success (with_reducible show wpAny _ _ (eval (PySem.Expr.ListComp _ _ _ _) _) _ _ _)); (fail_if_success (with_reducible show wpAny _ _ (exec (Stmt.Assign _ (PySem.Expr.ListComp _ _ _ _) _) _) _ _ _)); (fail_if_success (with_reducible show wpAny _ _ (call (Value.builtin "len") [Value.ref _] _) _ _ _)); (fail_if_success (with_reducible show wpAny _ _ (assign (PySem.Expr.Tuple _ _ _) _ _) _ _ _)); (fail_if_success (with_reducible show wpAny _ _ (subscriptTail _ _ (Value.ref _) (Value.int _ _)) _ _ _)); (first | walk1 | (dsimp only; walk1)))); all_goals (try k_data)))



theorem enter_code {prog : Program} {w : World} {A : Around} {s : Shared} {K : Frag} {p : Program} {loose : List Str} {f : Addr} {R : Result → Shared → Prop} {mean : ExcName → Option Value} {mg mb : Str → Option Value}
   {name qual : Str} {params : Arguments} {body : List Stmt} {scope : Scope} {dV kV doc pm cdv ct oc : Value} {an od : Option Addr} {osl : Array (Option Value)}
   {args : List Value} {kw : List (Str × Value)} {binds : List (Str × Value)}
   (X : K.In s.heap) (T : Top p loose mean mg mb s.heap)
   (hroom : A.depth < recursionLimit)
   (ho : K.lookup f = some ⟨oc, od, .func (fnOf name qual params body scope dV kV doc pm an cdv ct), osl⟩) (hcd : codeIn K cdv qual = true)
   (hbind : BindsTo s (fnOf name qual params body scope dV kV doc pm an cdv ct) ⟨args, kw⟩ binds) (hloc : ∀ y ∈ binds, scope.names.lookup y.1 = some .local)
   (hcell : ∀ x ∈ scope.names, x.2 ≠ .cell)
   (h : ∀ L h₁, Fr s.heap L h₁ (fun y => binds.reverse.lookup y) → News s.heap L h₁ [] → L = s.heap.objs.size →
      wpAny (model prog w) (A.deeper (envOf qual scope L f cdv)) (execs body (envOf qual scope L f cdv))
        (fun fl s' => R (.ok (.ret (match fl with | .ret v => v | _ => .none))) s') (fun _ _ => False)
        { s with heap := h₁, toks := s.toks + binds.length })
   (hco : scope.isCoroutine = false) (hgen : scope.isGenerator = false) (hk : scope.kind = .function) :
   codeAny (model prog w) A (.call (.ref f) ⟨args, kw⟩) R s := by
  refine codeAny_call_def (fd := fnOf name qual params body scope dV kV doc pm an cdv ct) (body := body) (binds := binds) hroom (X _ _ ho) rfl T.nolimit (codeRec_of X hcd) rfl hbind hcell hloc (fun h₁ hns hk₁ => ?_) hco hgen hk
  exact wpAny_mono (h s.heap.objs.size h₁ ⟨hns, hk₁, Nat.le_refl _⟩ News.nil rfl) (fun fl s' hl => hl) fun _ _ y => y.elim

theorem news_hd {h₀ h : Heap} {L : Addr} {p : Addr × Obj} {r : List (Addr × Obj)} (N : News h₀ L h (p :: r)) : News h₀ L h [p] := fun q hq => by
  rw [List.mem_singleton.mp hq]; exact N _ (List.Mem.head _)
theorem ints_append {a b : List Value} {x y : List Int} (h1 : IntsAre a x) (h2 : IntsAre b y) : IntsAre (a ++ b) (x ++ y) := by
  induction h1 with
  | nil => exact h2
  | cons y t _ ih => exact .cons y t ih
theorem range_getD {α β : Type} (f : α → β) (d : α) : ∀ l : List α, (List.range l.length).map (fun i => f (l.getD i d)) = l.map f := by
  intro l
  refine List.ext_getElem (by simp) fun k h1 h2 => ?_
  have hk : k < l.length := by simpa using h2
  simp [List.getD, hk]
theorem ab_fits (ns : List Int) (h : ns.length ≤ 100) : ((ns.map fun n => Txt.item (Str.ofString "ab") (Int.fmod n 2)).map (·.length)).sum + (ns.map fun n => Txt.item (Str.ofString "ab") (Int.fmod n 2)).length * 64 ≤ 16777216 := by
  have := sum_le (B := 1) (ns.map fun n => Txt.item (Str.ofString "ab") (Int.fmod n 2)) (fun a ha => by
    obtain ⟨n, _, rfl⟩ := List.mem_map.mp ha
    exact Nat.le_refl _)
  simp only [List.length_map] at this ⊢
  omega
theorem news_more {h₀ h h' : Heap} {L : Addr} {m : Str → Option Value} {more news : List (Addr × Obj)} (F : Fr h₀ L h m) (N : News h₀ L h news) (k : ∀ b o, h.get? b = some o → h'.get? b = some o) (hn : ∀ p ∈ more, h'.get? p.1 = some p.2 ∧ h.get? p.1 = none) : News h₀ L h' (more ++ news) := fun p hp => by
  rcases List.mem_append.mp hp with hp | hp
  · obtain ⟨h1, h2⟩ := hn p hp
    refine ⟨h1, ?_, ?_⟩
    · rintro rfl
      obtain ⟨o, _, _, ho, _⟩ := F.ns
      rw [h2] at ho; cases ho
    · cases e : h₀.get? p.1 with
      | none => rfl
      | some o => rw [F.keep _ _ e] at h2; cases h2
  · have z := N p hp
    exact ⟨k _ _ z.1, z.2⟩
theorem news_sub {h₀ h : Heap} {L : Addr} {a b : List (Addr × Obj)} (N : News h₀ L h a) (hs : ∀ p ∈ b, p ∈ a) : News h₀ L h b := KStt.news_of N hs
theorem countR_len (g : Str) : (countR g).length = g.length := by unfold countR; simp
theorem countR_bd {g : Str} (h : g.length ≤ 1000) : ∀ r ∈ countR g, 0 ≤ r.2.1 ∧ r.2.1 ≤ 1000 ∧ 0 ≤ r.2.2 ∧ r.2.2 ≤ 1000 := by
  intro r hr
  obtain ⟨i, _, rfl⟩ := List.mem_map.mp hr
  have hl : (trs g g.length).length = g.length := by unfold trs; simp
  have h1 := List.countP_le_length (p := fun y => decide (slt y (turnS g i))) (l := trs g g.length)
  have h2 := List.countP_le_length (p := fun y => decide (sle y (turnS g i))) (l := trs g g.length)
  dsimp only
  omega
theorem news_tl {h₀ h : Heap} {L : Addr} {p : Addr × Obj} {r : List (Addr × Obj)} (N : News h₀ L h (p :: r)) : News h₀ L h r := fun q hq => N q (List.Mem.tail _ hq)
theorem rows_fits {g : Str} (h : g.length ≤ 1000) : (((countR g).map fun r : Row3 => r.1).map (·.length)).sum + ((countR g).map fun r : Row3 => r.1).length * 64 ≤ 16777216 := by
  have := sum_le (B := 1) ((countR g).map fun r : Row3 => r.1) (fun a ha => by
    obtain ⟨r, hr, rfl⟩ := List.mem_map.mp ha
    obtain ⟨i, _, rfl⟩ := List.mem_map.mp hr
    exact Nat.le_refl _)
  simp only [List.length_map, countR_len] at this ⊢
  omega
theorem countR_known (g : Str) : ∀ i (hi : i < (countR g).length), (countR g)[i].2.1 = ((trs g g.length).countP (fun y => decide (slt y (turnS g i))) : Nat) ∧ (countR g)[i].2.2 = ((trs g g.length).countP (fun y => decide (sle y (turnS g i))) : Nat) := by
  intro i hi
  simp [countR]
theorem fdiv_bd {run : Int} (h0 : 0 ≤ run) (h1 : run ≤ 54) : 0 ≤ run.fdiv 2 ∧ run.fdiv 2 ≤ 27 := by
  rw [Int.fdiv_eq_ediv_of_nonneg _ (by decide)]; omega
theorem rtx_fits {f : Int → Str} {rl : List Int} (h : ∀ r ∈ rl, (f r).length ≤ 64) (hl : rl.length ≤ 56) : ((rl.map f).map (·.length)).sum + (rl.map f).length * 64 ≤ 16777216 := by
  have := sum_le (B := 64) (rl.map f) (fun a ha => by
    obtain ⟨r, hr, rfl⟩ := List.mem_map.mp ha
    exact h r hr)
  simp only [List.length_map] at this ⊢
  omega
theorem law_code {w : World} {A : Around} {s : Shared} {R : Result → Shared → Prop} {mean : ExcName → Option Value} {mg mb : Str → Option Value} {loose : List Str} {a : Addr} {vs : List Value} {ns : List Int}
   (X : (Mine.hd.heap_39 w.params).In s.heap) (T : Top Mine.hd.view_39 loose mean mg mb s.heap)
   (hh : A.handled = none) (hroom : A.depth < 600) (hu : A.units < 1000)
   (hl : s.heap.IsList a vs.toArray) (hi : IntsAre vs ns) (hlen : ns.length ≤ 63)
   (hR : ∀ L m h' tk, Fr s.heap L h' m → R (.ok (.ret (.bool true))) { s with heap := h', toks := tk }) :
   codeAny (model PySem.Challenge.rw_ph0062_01.row.prog w) A (.call (.ref 91) ⟨[.ref a], []⟩) R s := by
  revert X; k_fill; intro X
  refine' enter_code (binds := [(Str.ofString "script", .ref a)]) X T (Nat.lt_trans hroom (by decide)) ?k1 ?k2 ?k3 ?k4 ?k5 ?_ ?k6 ?k7 ?k8
  case k1 => exact rfl
  case k2 => k_is
  case k3 => exact BindsTo.of_eq rfl
  case k4 => exact locs rfl
  case k5 => decide
  case k6 => rfl
  case k7 => rfl
  case k8 => rfl
  intro L h₁ F N _
  k_fold
  walk_at "go"
  rename_i d1 ws1 _ hI1 hC1 hL1 _ d2 c2 _ l1 l2 h2 F2 N2 l3
  refine addL F2 N2 (List.Mem.tail _ (List.Mem.head _)) (List.Mem.head _) ?_ ?_
  · rw [hI1.length]; simp only [List.length_cons, List.length_nil]; omega
  intro D3 h3 F3 N3 _
  obtain ⟨ws3, N4, hI3⟩ : ∃ ws3, News s.heap L h3 [(D3, listOf ws3.toArray 0)] ∧ IntsAre ws3 (ns.take 6 ++ [0, 1, 0, 0, 1, 0]) :=
    ⟨_, news_hd N3, ints_append hI1 (.cons _ _ (.cons _ _ (.cons _ _ (.cons _ _ (.cons _ _ (.cons _ _ .nil))))))⟩
  generalize hnums : ns.take 6 ++ [0, 1, 0, 0, 1, 0] = nums at hI3
  have hnl : nums.length ≤ 12 := by rw [← hnums, List.length_append, List.length_take]; simp only [List.length_cons, List.length_nil]; omega
  have hnl2 : 6 ≤ nums.length := by rw [← hnums, List.length_append]; simp only [List.length_cons, List.length_nil]; omega
  clear F2 N2 N3 hI1 hC1 hL1 l1 l3
  dsimp only
  walk_at "go"
  refine comp_list (V := fun (x : Str) v => ∃ t, v = Value.str x t) (f := fun i => some (Txt.item (Str.ofString "ab") (Int.fmod ((nums.take 6).getD i 0) 2))) hh rfl (by decide) rfl (by decide) ?_
  walk_at "go"
  rename_i d5 ws5 h5 F5 N5 hI5 hC5 hL5 l5
  have h6 : (nums.take 6).length = 6 := by rw [List.length_take]; omega
  refine ⟨_, ws5.toArray, rfl, ⟨_, (N5 _ (List.Mem.head _)).1, rfl, _, rfl⟩, ?_, ?_, ?_⟩
  · rw [List.size_toArray, hI5.length]; omega
  · rintro i v C I oI D oD h3 tk3 m3 hv F3 N3
    obtain ⟨t, hlt, rfl⟩ := ints_at hI5 hv
    dsimp only at F3 N3 ⊢
    clear F5 N5
    refine cmS F3 N3 ?_
    intro h4 F4 N4
    clear F3 N3
    refine wpAny_tests_nil ?_
    rw [if_pos rfl]
    rw [getD_at hlt]
    generalize (nums.take 6)[i] = n at F4 ⊢
    have hm1 := Int.fmod_nonneg_of_pos n (show (0:Int) < 2 by decide)
    have hm2 := Int.fmod_lt_of_pos n (show (0:Int) < 2 by decide)
    dsimp only
    walk_at "go"
    exact ⟨⟨_, _, _, rfl, F4, N4⟩, _, rfl, _, rfl⟩
  · intro D h3 tk3 ys k3 kD kD0 hA
    have F6 := F5.keeps k3
    have N6 : News s.heap L h3 _ := news_hd (news_new F5 N5 k3 kD kD0)
    have hS := hA.strs
    rw [List.filterMap_eq_map', List.size_toArray, hI5.length, range_getD (fun n => Txt.item (Str.ofString "ab") (Int.fmod n 2))] at hS
    generalize nums.take 6 = six at hS h6
    clear F5 N5 k3 kD kD0 hA hI5 hC5 hL5 l5 hI3 hnums hnl hnl2
    dsimp only
    walk_at "go"
    refine join_listC ⟨_, (N6 _ (List.Mem.head _)).1, rfl, _, rfl⟩ hS (by decide) (ab_fits six (by omega)) ?_
    intro t7 k7
    have hrab := ring_ab six
    have hrl := ring_len six
    rw [h6] at hrl
    change wpAny _ _ _ _ _ _
    generalize hring : Txt.join (Str.ofString "") (six.map fun n => Txt.item (Str.ofString "ab") (Int.fmod n 2)) = ring
    have hring' : ringOf six = ring := hring
    rw [hring'] at hrab hrl
    have N7 : News s.heap L h3 [] := fun p hp => nomatch hp
    clear N6 hS hring hring'
    dsimp only
    walk_at "go"
    rename_i d1 ws1 _ hI1 hC1 hL1 _ d2 c2 _ l1 l2 h8 F8 N8 l3
    refine addL F8 N8 (List.Mem.tail _ (List.Mem.head _)) (List.Mem.head _) ?_ ?_
    · rw [hI1.length]; simp only [List.length_cons, List.length_nil]; omega
    intro D9 h9 F9 N9 _
    obtain ⟨ws9, N10, hI9⟩ : ∃ ws9, News s.heap L h9 [(D9, listOf ws9.toArray 0)] ∧ IntsAre ws9 (ns.take 2 ++ [2, 2]) :=
      ⟨_, news_hd N9, ints_append hI1 (.cons _ _ (.cons _ _ .nil))⟩
    generalize hnums : ns.take 2 ++ [2, 2] = nums2 at hI9
    have hnl : nums2.length ≤ 4 := by rw [← hnums, List.length_append, List.length_take]; simp only [List.length_cons, List.length_nil]; omega
    have hnl2 : 2 ≤ nums2.length := by rw [← hnums, List.length_append]; simp only [List.length_cons, List.length_nil]; omega
    clear F8 N8 N9 hI1 hC1 hL1 l1 l3
    dsimp only
    walk_at "go"
    rename_i d10 ws10 _ hI10 hC10 hL10 l10 h11 F11 N11
    refine counted_call (X.keeps F11.keep) (T.keeps F11.keep) hh ?_ (by omega) ?_
    · show A.depth + 1 < 700; omega
    intro pl vp np tups h12 tk12 k12 hnew hne hA
    have F12 := F11.keeps k12
    have N12 : News s.heap L h12 ((pl, listOf vp.toArray np) :: (d10, listOf ws10.toArray 0) :: tups) := news_sub (news_more F11 N11 k12 hnew) (by
      intro p hp
      simp only [List.mem_cons, List.mem_append, List.not_mem_nil, or_false] at hp ⊢
      rcases hp with hp | hp | hp
      · exact .inl (.inl hp)
      · exact .inr (.inl hp)
      · exact .inl (.inr hp))
    clear F11 N11 k12 hnew hne hI9 l10 hL10
    dsimp only
    walk_at "go"
    refine wpAny_For ?_
    walk_at "go"
    rename_i pr _ l13 _ ud _ l14 h13 F13 N13
    all_goals (try rename IntsAre ws10 _ => hI10)
    refine for_list (its := ws10.toArray) hh (fun j m news => ∃ ud vud n3 pr vpr n2 pl vp np tups g ps us, news = (ud, listOf vud.toArray n3) :: (pr, listOf vpr.toArray n2) :: (pl, listOf vp.toArray np) :: (d10, listOf ws10.toArray 0) :: tups ∧
       All2 (TupIn tups) (countR g) vp ∧ StrsAre vpr ps ∧ StrsAre vud us ∧ Inv ring g ps us ∧ g.length ≤ 6 * 3 ^ j ∧ ps.length = 6 * j ∧ us.length = 6 * j ∧
       m (Str.ofString "places") = some (.ref pl) ∧ m (Str.ofString "pairs") = some (.ref pr) ∧ m (Str.ofString "undone") = some (.ref ud) ∧ m (Str.ofString "ring") = some (.str ring t7)) ?_ F13 N13 ?_ ?_ ?_
    · rintro j m news ⟨ud, vud, n3, pr, vpr, n2, pl, vp, np, tups, g, ps, us, rfl, _⟩
      exact .inr ⟨_, List.Mem.tail _ (List.Mem.tail _ (List.Mem.tail _ (List.Mem.head _))), rfl, _, rfl⟩
    · exact ⟨ud, [], 0, pr, [], 0, pl, vp, np, tups, ring, [], [], rfl, hA, .nil, .nil, inv_zero hrab, by omega, rfl, rfl, rfl, rfl, rfl, rfl⟩
    · rintro j v oI h tk m news hv ⟨ud, vud, n3, pr, vpr, n2, pl, vp, np, tups, g, ps, us, rfl, hA, hS1, hS2, hinv, hgl, hpl, hul, e1, e2, e3, e4⟩ F14 N14 off
      obtain ⟨t, hlt, rfl⟩ := ints_at hI10 hv
      have hj : j < 2 := by omega
      generalize h13.objs.size = Io at N14 off ⊢
      clear F13 N13 l13 l14
      have hg18 : g.length ≤ 18 := by
        have : j = 0 ∨ j = 1 := by omega
        rcases this with rfl | rfl <;> omega
      generalize (nums2.take 2)[j] = n
      have hc0 := Int.fmod_nonneg_of_pos (n.fdiv 2) (show (0:Int) < 3 by decide)
      have hc3 := Int.fmod_lt_of_pos (n.fdiv 2) (show (0:Int) < 3 by decide)
      generalize hcc : (n.fdiv 2).fmod 3 = c at hc0 hc3
      walk_at "go"
      rw [hcc]
      rename Fr _ _ _ _ => F15
      rename News _ _ _ _ => N15
      refine pairs_call (X.keeps F15.keep) (T.keeps F15.keep) ?_ hc0 (by omega) ?_
      · show A.depth + 1 < 800; omega
      intro d16 v16 n16 h16 tk16 k16 g16 g16n hS16
      have F16 := F15.keeps k16
      have N16 := news_new F15 N15 k16 g16 g16n
      change StrsAre v16 (pairsOf c) at hS16
      have hv16 : v16.length = 6 := hS16.length
      have hvpr : vpr.length = 6 * j := by rw [hS1.length, hpl]
      have hvud : vud.length = 6 * j := by rw [hS2.length, hul]
      clear F15 N15 k16 g16 g16n
      dsimp only
      refine addL F16 N16 (List.Mem.tail _ (List.Mem.tail _ (List.Mem.tail _ (List.Mem.head _)))) (List.Mem.head _) (by omega) ?_
      intro D17 h17 F17 N17 l17
      have off17 : D17 ≠ Io := Nat.ne_of_gt (l17 (Io, oI) (List.Mem.tail _ (List.Mem.head _)))
      have hS17 := strs_append hS1 hS16
      have N17 : News s.heap L h17 ((Io, oI) :: (ud, listOf vud.toArray n3) :: (D17, listOf (vpr ++ v16).toArray 0) :: (pl, listOf vp.toArray np) :: (d10, listOf ws10.toArray 0) :: tups) := news_sub N17 (by
        intro p hp
        simp only [List.mem_cons] at hp ⊢
        rcases hp with hp | hp | hp | hp | hp | hp <;> simp [hp])
      have hv17 : (vpr ++ v16).length = 6 * j + 6 := by rw [List.length_append]; omega
      generalize vpr ++ v16 = v17 at N17 hS17 hv17
      clear F16 hS16 hS1 hvpr
      dsimp only
      walk_at "go"
      rw [hcc]
      all_goals (try rename StrsAre vud _ => hS2)
      all_goals (try rename StrsAre v17 _ => hS17)
      rename Fr _ _ _ _ => F18
      rename News _ _ _ _ => N18
      refine back_call (X.keeps F18.keep) (T.keeps F18.keep) ?_ hc0 (by omega) ?_
      · show A.depth + 1 < 800; omega
      intro d19 v19 n19 h19 tk19 k19 g19 g19n hS19
      have F19 := F18.keeps k19
      have N19 := news_new F18 N18 k19 g19 g19n
      change StrsAre v19 (backOf c) at hS19
      have hv19 : v19.length = 6 := hS19.length
      clear F18 N18 k19 g19 g19n
      dsimp only
      walk_at "go"
      all_goals (try rename StrsAre vud _ => hS2)
      all_goals (try rename StrsAre v17 _ => hS17)
      all_goals (try rename StrsAre v19 _ => hS19)
      refine addL F19 N19 (List.Mem.head _) (List.Mem.tail _ (List.Mem.tail _ (List.Mem.head _))) (by omega) ?_
      intro D20 h20 F20 N20 l20
      have off20 : D20 ≠ Io := Nat.ne_of_gt (l20 (Io, oI) (List.Mem.tail _ (List.Mem.head _)))
      have hS20 := strs_append hS19 hS2
      have N20 : News s.heap L h20 ((Io, oI) :: (D20, listOf (v19 ++ vud).toArray 0) :: (D17, listOf v17.toArray 0) :: (pl, listOf vp.toArray np) :: (d10, listOf ws10.toArray 0) :: tups) := news_sub N20 (by
        intro p hp
        simp only [List.mem_cons] at hp ⊢
        rcases hp with hp | hp | hp | hp | hp | hp <;> simp [hp])
      have hv20 : (v19 ++ vud).length = 6 * j + 6 := by rw [List.length_append]; omega
      generalize v19 ++ vud = v20 at N20 hS20 hv20
      clear F19 N19 hS19 hS2 hvud
      have hstep := inv_step hc0 (by omega) hinv (by omega)
      have hglen := grow_len hc0 (by omega) hinv.ab
      dsimp only
      walk_at "go"
      rw [hcc]
      all_goals (try rename StrsAre v17 _ => hS17)
      all_goals (try rename StrsAre v20 _ => hS20)
      rename Fr _ _ _ _ => F21
      rename News _ _ _ _ => N21
      refine grown_call (X.keeps F21.keep) (T.keeps F21.keep) hh ?_ ⟨_, (N21 _ (List.Mem.tail _ (List.Mem.tail _ (List.Mem.tail _ (List.Mem.head _))))).1, rfl, _, rfl⟩ (tups_at N21 (fun p hp => List.Mem.tail _ (List.Mem.tail _ (List.Mem.tail _ (List.Mem.tail _ (List.Mem.tail _ hp))))) hA) (by rw [countR_len]; omega) hc0 (by omega) (countR_bd (by omega)) ?_
      · show A.depth + 1 < 700; omega
      intro pl2 vp2 np2 tups2 h22 tk22 k22 hnew hne2 hA22
      have F22 := F21.keeps k22
      rw [grow_rows hc0 (by omega) hinv.ab] at hA22
      have off22 : ∀ p ∈ (pl2, listOf vp2.toArray np2) :: tups2, p.1 ≠ Io := fun p hp e => by
        have z := (hnew p hp).2
        have z2 := (N21 _ (List.Mem.head _)).1
        rw [e] at z; rw [z] at z2; cases z2
      have N22 : News s.heap L h22 ((Io, oI) :: (D20, listOf v20.toArray 0) :: (D17, listOf v17.toArray 0) :: (pl2, listOf vp2.toArray np2) :: (d10, listOf ws10.toArray 0) :: tups2) := news_sub (news_more F21 N21 k22 hnew) (by
        intro p hp
        simp only [List.mem_cons, List.mem_append] at hp ⊢
        rcases hp with hp | hp | hp | hp | hp | hp <;> simp [hp])
      clear F21 N21 k22 hnew hA
      generalize hG : grow c g = G at hstep hglen hA22
      dsimp only
      walk_at "go"
      all_goals (try rename StrsAre v17 _ => hS17)
      all_goals (try rename StrsAre v20 _ => hS20)
      rename Fr _ _ _ _ => F23
      rename News _ _ _ _ => N23
      refine star_seq F23 N23 (List.Mem.tail _ (List.Mem.tail _ (List.Mem.head _))) rfl rfl (.inl rfl) rfl ?_ ?_
      · rw [List.size_toArray, sizeLine_eq]; omega
      intro h24 F24 N24
      clear F23 N23
      dsimp only
      walk_at "go"
      all_goals (try rename StrsAre v17 _ => hS17)
      all_goals (try rename StrsAre v20 _ => hS20)
      rw [List.append_nil]
      have hG54 : G.length ≤ 54 := by omega
      refine repl_call (ps := ps ++ pairsOf c) (X.keeps F24.keep) (T.keeps F24.keep) hh ?_ hS17 (by rw [← hS17.length]; omega) hstep.ok1 ?_
      · show A.depth + 1 < 800; omega
      intro t25 h25 tk25 k25
      have F25 := F24.keeps k25
      have N25 := N24.grown k25
      clear F24 N24 k25
      rw [hstep.e1]
      dsimp only
      walk_at "go"
      all_goals (try rename StrsAre v17 _ => hS17)
      all_goals (try rename StrsAre v20 _ => hS20)
      rename Fr _ _ _ _ => F26
      rename News _ _ _ _ => N26
      have hR26 := tups_at N26 (tups := tups2) (fun p hp => List.Mem.tail _ (List.Mem.tail _ (List.Mem.tail _ (List.Mem.tail _ (List.Mem.tail _ hp))))) hA22
      refine comp_list (V := fun (x : Str) v => ∃ t, v = Value.str x t) (f := fun i => some ((countR G).getD i (Str.empty, 0, 0)).1) hh rfl (by decide) rfl (by decide) ?_
      walk_at "go"
      have hvp2 : vp2.length = G.length := by rw [hA22.length, countR_len]
      refine ⟨_, vp2.toArray, rfl, ⟨_, (N26 _ (List.Mem.tail _ (List.Mem.tail _ (List.Mem.tail _ (List.Mem.head _))))).1, rfl, _, rfl⟩, by rw [List.size_toArray]; omega, ?_, ?_⟩
      · rintro i v C I oI2 D oD h3 tk3 m3 hv F3 N3
        obtain ⟨hi3, ta, t1, t2, t3, nn, rfl, hta⟩ := hR26.get (by simpa using hv)
        clear F26 N26
        dsimp only at F3 N3 hta ⊢
        refine asg3 hh F3 N3 ⟨_, F3.keep _ _ hta, rfl, _, rfl⟩ rfl rfl rfl rfl ?_
        intro h4 tk4 F4 N4
        change Fr _ C h4 _ at F4
        change News _ C h4 _ at N4
        clear F3 N3
        refine wpAny_tests_nil ?_
        rw [if_pos rfl]
        have e : ((countR G).getD i (Str.empty, 0, 0)) = (countR G)[i] := by simp [List.getD, hi3]
        rw [e]
        dsimp only
        walk_at "go"
        exact ⟨⟨_, _, _, rfl, F4, N4⟩, _, rfl, _, rfl⟩
      · intro D27 h27 tk27 ys27 k27 kD kD0 hA27
        have F27 := F26.keeps k27
        have N27 := news_new F26 N26 k27 kD kD0
        have hS27 := hA27.strs
        rw [List.filterMap_eq_map', List.size_toArray, hvp2, ← countR_len G, range_getD (fun r : Row3 => r.1)] at hS27
        clear F26 N26 k27 kD kD0 hA27 hR26
        dsimp only
        walk_at "go"
        all_goals (try rename StrsAre v17 _ => hS17)
        all_goals (try rename StrsAre v20 _ => hS20)
        all_goals (try rename StrsAre ys27 _ => hS27)
        refine join_listC ⟨_, (N27 _ (List.Mem.head _)).1, rfl, _, rfl⟩ hS27 (by decide) (rows_fits (by omega)) ?_
        intro t28 k28
        rw [letters_eq]
        have N28 := news_tl N27
        clear N27 hS27
        dsimp only
        walk_at "go"
        all_goals (try rename StrsAre v17 _ => hS17)
        all_goals (try rename StrsAre v20 _ => hS20)
        refine star_seq F27 N28 (List.Mem.tail _ (List.Mem.head _)) rfl rfl (.inl rfl) rfl ?_ ?_
        · rw [List.size_toArray, sizeLine_eq]; omega
        intro h29 F29 N29
        clear F27 N28
        dsimp only
        walk_at "go"
        all_goals (try rename StrsAre v17 _ => hS17)
        all_goals (try rename StrsAre v20 _ => hS20)
        rw [List.append_nil]
        refine repl_call (ps := backOf c ++ us) (X.keeps F29.keep) (T.keeps F29.keep) hh ?_ hS20 (by rw [← hS20.length]; omega) hstep.ok2 ?_
        · show A.depth + 1 < 800; omega
        intro t30 h30 tk30 k30
        have F30 := F29.keeps k30
        have N30 := N29.grown k30
        clear F29 N29 k30
        rw [hstep.e2]
        dsimp only
        walk_at "go"
        all_goals (try rename StrsAre v17 _ => hS17)
        all_goals (try rename StrsAre v20 _ => hS20)
        refine known_call (rows := countR G) (X.keeps F30.keep) (T.keeps F30.keep) hh ?_ ⟨_, (N30 _ (List.Mem.tail _ (List.Mem.tail _ (List.Mem.tail _ (List.Mem.head _))))).1, rfl, _, rfl⟩ (tups_at N30 (fun p hp => List.Mem.tail _ (List.Mem.tail _ (List.Mem.tail _ (List.Mem.tail _ (List.Mem.tail _ hp))))) hA22) (countR_len G) (by omega) (countR_known G) ?_
        · show A.depth + 1 < 700; omega
        intro h31 tk31 k31
        have F31 := F30.keeps k31
        have N31 := N30.grown k31
        clear F30 N30 k31
        dsimp only
        walk_at "go"
        all_goals (try rename StrsAre v17 _ => hS17)
        all_goals (try rename StrsAre v20 _ => hS20)
        refine asg_comp_list (h₀ := s.heap) (V := fun (x : Int) v => ∃ t, v = Value.int x t) (f := fun i => some (((Txt.split G (Str.ofString "b")).getD i Str.empty).length : Nat)) hh rfl rfl (by decide) rfl (by decide) rfl rfl ?_
        walk_at "go"
        rename_i Fo No l h32 k32 el hS32 hP32 hIs32 F32 N32
        clear Fo No
        rw [el] at hS32 hP32
        have hspl := split_len G (Str.ofString "b")
        have hvl32 : (strValues l).length = (Txt.split G (Str.ofString "b")).length := hS32.length
        refine ⟨_, (strValues l).toArray, _, _, rfl, hIs32, by rw [List.size_toArray]; omega, F32, N32, ?_, ?_⟩
        · rintro i v C I oI2 D oD h3 tk3 m3 hv F3 N3
          obtain ⟨t9, hlt9, rfl⟩ := sgetElem hS32 hv
          have hX := X.keeps F32.keep
          have hT := T.keeps F32.keep
          have hPi := hP32 _ (List.getElem_mem hlt9)
          clear F32 N32 X T
          dsimp only at F3 N3 hX hT ⊢
          refine cmS F3 N3 ?_
          intro h4 F4 N4
          clear F3 N3
          refine wpAny_tests_nil ?_
          rw [if_pos rfl]
          rw [sgetD_at hlt9]
          generalize (Txt.split G (Str.ofString "b"))[i] = run at F4 hPi ⊢
          dsimp only
          walk_at "go"
          exact ⟨⟨_, _, _, rfl, F4, N4⟩, _, rfl, _, rfl⟩
        · intro D33 h33 tk33 ys33 F33 N33 hne33 hA33
          have hI33 := hA33.ints
          rw [List.filterMap_eq_map', List.size_toArray, hvl32, range_getD (fun r : Str => ((r.length : Nat) : Int))] at hI33
          change Fr s.heap L h33 _ at F33
          change News s.heap L h33 _ at N33
          have N34 : News s.heap L h33 ((D33, listOf ys33.toArray ys33.length) :: (Io, oI) :: (D20, listOf v20.toArray 0) :: (D17, listOf v17.toArray 0) :: (pl2, listOf vp2.toArray np2) :: (d10, listOf ws10.toArray 0) :: tups2) := news_sub N33 (by
            intro p hp
            simp only [List.mem_cons] at hp ⊢
            rcases hp with hp | hp | hp | hp | hp | hp | hp <;> simp [hp])
          have hrb : ∀ r ∈ runsOf G, 0 ≤ r ∧ r ≤ 54 := by
            intro r hr
            obtain ⟨q, hq, rfl⟩ := List.mem_map.mp hr
            have := hP32 q hq
            omega
          have hh1 := half1 hstep.ab
          have hh2 := half2 hstep.ab
          change IntsAre ys33 (runsOf G) at hI33
          have hrl : (runsOf G).length ≤ 56 := by unfold runsOf; rw [List.length_map]; omega
          generalize runsOf G = rl at hrb hh1 hh2 hI33 hrl
          clear F32 N32 N33 hne33 hA33 hS32 hIs32 el
          dsimp only
          walk_at "go"
          all_goals (try rename StrsAre v17 _ => hS17)
          all_goals (try rename StrsAre v20 _ => hS20)
          all_goals (try rename IntsAre ys33 _ => hI33)
          refine repl_call (ps := [Str.ofString "aa", Str.ofString "c"]) (X.keeps F33.keep) (T.keeps F33.keep) hh ?_ (.cons _ _ (.cons _ _ .nil)) (by decide) (ok_half1 (by omega)) ?_
          · show A.depth + 1 < 800; omega
          intro t35 h35 tk35 k35
          have F35 := F33.keeps k35
          have N35 := N34.grown k35
          clear F33 N34 k35
          rw [hh1]
          dsimp only
          walk_at "go"
          all_goals (try rename StrsAre v17 _ => hS17)
          all_goals (try rename StrsAre v20 _ => hS20)
          all_goals (try rename IntsAre ys33 _ => hI33)
          refine comp_list (V := fun (x : Str) v => ∃ t, v = Value.str x t) (f := fun i => some (rtx1 (rl.getD i 0))) hh rfl (by decide) rfl (by decide) ?_
          walk_at "go"
          all_goals (try rename StrsAre v17 _ => hS17)
          all_goals (try rename StrsAre v20 _ => hS20)
          all_goals (try rename IntsAre ys33 _ => hI33)
          refine ⟨_, ys33.toArray, rfl, ⟨_, (N35 _ (List.Mem.head _)).1, rfl, _, rfl⟩, ?_, ?_, ?_⟩
          · rw [List.size_toArray, hI33.length]; omega
          · rintro i v C I oI2 D oD h3 tk3 m3 hv F3 N3
            obtain ⟨t9, hlt9, rfl⟩ := ints_at hI33 hv
            have hri := hrb _ (List.getElem_mem hlt9)
            clear F35 N35
            dsimp only at F3 N3 ⊢
            refine cmS F3 N3 ?_
            intro h4 F4 N4
            clear F3 N3
            refine wpAny_tests_nil ?_
            rw [if_pos rfl]
            rw [getD_at hlt9]
            generalize rl[i] = run at F4 hri ⊢
            have b1 := fdiv_bd (run := run) (by omega) hri.2
            have b2 := Int.fmod_nonneg_of_pos run (show (0:Int) < 2 by decide)
            have b3 := Int.fmod_lt_of_pos run (show (0:Int) < 2 by decide)
            dsimp only
            walk_at "go"
            exact ⟨⟨_, _, _, rfl, F4, N4⟩, _, rfl, _, rfl⟩
          · intro D36 h36 tk36 ys36 k36 kD kD0 hA36
            have F36 := F35.keeps k36
            have N36 := news_new F35 N35 k36 kD kD0
            have hS36 := hA36.strs
            rw [List.filterMap_eq_map', List.size_toArray, hI33.length, range_getD rtx1] at hS36
            clear F35 N35 k36 kD kD0 hA36
            dsimp only
            walk_at "go"
            all_goals (try rename StrsAre v17 _ => hS17)
            all_goals (try rename StrsAre v20 _ => hS20)
            all_goals (try rename StrsAre ys36 _ => hS36)
            all_goals (try rename IntsAre ys33 _ => hI33)
            refine join_listC ⟨_, (N36 _ (List.Mem.head _)).1, rfl, _, rfl⟩ hS36 (by decide) (rtx_fits (fun r hr => rtx1_len (hrb r hr)) hrl) ?_
            intro t37 k37
            have N37 := news_tl N36
            clear N36 hS36
            generalize Txt.join (Str.ofString "b") (rl.map rtx1) = J1
            dsimp only
            walk_at "go"
            all_goals (try rename StrsAre v17 _ => hS17)
            all_goals (try rename StrsAre v20 _ => hS20)
            all_goals (try rename IntsAre ys33 _ => hI33)
            refine repl_call (ps := [Str.ofString "aa", Str.ofString "c", Str.ofString "a", Str.ofString ""]) (X.keeps F36.keep) (T.keeps F36.keep) hh ?_ (.cons _ _ (.cons _ _ (.cons _ _ (.cons _ _ .nil)))) (by decide) (ok_half hstep.ab (by omega)) ?_
            · show A.depth + 1 < 800; omega
            intro t38 h38 tk38 k38
            have F38 := F36.keeps k38
            have N38 := N37.grown k38
            clear F36 N37 k38
            rw [hh2]
            dsimp only
            walk_at "go"
            all_goals (try rename StrsAre v17 _ => hS17)
            all_goals (try rename StrsAre v20 _ => hS20)
            all_goals (try rename IntsAre ys33 _ => hI33)
            refine comp_list (V := fun (x : Str) v => ∃ t, v = Value.str x t) (f := fun i => some (rtx2 (rl.getD i 0))) hh rfl (by decide) rfl (by decide) ?_
            walk_at "go"
            all_goals (try rename StrsAre v17 _ => hS17)
            all_goals (try rename StrsAre v20 _ => hS20)
            all_goals (try rename IntsAre ys33 _ => hI33)
            refine ⟨_, ys33.toArray, rfl, ⟨_, (N38 _ (List.Mem.head _)).1, rfl, _, rfl⟩, ?_, ?_, ?_⟩
            · rw [List.size_toArray, hI33.length]; omega
            · rintro i v C I oI2 D oD h3 tk3 m3 hv F3 N3
              obtain ⟨t9, hlt9, rfl⟩ := ints_at hI33 hv
              have hri := hrb _ (List.getElem_mem hlt9)
              clear F38 N38
              dsimp only at F3 N3 ⊢
              refine cmS F3 N3 ?_
              intro h4 F4 N4
              clear F3 N3
              refine wpAny_tests_nil ?_
              rw [if_pos rfl]
              rw [getD_at hlt9]
              generalize rl[i] = run at F4 hri ⊢
              have b1 := fdiv_bd (run := run) (by omega) hri.2
              dsimp only
              walk_at "go"
              exact ⟨⟨_, _, _, rfl, F4, N4⟩, _, rfl, _, rfl⟩
            · intro D39 h39 tk39 ys39 k39 kD kD0 hA39
              have F39 := F38.keeps k39
              have N39 := news_new F38 N38 k39 kD kD0
              have hS39 := hA39.strs
              rw [List.filterMap_eq_map', List.size_toArray, hI33.length, range_getD rtx2] at hS39
              clear F38 N38 k39 kD kD0 hA39
              dsimp only
              walk_at "go"
              all_goals (try rename StrsAre v17 _ => hS17)
              all_goals (try rename StrsAre v20 _ => hS20)
              all_goals (try rename StrsAre ys39 _ => hS39)
              refine join_listC ⟨_, (N39 _ (List.Mem.head _)).1, rfl, _, rfl⟩ hS39 (by decide) (rtx_fits (fun r hr => rtx2_len (hrb r hr)) hrl) ?_
              intro t40 k40
              have N40 := news_tl (news_tl N39)
              clear N39 hS39
              generalize Txt.join (Str.ofString "b") (rl.map rtx2) = J2
              dsimp only
              walk_at "go"
              all_goals (try rename StrsAre v17 _ => hS17)
              all_goals (try rename StrsAre v20 _ => hS20)
              refine ⟨_, _, _, _, rfl, F39, N40, ?_, D20, v20, 0, D17, v17, 0, pl2, vp2, np2, tups2, G, _, _, rfl, hA22, hS17, hS20, hstep, ?_, ?_, ?_, rfl, rfl, rfl, e4⟩
              · intro p hp
                rcases List.mem_cons.mp hp with rfl | hp
                · exact off20
                · rcases List.mem_cons.mp hp with rfl | hp
                  · exact off17
                  · rcases List.mem_cons.mp hp with rfl | hp
                    · exact off22 _ (List.Mem.head _)
                    · rcases List.mem_cons.mp hp with rfl | hp
                      · exact off _ (List.Mem.tail _ (List.Mem.tail _ (List.Mem.tail _ (List.Mem.head _))))
                      · exact off22 p (List.Mem.tail _ hp)
              · rw [Nat.pow_succ]; omega
              · rw [← hS17.length]; omega
              · rw [← hS20.length]; omega
    · rintro h tk m news ⟨ud, vud, n3, pr, vpr, n2, pl, vp, np, tups, g, ps, us, rfl, _⟩ F14 N14
      clear F13 N13
      dsimp only
      walk_at "go"
      exact hR _ _ _ _ F14
end Mine
end PC1h

section PFIN1
open PySem PySem.W PyProof.Rows PySem.Calls
set_option maxRecDepth 100000
set_option maxHeartbeats 8000000
theorem PySem.Challenge.cw_ph0062_01_holds : PySem.Challenge.rw_ph0062_01.Holds := by
  refine Mine.hd ?_
  k_fill
  intro w s₀ s₁ mg mb G Y fa o pm cd doc dV kV ho hd hcd hD hmg hg args vals as hpre hlay hrd hwl hlo
  have KX := kIn_of Y
  refine Ground.open G ?_
  intro T B D TE TW
  wrow_args hpre hlay hrd hwl hlo
  have hfa : fa = 91 := by
    have e := mg_of KX T.g (n := Str.ofString "law") (v := .ref 91) rfl
    have e2 : some (Value.ref fa) = some (Value.ref 91) := hmg.symm.trans e
    exact Value.ref.inj (Option.some.inj e2)
  subst hfa
  refine wpAny_call (Mine.law_code KX T rfl (by decide) (by decide) (by assumption) (by assumption) (by omega) ?_)
  intro L m h' tk F
  dsimp only
  refine GoodW.toG ?_
  wrow_close
end PFIN1

