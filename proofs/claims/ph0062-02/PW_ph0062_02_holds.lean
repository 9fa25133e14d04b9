import PyProof.Rows.All
import Wide.All
import OpenK.AllK
import Wide.FinOn
import Lean
import PySem.Challenge.RW_ph0062_02
set_option Elab.async false
set_option linter.unusedVariables false
set_option linter.unusedSimpArgs false

section PPL
namespace Mine
theorem countP_at {α : Type} (p : α → Bool) (l : List α) (k : Nat) (hk : k ≤ l.length) (h1 : ∀ i (h : i < l.length), i < k → p l[i] = true) (h2 : ∀ i (h : i < l.length), k ≤ i → p l[i] = false) : l.countP p = k := by
  have e : l.take k ++ l.drop k = l := List.take_append_drop k l
  have a : (l.take k).countP p = (l.take k).length := List.countP_eq_length.mpr fun x hx => by
    obtain ⟨i, hi, rfl⟩ := List.getElem_of_mem hx
    rw [List.getElem_take]
    have hi' : i < k ∧ i < l.length := by simpa [List.length_take, Nat.lt_min] using hi
    exact h1 i hi'.2 hi'.1
  have b : (l.drop k).countP p = 0 := List.countP_eq_zero.mpr fun x hx => by
    obtain ⟨i, hi, rfl⟩ := List.getElem_of_mem hx
    rw [List.getElem_drop]
    have hi' : i < l.length - k := by simpa using hi
    simp [h2 (k + i) (by omega) (by omega)]
  calc l.countP p = (l.take k ++ l.drop k).countP p := by rw [e]
    _ = k := by rw [List.countP_append, a, b, List.length_take]; omega

theorem pw_le {ns : List Int} (hs : ns.Pairwise (· ≤ ·)) {i j : Nat} (hi : i < ns.length) (hj : j < ns.length) (h : i ≤ j) : ns[i] ≤ ns[j] := by
  rcases Nat.lt_or_eq_of_le h with h | rfl
  · exact List.pairwise_iff_getElem.mp hs i j hi hj h
  · exact Int.le_refl _
theorem getD_at {ns : List Int} {k : Nat} (h : k < ns.length) : ns.getD k 0 = ns[k] := by simp [List.getD, h]
theorem mid_at (lo hi : Nat) : ((((lo : Int) + (hi : Int)).fdiv 2)) = (((lo + hi) / 2 : Nat) : Int) := by
  rw [Int.fdiv_eq_ediv_of_nonneg _ (by decide)]; omega
end Mine
namespace Mine
def insI (acc : List Int) (x : Int) : List Int := acc.take (acc.countP (fun y => decide (y ≤ x))) ++ x :: acc.drop (acc.countP (fun y => decide (y ≤ x)))
def insAll (l : List Int) : List Int := l.foldl insI []

theorem countP_take_drop {acc : List Int} (hs : acc.Pairwise (· ≤ ·)) (x : Int) :
    (∀ y ∈ acc.take (acc.countP (fun y => decide (y ≤ x))), y ≤ x) ∧ ∀ y ∈ acc.drop (acc.countP (fun y => decide (y ≤ x))), x < y := by
  induction acc with
  | nil => simp
  | cons a t ih =>
    have ht := List.pairwise_cons.mp hs
    have ih' := ih ht.2
    by_cases h : a ≤ x
    · have hd : decide (a ≤ x) = true := decide_eq_true h
      rw [List.countP_cons_of_pos (by simpa using h)]
      simp only [List.take_succ_cons, List.drop_succ_cons, List.mem_cons]
      refine ⟨fun y hy => ?_, ih'.2⟩
      rcases hy with rfl | hy
      · exact h
      · exact ih'.1 y hy
    · have h0 : (a :: t).countP (fun y => decide (y ≤ x)) = 0 := List.countP_eq_zero.mpr fun y hy => by
        rcases List.mem_cons.mp hy with rfl | hy
        · simpa using h
        · have := ht.1 y hy
          simp only [decide_eq_true_eq]; omega
      rw [h0]
      simp only [List.take_zero, List.drop_zero]
      refine ⟨fun y hy => by simp at hy, fun y hy => ?_⟩
      rcases List.mem_cons.mp hy with rfl | hy
      · omega
      · have := ht.1 y hy; omega
theorem insI_sorted {acc : List Int} (hs : acc.Pairwise (· ≤ ·)) (x : Int) : (insI acc x).Pairwise (· ≤ ·) := by
  have h := countP_take_drop hs x
  unfold insI
  rw [List.pairwise_append]
  refine ⟨hs.sublist (List.take_sublist ..), List.pairwise_cons.mpr ⟨fun y hy => Int.le_of_lt (h.2 y hy), hs.sublist (List.drop_sublist ..)⟩, fun y hy z hz => ?_⟩
  rcases List.mem_cons.mp hz with rfl | hz
  · exact h.1 y hy
  · exact Int.le_trans (h.1 y hy) (Int.le_of_lt (h.2 z hz))
theorem insI_perm (acc : List Int) (x : Int) : (insI acc x).Perm (x :: acc) := by
  unfold insI
  refine List.perm_middle.trans (List.Perm.cons x ?_)
  rw [List.take_append_drop]
theorem insAll_snoc (l : List Int) (x : Int) : insAll (l ++ [x]) = insI (insAll l) x := by
  unfold insAll; rw [List.foldl_append]; rfl
theorem foldl_ins (l : List Int) : ∀ acc : List Int, acc.Pairwise (· ≤ ·) → (l.foldl insI acc).Pairwise (· ≤ ·) ∧ (l.foldl insI acc).Perm (l ++ acc) := by
  induction l with
  | nil => intro acc h; exact ⟨h, .refl _⟩
  | cons x t ih =>
    intro acc h
    obtain ⟨h1, h2⟩ := ih (insI acc x) (insI_sorted h x)
    refine ⟨h1, h2.trans ?_⟩
    exact ((insI_perm acc x).append_left t).trans List.perm_middle
theorem insAll_sorted (l : List Int) : (insAll l).Pairwise (· ≤ ·) := (foldl_ins l [] .nil).1
theorem insAll_perm (l : List Int) : (insAll l).Perm l := by
  have := (foldl_ins l [] .nil).2
  rw [List.append_nil] at this
  exact this
theorem insAll_length (l : List Int) : (insAll l).length = l.length := (insAll_perm l).length_eq
theorem sorted_unique {a b : List Int} (ha : a.Pairwise (· ≤ ·)) (hb : b.Pairwise (· ≤ ·)) (h : a.Perm b) : a = b := by
  induction a generalizing b with
  | nil => exact (List.nil_perm.mp h).symm
  | cons x t ih =>
    cases b with
    | nil => exact absurd h.length_eq (by simp)
    | cons y u =>
      have hx := List.pairwise_cons.mp ha
      have hy := List.pairwise_cons.mp hb
      have e : x = y := by
        rcases List.mem_cons.mp (h.mem_iff.mp List.mem_cons_self) with e | e
        · exact e
        · rcases List.mem_cons.mp (h.symm.mem_iff.mp (List.mem_cons_self (a := y) (l := u))) with e' | e'
          · exact e'.symm
          · have := hy.1 x e; have := hx.1 y e'; omega
      subst e
      rw [ih hx.2 hy.2 (List.Perm.cons_inv h)]
end Mine
end PPL

section PPT
open PySem
set_option maxRecDepth 10000
namespace Mine
abbrev toL (x : Str) : List Nat := x.cps.toList

def repL (p q : List Nat) : Nat → List Nat → List Nat
  | _, [] => []
  | k + 1, _ :: t => repL p q k t
  | 0, c :: t => if p.isPrefixOf (c :: t) = true then q ++ repL p q (p.length - 1) t else c :: repL p q 0 t
def splL (p : List Nat) : Nat → List Nat → List (List Nat)
  | _, [] => [[]]
  | k + 1, _ :: t => splL p k t
  | 0, c :: t => if p.isPrefixOf (c :: t) = true then [] :: splL p (p.length - 1) t else (match splL p 0 t with | h :: r => (c :: h) :: r | [] => [[c]])
def cutsL (p : List Nat) : Nat → Nat → List Nat → List Nat
  | _, _, [] => []
  | i, k + 1, _ :: t => cutsL p (i + 1) k t
  | i, 0, c :: t => if p.isPrefixOf (c :: t) = true then i :: cutsL p (i + 1) (p.length - 1) t else cutsL p (i + 1) 0 t
def joinL (q : List Nat) : List (List Nat) → List Nat
  | [] => []
  | [x] => x
  | x :: y :: r => x ++ q ++ joinL q (y :: r)
def preL (pre : List Nat) : List (List Nat) → List (List Nat)
  | h :: r => (pre ++ h) :: r
  | [] => []

theorem splL_ne (p : List Nat) : ∀ (l : List Nat) (k : Nat), ∃ h r, splL p k l = h :: r
  | [], _ => ⟨_, _, by unfold splL; rfl⟩
  | c :: t, k + 1 => by unfold splL; exact splL_ne p t k
  | c :: t, 0 => by
    unfold splL
    split
    · exact ⟨_, _, rfl⟩
    · obtain ⟨h, r, e⟩ := splL_ne p t 0
      rw [e]; exact ⟨_, _, rfl⟩

theorem repL_join (p q : List Nat) : ∀ (l : List Nat) (k : Nat), repL p q k l = joinL q (splL p k l)
  | [], k => by cases k <;> (unfold repL splL; rfl)
  | c :: t, k + 1 => by unfold repL splL; exact repL_join p q t k
  | c :: t, 0 => by
    unfold repL splL
    split
    · rw [repL_join p q t]
      obtain ⟨h, r, e⟩ := splL_ne p t (p.length - 1)
      rw [e]; rfl
    · rw [repL_join p q t]
      obtain ⟨h, r, e⟩ := splL_ne p t 0
      rw [e]
      cases r <;> rfl

theorem pre_iff (p l : List Nat) : p.isPrefixOf l = true ↔ l.take p.length = p := by
  rw [List.isPrefixOf_iff_prefix]
  constructor
  · rintro ⟨t, rfl⟩; simp
  · intro h
    have := List.take_append_drop p.length l
    rw [h] at this
    exact ⟨l.drop p.length, this⟩

open StrLaws Builtin Builtin.Str in
theorem occ_run (x y : Str) (hy : 1 ≤ y.length) : ∀ (d i : Nat) (st : Array Nat × Nat), i + d = x.length → st.1.size ≤ i →
    (forIn (List.range' i (d + 1)) st (occBody x y x.length (x.length + 1))).run.fst.toList = st.1.toList ++ cutsL (toL y) i (st.2 - i) ((toL x).drop i)
  | 0, i, st, hi, hs => by
    have hdrop : (toL x).drop i = [] := List.drop_eq_nil_of_le (by show x.cps.toList.length ≤ i; rw [Array.length_toList]; show x.length ≤ i; omega)
    rw [hdrop]
    have hc : cutsL (toL y) i (st.2 - i) [] = [] := by cases (st.2 - i) <;> (unfold cutsL; rfl)
    rw [hc, List.append_nil]
    show (forIn (m := Id) (i :: List.range' (i + 1) 0) st (occBody x y x.length (x.length + 1))).run.fst.toList = _
    rw [List.forIn_cons]
    unfold occBody
    rw [if_neg (by omega)]
    rfl
  | d + 1, i, st, hi, hs => by
    have hlt : i < (toL x).length := by show i < x.cps.toList.length; rw [Array.length_toList]; show i < x.length; omega
    have hdrop : (toL x).drop i = (toL x)[i] :: (toL x).drop (i + 1) := List.drop_eq_getElem_cons hlt
    show (forIn (m := Id) (i :: List.range' (i + 1) (d + 1)) st (occBody x y x.length (x.length + 1))).run.fst.toList = _
    rw [List.forIn_cons]
    have hyl : (toL y).length = y.length := by show y.cps.toList.length = y.length; rw [Array.length_toList]; rfl
    have hsub : subAt x y i = true ↔ (toL y).isPrefixOf ((toL x).drop i) = true := by
      rw [subAt_eq, pre_iff, hyl]
      exact beq_iff_eq
    rcases Nat.lt_or_ge i st.2 with hf | hf
    · unfold occBody
      rw [if_neg (by omega)]
      have ih := occ_run x y hy d (i + 1) st (by omega) (by omega)
      show (forIn (List.range' (i + 1) (d + 1)) (st.1, st.2) (occBody x y x.length (x.length + 1))).run.fst.toList = _
      rw [ih, hdrop]
      obtain ⟨k, hk⟩ : ∃ k, st.2 - i = k + 1 := ⟨st.2 - i - 1, by omega⟩
      rw [hk, show st.2 - (i + 1) = k by omega]
      conv => rhs; unfold cutsL
    · have h0 : st.2 - i = 0 := by omega
      rw [h0]
      by_cases hp : subAt x y i = true
      · have hp2 := hsub.mp hp
        have hle : i + y.length ≤ x.length := by
          have := (pre_iff _ _).mp hp2
          have hl := congrArg List.length this
          rw [List.length_take, List.length_drop, hyl] at hl
          have : (toL x).length = x.length := by show x.cps.toList.length = x.length; rw [Array.length_toList]; rfl
          omega
        unfold occBody
        rw [if_pos ⟨⟨⟨by omega, hf⟩, hle⟩, hp⟩]
        have ih := occ_run x y hy d (i + 1) (st.1.push i, i + y.length) (by omega) (by simp; omega)
        show (forIn (List.range' (i + 1) (d + 1)) (st.1.push i, i + y.length) (occBody x y x.length (x.length + 1))).run.fst.toList = _
        rw [ih, hdrop]
        rw [hdrop] at hp2
        conv => rhs; unfold cutsL
        rw [if_pos hp2, hyl, Array.toList_push, show i + y.length - (i + 1) = y.length - 1 by omega, List.append_assoc]
        rfl
      · have hp2 : ¬ (toL y).isPrefixOf ((toL x).drop i) = true := fun h => hp (hsub.mpr h)
        unfold occBody
        rw [if_neg (fun h => hp h.2)]
        have ih := occ_run x y hy d (i + 1) st (by omega) (by omega)
        show (forIn (List.range' (i + 1) (d + 1)) (st.1, st.2) (occBody x y x.length (x.length + 1))).run.fst.toList = _
        rw [ih, hdrop]
        rw [hdrop] at hp2
        conv => rhs; unfold cutsL
        rw [if_neg hp2, show st.2 - (i + 1) = 0 by omega]

open StrLaws Builtin Builtin.Str in
theorem occ_cuts (x y : Str) (hy : 1 ≤ y.length) : occurrences x y 0 x.length (x.length + 1) = cutsL (toL y) 0 0 (toL x) := by
  rw [occ_eq, Nat.sub_zero]
  have := occ_run x y hy x.length 0 (#[], 0) (by omega) (by simp)
  simpa using this

open StrLaws Builtin Builtin.Str in
theorem parts_spl (x y : Str) (hy : 1 ≤ y.length) : ∀ (l : List Nat) (i k a : Nat), (toL x).drop i = l → (k = 0 ∧ a ≤ i ∨ a = i + k) → i ≤ x.length →
    (partsFrom x y.length a (cutsL (toL y) i k l)).map toL = preL (((toL x).drop a).take (i - a)) (splL (toL y) k l)
  | [], i, k, a, hl, hka, hin => by
    have hxl : (toL x).length = x.length := by show x.cps.toList.length = x.length; rw [Array.length_toList]; rfl
    have hi : x.length = i := by
      have := List.drop_eq_nil_iff.mp hl
      omega
    have hc : cutsL (toL y) i k [] = [] := by cases k <;> (unfold cutsL; rfl)
    have hs : splL (toL y) k [] = [[]] := by cases k <;> (unfold splL; rfl)
    rw [hc, hs]
    show [toL (strSub x a x.length)] = [(((toL x).drop a).take (i - a)) ++ []]
    rw [List.append_nil, show toL (strSub x a x.length) = _ from strSub_toList x a x.length, hi]
  | c :: t, i, k, a, hl, hka, hin => by
    have hxl : (toL x).length = x.length := by show x.cps.toList.length = x.length; rw [Array.length_toList]; rfl
    have hyl : (toL y).length = y.length := by show y.cps.toList.length = y.length; rw [Array.length_toList]; rfl
    have hlt : i < (toL x).length := by
      have := congrArg List.length hl
      rw [List.length_drop, List.length_cons] at this
      omega
    have hd := List.drop_eq_getElem_cons hlt
    rw [hl] at hd
    have hc : (toL x)[i] = c := (List.cons.inj hd).1.symm
    have ht : (toL x).drop (i + 1) = t := (List.cons.inj hd).2.symm
    cases k with
    | succ k =>
      have ih := parts_spl x y hy t (i + 1) k a ht (by omega) (by omega)
      have e1 : cutsL (toL y) i (k + 1) (c :: t) = cutsL (toL y) (i + 1) k t := by conv => lhs; unfold cutsL
      have e2 : splL (toL y) (k + 1) (c :: t) = splL (toL y) k t := by conv => lhs; unfold splL
      rw [e1, e2, ih, show i + 1 - a = 0 by omega, show i - a = 0 by omega]
    | zero =>
      have ha : a ≤ i := by omega
      by_cases hp : (toL y).isPrefixOf (c :: t) = true
      · have e1 : cutsL (toL y) i 0 (c :: t) = i :: cutsL (toL y) (i + 1) ((toL y).length - 1) t := by conv => lhs; unfold cutsL; rw [if_pos hp]
        have e2 : splL (toL y) 0 (c :: t) = [] :: splL (toL y) ((toL y).length - 1) t := by conv => lhs; unfold splL; rw [if_pos hp]
        rw [e1, e2]
        have ih := parts_spl x y hy t (i + 1) ((toL y).length - 1) (i + y.length) ht (.inr (by omega)) (by omega)
        show toL (strSub x a i) :: (partsFrom x y.length (i + y.length) _).map toL = (_ ++ []) :: _
        rw [ih, List.append_nil, show i + 1 - (i + y.length) = 0 by omega, show toL (strSub x a i) = _ from strSub_toList x a i]
        obtain ⟨h, r, e⟩ := splL_ne (toL y) t ((toL y).length - 1)
        rw [e]; rfl
      · have e1 : cutsL (toL y) i 0 (c :: t) = cutsL (toL y) (i + 1) 0 t := by conv => lhs; unfold cutsL; rw [if_neg hp]
        have ih := parts_spl x y hy t (i + 1) 0 a ht (by omega) (by omega)
        obtain ⟨h, r, e⟩ := splL_ne (toL y) t 0
        have e2 : splL (toL y) 0 (c :: t) = (c :: h) :: r := by conv => lhs; unfold splL; rw [if_neg hp, e]
        rw [e1, ih, e, e2]
        show ((_ ++ h) :: r) = ((_ ++ c :: h) :: r)
        have e3 : ((toL x).drop a).take (i + 1 - a) = ((toL x).drop a).take (i - a) ++ [c] := by
          rw [show i + 1 - a = (i - a) + 1 by omega, List.take_add_one, List.getElem?_drop, show a + (i - a) = i by omega, List.getElem?_eq_getElem hlt, hc]; rfl
        rw [e3, List.append_assoc]; rfl

theorem cuts_nil (p : List Nat) : ∀ (l : List Nat) (i : Nat), cutsL p i 0 l = [] → splL p 0 l = [l]
  | [], _, _ => by unfold splL; rfl
  | c :: t, i, h => by
    unfold cutsL at h
    unfold splL
    split at h
    · cases h
    · rename_i hp
      rw [if_neg hp, cuts_nil p t (i + 1) h]
theorem cuts_short (p : List Nat) : ∀ (l : List Nat) (i : Nat), l.length < p.length → cutsL p i 0 l = []
  | [], _, _ => by unfold cutsL; rfl
  | c :: t, i, h => by
    unfold cutsL
    have hp : ¬ p.isPrefixOf (c :: t) = true := fun hp => by
      have := congrArg List.length ((pre_iff _ _).mp hp)
      rw [List.length_take] at this
      omega
    rw [if_neg hp]
    exact cuts_short p t (i + 1) (by simp only [List.length_cons] at h; omega)

open StrLaws Builtin Builtin.Str in
theorem split_toL (x y : Str) (hy : 1 ≤ y.length) (hk : PySem.Builtin.Str.strKind y = 1) : (Txt.split x y).map toL = splL (toL y) 0 (toL x) := by
  have hxl : (toL x).length = x.length := by show x.cps.toList.length = x.length; rw [Array.length_toList]; rfl
  have hyl : (toL y).length = y.length := by show y.cps.toList.length = y.length; rw [Array.length_toList]; rfl
  have hkx : 1 ≤ PySem.Builtin.Str.strKind x := by unfold PySem.Builtin.Str.strKind; split <;> (try split) <;> omega
  unfold Txt.split
  split
  · rename_i h
    rw [Bool.or_eq_true, decide_eq_true_eq, decide_eq_true_eq] at h
    have hs : x.length < y.length := by omega
    rw [cuts_nil (toL y) (toL x) 0 (cuts_short _ _ 0 (by omega))]; rfl
  · split
    · rename_i h
      rw [occ_cuts x y hy, List.isEmpty_iff] at h
      rw [cuts_nil (toL y) (toL x) 0 h]; rfl
    · rw [partsBetween_eq, occ_cuts x y hy]
      have := parts_spl x y hy (toL x) 0 0 0 rfl (.inl ⟨rfl, Nat.le_refl _⟩) (Nat.zero_le _)
      rw [this]
      obtain ⟨h, r, e⟩ := splL_ne (toL y) (toL x) 0
      rw [e]; rfl

theorem join_toL (q : Str) : ∀ parts : List Str, toL (Txt.join q parts) = joinL (toL q) (parts.map toL) := by
  intro parts
  show toL (Builtin.Str.glued q parts) = _
  rw [StrLaws.glued_eq_join]
  induction parts with
  | nil => rfl
  | cons x r ih =>
    cases r with
    | nil => rfl
    | cons y r =>
      show toL (x ++ q ++ Str.join q (y :: r)) = toL x ++ toL q ++ joinL (toL q) (toL y :: r.map toL)
      have e : toL (x ++ q ++ Str.join q (y :: r)) = toL x ++ toL q ++ toL (Str.join q (y :: r)) := by
        show ((x.cps ++ q.cps) ++ (Str.join q (y :: r)).cps).toList = _
        simp
      rw [e, ih]; rfl

theorem repl_toL (x p q : Str) (hp : 1 ≤ p.length) (hk : PySem.Builtin.Str.strKind p = 1) : toL (Txt.join q (Txt.split x p)) = repL (toL p) (toL q) 0 (toL x) := by
  rw [join_toL, split_toL x p hp hk, repL_join]

theorem str_ext {a b : Str} (h : toL a = toL b) : a = b := Str.ext' (Array.toList_inj.mp h)
theorem toL_append (a b : Str) : toL (a ++ b) = toL a ++ toL b := by show (a.cps ++ b.cps).toList = _; simp
theorem toL_length (a : Str) : (toL a).length = a.length := by show a.cps.toList.length = a.length; rw [Array.length_toList]; rfl
end Mine
end PPT

section PPW2
set_option maxRecDepth 10000
namespace Mine
/-! words of r = 114 and u = 117; sizes -/
def outL (W : Int) : Int → List Int → List Nat
  | last, [] => List.replicate (W - last).toNat 114
  | last, n :: t => List.replicate (n - last).toNat 114 ++ 117 :: outL W n t
def Ch (W : Int) : Int → List Int → Prop
  | p, [] => p ≤ W
  | p, n :: t => p ≤ n ∧ Ch W n t
def clM : Int → List Int → List Int
  | _, [] => []
  | p, n :: t => (if p < n then n - 1 else n) :: clM n t
def flM (W : Int) : List Int → List Int
  | [] => []
  | n :: t => (if n < t.headD W then n + 1 else n) :: flM W t
inductive LeL : List Int → List Int → Prop
  | nil : LeL [] []
  | cons {a b x y} : a ≤ b → LeL x y → LeL (a :: x) (b :: y)

theorem rep_succ_toNat {a b : Int} (h : a < b) : ∃ j : Nat, (b - a).toNat = j + 1 ∧ (b - 1 - a).toNat = j := ⟨(b - 1 - a).toNat, by omega, rfl⟩

theorem Ch.le {W : Int} : ∀ {p : Int} {l : List Int}, Ch W p l → p ≤ W
  | _, [], h => h
  | _, _ :: _, h => Int.le_trans h.1 (Ch.le h.2)
theorem Ch.mono {W p q : Int} : ∀ {l : List Int}, Ch W p l → q ≤ p → Ch W q l
  | [], h, hq => Int.le_trans hq h
  | _ :: _, h, hq => ⟨Int.le_trans hq h.1, h.2⟩
theorem Ch.head {W : Int} : ∀ {p : Int} {l : List Int}, Ch W p l → p ≤ l.headD W
  | _, [], h => h
  | _, _ :: _, h => h.1
theorem Ch.up {W p q : Int} : ∀ {l : List Int}, Ch W p l → q ≤ l.headD W → Ch W q l
  | [], _, hq => hq
  | _ :: _, h, hq => ⟨hq, h.2⟩
theorem Ch.cl {W : Int} : ∀ {p : Int} {l : List Int}, Ch W p l → Ch W p (clM p l)
  | _, [], h => h
  | p, n :: t, h => by
    have ih := Ch.cl h.2
    show p ≤ (if p < n then n - 1 else n) ∧ Ch W (if p < n then n - 1 else n) (clM n t)
    split
    · exact ⟨by omega, ih.mono (by omega)⟩
    · exact ⟨h.1, ih⟩
theorem flM_head {W : Int} : ∀ {p : Int} {l : List Int}, Ch W p l → l.headD W ≤ (flM W l).headD W
  | _, [], _ => Int.le_refl _
  | _, n :: t, _ => by
    show n ≤ (if n < t.headD W then n + 1 else n)
    split <;> omega
theorem Ch.fl {W : Int} : ∀ {p : Int} {l : List Int}, Ch W p l → Ch W p (flM W l)
  | _, [], h => h
  | p, n :: t, h => by
    have ih := Ch.fl h.2
    have hh := h.2.head
    have h1 := flM_head h.2
    have h0 := h.1
    show p ≤ (if n < t.headD W then n + 1 else n) ∧ Ch W (if n < t.headD W then n + 1 else n) (flM W t)
    split
    · exact ⟨by omega, ih.up (by omega)⟩
    · exact ⟨by omega, ih⟩
theorem clM_length : ∀ (p : Int) (l : List Int), (clM p l).length = l.length
  | _, [] => rfl
  | _, n :: t => by show (clM n t).length + 1 = t.length + 1; rw [clM_length]
theorem flM_length (W : Int) : ∀ (l : List Int), (flM W l).length = l.length
  | [] => rfl
  | _ :: t => by show (flM W t).length + 1 = t.length + 1; rw [flM_length W t]

theorem LeL.refl : ∀ l : List Int, LeL l l
  | [] => .nil
  | _ :: t => .cons (Int.le_refl _) (LeL.refl t)
theorem LeL.trans {a b c : List Int} (h : LeL a b) : LeL b c → LeL a c := by
  induction h generalizing c with
  | nil => intro h; exact h
  | cons h1 _ ih =>
    intro h
    cases h with
    | cons h2 h3 => exact .cons (Int.le_trans h1 h2) (ih h3)
theorem LeL.antisymm {a b : List Int} (h : LeL a b) : LeL b a → a = b := by
  induction h with
  | nil => intro _; rfl
  | cons h1 _ ih =>
    intro h
    cases h with
    | cons h2 h3 => rw [ih h3, Int.le_antisymm h1 h2]

theorem adj {W : Int} : ∀ {l m : List Int} {p p' : Int}, Ch W p l → Ch W p' m → p ≤ m.headD W → (LeL (clM p l) m ↔ LeL l (flM W m))
  | [], [], _, _, _, _, _ => ⟨fun _ => .nil, fun _ => .nil⟩
  | [], _ :: _, _, _, _, _, _ => ⟨fun h => (nomatch h), fun h => (nomatch h)⟩
  | _ :: _, [], _, _, _, _, _ => ⟨fun h => (nomatch h), fun h => (nomatch h)⟩
  | n :: t, m :: s, p, p', hl, hm, hp => by
    have hpm : p ≤ m := hp
    have hms : m ≤ s.headD W := hm.2.head
    have hpn : p ≤ n := hl.1
    show LeL ((if p < n then n - 1 else n) :: clM n t) (m :: s) ↔ LeL (n :: t) ((if m < s.headD W then m + 1 else m) :: flM W s)
    constructor
    · intro h
      cases h with
      | cons h1 h2 =>
        have hns : n ≤ s.headD W := by
          cases t with
          | nil => cases h2; exact hl.2
          | cons n2 t2 =>
            cases h2 with
            | cons h3 _ =>
              have := hl.2.1
              show n ≤ _
              split at h3 <;> (simp only [List.headD_cons]; omega)
        refine .cons ?_ ((adj hl.2 hm.2 hns).mp h2)
        split at h1 <;> split <;> omega
    · intro h
      cases h with
      | cons h1 h2 =>
        have hns : n ≤ s.headD W := by split at h1 <;> omega
        refine .cons ?_ ((adj hl.2 hm.2 hns).mpr h2)
        split at h1 <;> split <;> omega

/-- on the lists of one shape the two are adjoint; so the middle falls out -/
def clI : Nat → List Int → List Int
  | 0, l => l
  | i + 1, l => clM 0 (clI i l)
def flI (W : Int) : Nat → List Int → List Int
  | 0, l => l
  | i + 1, l => flI W i (flM W l)
theorem clI_ch {W : Int} {l : List Int} (h : Ch W 0 l) : ∀ i, Ch W 0 (clI i l)
  | 0 => h
  | i + 1 => (clI_ch h i).cl
theorem flI_ch {W : Int} : ∀ (i : Nat) {l : List Int}, Ch W 0 l → Ch W 0 (flI W i l)
  | 0, _, h => h
  | i + 1, _, h => flI_ch i h.fl
theorem adjI {W : Int} : ∀ (i : Nat) {l m : List Int}, Ch W 0 l → Ch W 0 m → (LeL (clI i l) m ↔ LeL l (flI W i m))
  | 0, _, _, _, _ => Iff.rfl
  | i + 1, l, m, hl, hm => (adj (clI_ch hl i) hm hm.head).trans (adjI i hl hm.fl)
theorem galois {W : Int} {l : List Int} (hl : Ch W 0 l) (i : Nat) : clI i (flI W i (clI i l)) = clI i l := by
  have hc := clI_ch hl i
  have hf := flI_ch i hc
  have unit : LeL l (flI W i (clI i l)) := (adjI i hl hc).mp (LeL.refl _)
  have hcf := clI_ch hf i
  refine LeL.antisymm ((adjI i hf hc).mpr (LeL.refl _)) ?_
  exact (adjI i hl hcf).mpr (unit.trans ((adjI i hf hcf).mp (LeL.refl _)))

theorem pfx2 (a b c : Nat) (t : List Nat) : [a, b].isPrefixOf (c :: t) = (a == c && (match t with | [] => false | d :: _ => b == d)) := by
  cases t with
  | nil => simp [List.isPrefixOf]
  | cons d t => simp [List.isPrefixOf]

theorem P_u (q t : List Nat) : repL [114, 117] q 0 (117 :: t) = 117 :: repL [114, 117] q 0 t := by
  conv => lhs; unfold repL
  rw [pfx2]; rfl
theorem P_ru (q t : List Nat) : ∀ j : Nat, repL [114, 117] q 0 (List.replicate (j + 1) 114 ++ 117 :: t) = List.replicate j 114 ++ q ++ repL [114, 117] q 0 t
  | 0 => by
    show repL [114, 117] q 0 (114 :: 117 :: t) = [] ++ q ++ _
    conv => lhs; unfold repL
    rw [pfx2]
    show q ++ repL [114, 117] q 1 (117 :: t) = _
    conv => lhs; rhs; unfold repL
    rfl
  | j + 1 => by
    show repL [114, 117] q 0 (114 :: (114 :: (List.replicate j 114 ++ 117 :: t))) = _
    conv => lhs; unfold repL
    rw [pfx2]
    show 114 :: repL [114, 117] q 0 (List.replicate (j + 1) 114 ++ 117 :: t) = _
    rw [P_ru q t j]; rfl
theorem P_r (q : List Nat) : ∀ j : Nat, repL [114, 117] q 0 (List.replicate j 114) = List.replicate j 114
  | 0 => by unfold repL; rfl
  | 1 => by
    show repL [114, 117] q 0 [114] = [114]
    unfold repL; rw [pfx2]; show 114 :: repL [114, 117] q 0 [] = _; unfold repL; rfl
  | j + 2 => by
    show repL [114, 117] q 0 (114 :: 114 :: List.replicate j 114) = _
    conv => lhs; unfold repL
    rw [pfx2]
    show 114 :: repL [114, 117] q 0 (List.replicate (j + 1) 114) = _
    rw [P_r q (j + 1)]; rfl

theorem P_out {W : Int} : ∀ {l : List Int} {last : Int}, Ch W last l →
    repL [114, 117] [117, 114] 0 (outL W last l) = outL W last (clM last l) ∧ 114 :: repL [114, 117] [117, 114] 0 (outL W last l) = outL W (last - 1) (clM last l)
  | [], last, h => by
    have hW : last ≤ W := h
    show repL [114, 117] [117, 114] 0 (List.replicate (W - last).toNat 114) = List.replicate (W - last).toNat 114 ∧ 114 :: repL [114, 117] [117, 114] 0 (List.replicate (W - last).toNat 114) = List.replicate (W - (last - 1)).toNat 114
    rw [P_r]
    refine ⟨rfl, ?_⟩
    rw [show (W - (last - 1)).toNat = (W - last).toNat + 1 by omega]; rfl
  | n :: t, last, h => by
    obtain ⟨c1, c2⟩ := P_out h.2
    have h0 := h.1
    by_cases hlt : last < n
    · obtain ⟨j, hj, hj2⟩ := rep_succ_toNat hlt
      have e : repL [114, 117] [117, 114] 0 (outL W last (n :: t)) = List.replicate j 114 ++ 117 :: outL W (n - 1) (clM n t) := by
        show repL [114, 117] [117, 114] 0 (List.replicate (n - last).toNat 114 ++ 117 :: outL W n t) = _
        rw [hj, P_ru, ← c2]
        simp
      have e2 : clM last (n :: t) = (n - 1) :: clM n t := by show (if last < n then n - 1 else n) :: clM n t = _; rw [if_pos hlt]
      rw [e, e2]
      constructor
      · show _ = List.replicate (n - 1 - last).toNat 114 ++ 117 :: outL W (n - 1) (clM n t)
        rw [hj2]
      · show _ = List.replicate (n - 1 - (last - 1)).toNat 114 ++ 117 :: outL W (n - 1) (clM n t)
        rw [show (n - 1 - (last - 1)).toNat = j + 1 by omega]; rfl
    · have hn : n = last := by omega
      subst hn
      have e : repL [114, 117] [117, 114] 0 (outL W n (n :: t)) = 117 :: outL W n (clM n t) := by
        show repL [114, 117] [117, 114] 0 (List.replicate (n - n).toNat 114 ++ 117 :: outL W n t) = _
        rw [show (n - n).toNat = 0 by omega]
        show repL [114, 117] [117, 114] 0 (117 :: outL W n t) = _
        rw [P_u, c1]
      have e2 : clM n (n :: t) = n :: clM n t := by show (if n < n then n - 1 else n) :: clM n t = _; rw [if_neg hlt]
      rw [e, e2]
      constructor
      · show _ = List.replicate (n - n).toNat 114 ++ 117 :: outL W n (clM n t)
        rw [show (n - n).toNat = 0 by omega]; rfl
      · show _ = List.replicate (n - (n - 1)).toNat 114 ++ 117 :: outL W n (clM n t)
        rw [show (n - (n - 1)).toNat = 1 by omega]; rfl

theorem Q_r (q t : List Nat) : ∀ j : Nat, repL [117, 114] q 0 (List.replicate j 114 ++ t) = List.replicate j 114 ++ repL [117, 114] q 0 t
  | 0 => rfl
  | j + 1 => by
    show repL [117, 114] q 0 (114 :: (List.replicate j 114 ++ t)) = _
    conv => lhs; unfold repL
    rw [pfx2]
    show 114 :: repL [117, 114] q 0 (List.replicate j 114 ++ t) = _
    rw [Q_r q t j]; rfl
theorem Q_ur (q t : List Nat) : repL [117, 114] q 0 (117 :: 114 :: t) = q ++ repL [117, 114] q 0 t := by
  conv => lhs; unfold repL
  rw [pfx2]
  show q ++ repL [117, 114] q 1 (114 :: t) = _
  conv => lhs; rhs; unfold repL
theorem Q_uu (q t : List Nat) : repL [117, 114] q 0 (117 :: 117 :: t) = 117 :: repL [117, 114] q 0 (117 :: t) := by
  conv => lhs; unfold repL
  rw [pfx2]; rfl
theorem Q_end (q : List Nat) : repL [117, 114] q 0 [117] = [117] := by
  unfold repL; rw [pfx2]; show 117 :: repL [117, 114] q 0 [] = _; unfold repL; rfl
theorem out_step {W : Int} : ∀ {l : List Int} {last : Int}, last < l.headD W → outL W last l = 114 :: outL W (last + 1) l
  | [], last, h => by
    have hW : last < W := h
    show List.replicate (W - last).toNat 114 = 114 :: List.replicate (W - (last + 1)).toNat 114
    rw [show (W - last).toNat = (W - (last + 1)).toNat + 1 by omega]; rfl
  | n :: t, last, h => by
    have hn : last < n := h
    show List.replicate (n - last).toNat 114 ++ _ = 114 :: (List.replicate (n - (last + 1)).toNat 114 ++ _)
    rw [show (n - last).toNat = (n - (last + 1)).toNat + 1 by omega]; rfl
theorem Q_out {W : Int} : ∀ {l : List Int} {last : Int}, Ch W last l → repL [117, 114] [114, 117] 0 (outL W last l) = outL W last (flM W l)
  | [], last, h => by
    show repL [117, 114] [114, 117] 0 (List.replicate (W - last).toNat 114) = List.replicate (W - last).toNat 114
    have := Q_r [114, 117] [] (W - last).toNat
    rw [List.append_nil] at this
    rw [this]
    unfold repL; simp
  | n :: t, last, h => by
    have h0 := h.1
    have hh := h.2.head
    show repL [117, 114] [114, 117] 0 (List.replicate (n - last).toNat 114 ++ 117 :: outL W n t) = _
    rw [Q_r]
    by_cases hlt : n < t.headD W
    · have ih := Q_out (h.2.up (q := n + 1) (by omega))
      rw [out_step hlt, Q_ur, ih]
      have e2 : flM W (n :: t) = (n + 1) :: flM W t := by show (if n < t.headD W then n + 1 else n) :: flM W t = _; rw [if_pos hlt]
      rw [e2]
      show _ = List.replicate (n + 1 - last).toNat 114 ++ 117 :: outL W (n + 1) (flM W t)
      rw [show (n + 1 - last).toNat = (n - last).toNat + 1 by omega, List.replicate_succ', List.append_assoc]
      rfl
    · have ih := Q_out h.2
      have e2 : flM W (n :: t) = n :: flM W t := by show (if n < t.headD W then n + 1 else n) :: flM W t = _; rw [if_neg hlt]
      rw [e2]
      show _ = List.replicate (n - last).toNat 114 ++ 117 :: outL W n (flM W t)
      congr 1
      cases t with
      | nil =>
        have hW : ¬ n < W := hlt
        show repL [117, 114] [114, 117] 0 (117 :: List.replicate (W - n).toNat 114) = 117 :: List.replicate (W - n).toNat 114
        rw [show (W - n).toNat = 0 by omega]
        exact Q_end _
      | cons n2 t2 =>
        have hn2 : ¬ n < n2 := hlt
        have hn3 : n ≤ n2 := h.2.1
        obtain rfl : n2 = n := by omega
        have e3 : outL W n2 (n2 :: t2) = 117 :: outL W n2 t2 := by
          show List.replicate (n2 - n2).toNat 114 ++ _ = _
          rw [show (n2 - n2).toNat = 0 by omega]; rfl
        rw [← ih, e3, Q_uu]
end Mine
end PPW2

section PPW2b
set_option maxRecDepth 10000
namespace Mine
theorem rep1 (a b : Nat) : ∀ l : List Nat, repL [a] [b] 0 l = l.map (fun c => if c = a then b else c)
  | [] => by unfold repL; rfl
  | c :: t => by
    conv => lhs; unfold repL
    have hp : [a].isPrefixOf (c :: t) = (a == c) := by simp [List.isPrefixOf]
    rw [hp]
    by_cases h : c = a
    · subst h
      rw [if_pos (by simp)]
      show [b] ++ repL [c] [b] 0 t = (if c = c then b else c) :: _
      rw [rep1 c b t, if_pos rfl]; rfl
    · rw [if_neg (by simpa using fun e => h e.symm)]
      show c :: repL [a] [b] 0 t = (if c = a then b else c) :: _
      rw [rep1 a b t, if_neg h]

def swp (c : Nat) : Nat := if c = 114 then 117 else 114
/-- the sizes of a word -/
def szs : Int → List Nat → List Int
  | _, [] => []
  | c, 114 :: t => szs (c + 1) t
  | c, _ :: t => c :: szs c t
def nr (l : List Nat) : Int := (l.countP (· == 114) : Nat)
def Two (l : List Nat) : Prop := ∀ c ∈ l, c = 114 ∨ c = 117

theorem szs_r (c : Int) (t : List Nat) : szs c (114 :: t) = szs (c + 1) t := rfl
theorem szs_u (c : Int) (t : List Nat) : szs c (117 :: t) = c :: szs c t := rfl
theorem nr_r (t : List Nat) : nr (114 :: t) = nr t + 1 := by unfold nr; rw [List.countP_cons_of_pos (by rfl)]; omega
theorem nr_u (t : List Nat) : nr (117 :: t) = nr t := by unfold nr; rw [List.countP_cons_of_neg (by decide)]
theorem nr_nonneg (t : List Nat) : 0 ≤ nr t := by unfold nr; omega
theorem szs_head : ∀ (w : List Nat) (c : Int), Two w → c ≤ (szs c w).headD (c + nr w)
  | [], c, _ => by show c ≤ c + nr []; have := nr_nonneg []; omega
  | x :: t, c, h => by
    rcases h x List.mem_cons_self with rfl | rfl
    · have := szs_head t (c + 1) fun y hy => h y (List.mem_cons_of_mem _ hy)
      rw [szs_r, nr_r]
      rw [show c + (nr t + 1) = c + 1 + nr t by omega]; omega
    · rw [szs_u]; exact Int.le_refl c
theorem out_szs : ∀ (w : List Nat) (c : Int), Two w → outL (c + nr w) c (szs c w) = w
  | [], c, _ => by
    show List.replicate (c + nr [] - c).toNat 114 = []
    have : nr [] = 0 := rfl
    rw [this, show (c + 0 - c).toNat = 0 by omega]; rfl
  | x :: t, c, h => by
    have ht : Two t := fun y hy => h y (List.mem_cons_of_mem _ hy)
    rcases h x List.mem_cons_self with rfl | rfl
    · rw [szs_r, nr_r, show c + (nr t + 1) = c + 1 + nr t by omega]
      have hh := szs_head t (c + 1) ht
      rw [out_step (by omega), out_szs t (c + 1) ht]
    · rw [szs_u, nr_u]
      show List.replicate (c - c).toNat 114 ++ 117 :: outL (c + nr t) c (szs c t) = _
      rw [show (c - c).toNat = 0 by omega, out_szs t c ht]; rfl
theorem szs_append : ∀ (a b : List Nat) (c : Int), Two a → szs c (a ++ b) = szs c a ++ szs (c + nr a) b
  | [], b, c, _ => by show szs c b = szs (c + nr []) b; have : nr [] = 0 := rfl; rw [this, Int.add_zero]
  | x :: t, b, c, h => by
    have ht : Two t := fun y hy => h y (List.mem_cons_of_mem _ hy)
    rcases h x List.mem_cons_self with rfl | rfl
    · show szs c (114 :: (t ++ b)) = _
      rw [szs_r, szs_r, nr_r, szs_append t b _ ht, show c + (nr t + 1) = c + 1 + nr t by omega]
    · show szs c (117 :: (t ++ b)) = _
      rw [szs_u, szs_u, nr_u, szs_append t b _ ht]; rfl
theorem szs_rep_u (c : Int) : ∀ j : Nat, szs c (List.replicate j 117) = List.replicate j c
  | 0 => rfl
  | j + 1 => by show szs c (117 :: List.replicate j 117) = _; rw [szs_u, szs_rep_u c j]; rfl
theorem nr_append (a b : List Nat) : nr (a ++ b) = nr a + nr b := by unfold nr; rw [List.countP_append]; omega
theorem nr_rep_u (j : Nat) : nr (List.replicate j 117) = 0 := by
  induction j with
  | zero => rfl
  | succ j ih => show nr (117 :: List.replicate j 117) = 0; rw [nr_u, ih]

/-- the mirrored word -/
def mir (w : List Nat) : List Nat := (w.map swp).reverse
theorem mir_two (w : List Nat) : Two (mir w) := by
  intro c hc
  unfold mir at hc
  rw [List.mem_reverse, List.mem_map] at hc
  obtain ⟨x, _, rfl⟩ := hc
  unfold swp; split
  · exact .inr rfl
  · exact .inl rfl
theorem mir_out (W last n : Int) (t : List Int) : mir (outL W last (n :: t)) = mir (outL W n t) ++ 114 :: List.replicate (n - last).toNat 117 := by
  show ((List.replicate (n - last).toNat 114 ++ 117 :: outL W n t).map swp).reverse = _
  rw [List.map_append, List.map_cons, List.map_replicate, List.reverse_append, List.reverse_cons, List.reverse_replicate]
  show ((outL W n t).map swp).reverse ++ [swp 117] ++ List.replicate _ (swp 114) = _
  rw [List.append_assoc]; rfl
theorem mir_nil (W last : Int) : mir (outL W last []) = List.replicate (W - last).toNat 117 := by
  show ((List.replicate (W - last).toNat 114).map swp).reverse = _
  rw [List.map_replicate, List.reverse_replicate]; rfl
theorem nr_mir (W : Int) : ∀ (l : List Int) (last : Int), nr (mir (outL W last l)) = (l.length : Int)
  | [], last => by rw [mir_nil, nr_rep_u]; rfl
  | n :: t, last => by
    rw [mir_out, nr_append, nr_r, nr_rep_u, nr_mir W t n]
    simp only [List.length_cons]; omega

def colF (W last : Int) (l : List Int) : List Int := (List.range (W - last).toNat).map fun (i : Nat) => ((l.countP (fun y => decide (W - i ≤ y)) : Nat) : Int)
theorem ch_all {W : Int} : ∀ {l : List Int} {p : Int}, Ch W p l → ∀ x ∈ l, p ≤ x ∧ x ≤ W
  | [], _, _, _, h => by simp at h
  | n :: t, p, hc, x, hx => by
    have h0 := hc.1
    have h1 := hc.2.le
    rcases List.mem_cons.mp hx with rfl | hx
    · exact ⟨h0, h1⟩
    · have := ch_all hc.2 x hx; omega
theorem szs_mir {W : Int} : ∀ {l : List Int} {last : Int}, Ch W last l → szs 0 (mir (outL W last l)) = colF W last l
  | [], last, _ => by
    rw [mir_nil, szs_rep_u]
    unfold colF
    simp only [List.countP_nil]
    rw [List.map_const']; simp
  | n :: t, last, h => by
    have h0 := h.1
    have h1 := h.2.le
    rw [mir_out, szs_append _ _ _ (mir_two _), szs_mir h.2, szs_r, szs_rep_u, nr_mir]
    unfold colF
    rw [show (W - last).toNat = (W - n).toNat + (n - last).toNat by omega, List.range_add, List.map_append, List.map_map]
    congr 1
    · refine List.map_congr_left fun i hi => ?_
      have hi' : i < (W - n).toNat := List.mem_range.mp hi
      rw [List.countP_cons_of_neg (by simp; omega)]
    · refine List.ext_getElem (by simp) fun k hk1 hk2 => ?_
      simp only [List.getElem_replicate, List.getElem_map, List.getElem_range, Function.comp_apply]
      have hk : k < (n - last).toNat := by simpa using hk1
      have hall : (n :: t).countP (fun y => decide (W - (((W - n).toNat + k : Nat) : Int) ≤ y)) = (n :: t).length := List.countP_eq_length.mpr fun y hy => by
        have hy2 : n ≤ y := by
          rcases List.mem_cons.mp hy with rfl | hy
          · exact Int.le_refl _
          · exact (ch_all h.2 y hy).1
        simp only [decide_eq_true_eq]; omega
      rw [hall]; simp only [List.length_cons]; omega

theorem mir_law {W : Int} {l : List Int} (h : Ch W 0 l) : mir (outL W 0 l) = outL (l.length : Int) 0 (colF W 0 l) := by
  have := out_szs (mir (outL W 0 l)) 0 (mir_two _)
  rw [szs_mir h, nr_mir, Int.zero_add] at this
  exact this.symm
end Mine
end PPW2b

section PGB
open PySem PySem.W PyProof.Rows PySem.Calls
set_option maxRecDepth 100000
set_option maxHeartbeats 4000000
namespace Mine
section
variable {prog : Program} {w : World} {A : Around} {E : Value → Shared → Prop} {s : Shared} {h₀ : Heap} {L : Addr} {m : Str → Option Value} {news : List (Addr × Obj)}

theorem enter {K : Frag} {p : Program} {loose : List Str} {f : Addr} {Q E : Value → Shared → Prop} {mean : ExcName → Option Value} {mg mb : Str → Option Value}
   {name qual : Str} {params : Arguments} {body : List Stmt} {scope : Scope} {dV kV doc pm cdv ct oc : Value} {an od : Option Addr} {osl : Array (Option Value)}
   {args : List Value} {kw : List (Str × Value)} {binds : List (Str × Value)}
   (X : K.In s.heap) (T : Top p loose mean mg mb s.heap)
   (hroom : A.depth < recursionLimit)
   (ho : K.lookup f = some ⟨oc, od, .func (fnOf name qual params body scope dV kV doc pm an cdv ct), osl⟩) (hcd : codeIn K cdv qual = true)
   (hbind : BindsTo s (fnOf name qual params body scope dV kV doc pm an cdv ct) ⟨args, kw⟩ binds) (hloc : ∀ y ∈ binds, scope.names.lookup y.1 = some .local)
   (hcell : ∀ x ∈ scope.names, x.2 ≠ .cell)
   (h : ∀ L h₁, Fr s.heap L h₁ (fun y => binds.reverse.lookup y) → News s.heap L h₁ [] → L = s.heap.objs.size →
      wpAny (model prog w) (A.deeper (envOf qual scope L f cdv)) (execs body (envOf qual scope L f cdv))
        (fun fl s' => Q (match fl with | .ret v => v | _ => .none) s') (fun _ _ => False)
        { s with heap := h₁, toks := s.toks + binds.length })
   (hco : scope.isCoroutine = false) (hgen : scope.isGenerator = false) (hk : scope.kind = .function) :
   wpAny (model prog w) A (call (.ref f) args kw) Q E s := by
  refine wpAny_call (codeAny_call_def (fd := fnOf name qual params body scope dV kV doc pm an cdv ct) (body := body) (binds := binds) hroom (X _ _ ho) rfl T.nolimit (codeRec_of X hcd) rfl hbind hcell hloc (fun h₁ hns hk₁ => ?_) hco hgen hk)
  exact wpAny_mono (h s.heap.objs.size h₁ ⟨hns, hk₁, Nat.le_refl _⟩ News.nil rfl) (fun fl s' hl => hl) fun _ _ y => y.elim

/-- entering a def that writes into one list of its caller's -/
theorem enterM {K : Frag} {p : Program} {loose : List Str} {f : Addr} {Q E : Value → Shared → Prop} {mean : ExcName → Option Value} {mg mb : Str → Option Value} {b₀ : Heap} {a : Addr} {oa : Obj}
   {name qual : Str} {params : Arguments} {body : List Stmt} {scope : Scope} {dV kV doc pm cdv ct oc : Value} {an od : Option Addr} {osl : Array (Option Value)}
   {args : List Value} {kw : List (Str × Value)} {binds : List (Str × Value)}
   (X : K.In b₀) (T : Top p loose mean mg mb b₀) (hb : ∀ b o, b₀.get? b = some o → s.heap.get? b = some o) (ha₀ : b₀.get? a = none) (ha : s.heap.get? a = some oa)
   (hroom : A.depth < recursionLimit)
   (ho : K.lookup f = some ⟨oc, od, .func (fnOf name qual params body scope dV kV doc pm an cdv ct), osl⟩) (hcd : codeIn K cdv qual = true)
   (hbind : BindsTo s (fnOf name qual params body scope dV kV doc pm an cdv ct) ⟨args, kw⟩ binds) (hloc : ∀ y ∈ binds, scope.names.lookup y.1 = some .local)
   (hcell : ∀ x ∈ scope.names, x.2 ≠ .cell)
   (h : ∀ g L h₁, K.In g → Top p loose mean mg mb g → (∀ b o, b ≠ a → s.heap.get? b = some o → g.get? b = some o) → a < L → Fr g L h₁ (fun y => binds.reverse.lookup y) → News g L h₁ [(a, oa)] →
      wpAny (model prog w) (A.deeper (envOf qual scope L f cdv)) (execs body (envOf qual scope L f cdv))
        (fun fl s' => Q (match fl with | .ret v => v | _ => .none) s') (fun _ _ => False)
        { s with heap := h₁, toks := s.toks + binds.length })
   (hco : scope.isCoroutine = false) (hgen : scope.isGenerator = false) (hk : scope.kind = .function) :
   wpAny (model prog w) A (call (.ref f) args kw) Q E s := by
  refine wpAny_call (codeAny_call_def (fd := fnOf name qual params body scope dV kV doc pm an cdv ct) (body := body) (binds := binds) hroom (hb _ _ (X _ _ ho)) rfl (T.nolimit.keeps hb) (codeRec_of (X.keeps hb) hcd) rfl hbind hcell hloc (fun h₁ hns hk₁ => ?_) hco hgen hk)
  have kg : ∀ b o, b ≠ a → s.heap.get? b = some o → (hideAll s.heap [a]).get? b = some o := fun b o hb e => hideAll_get [a] e (by simpa using hb)
  have kb : ∀ b o, b₀.get? b = some o → (hideAll s.heap [a]).get? b = some o := fun b o e => kg b o (by rintro rfl; rw [ha₀] at e; cases e) (hb b o e)
  refine wpAny_mono (h (hideAll s.heap [a]) s.heap.objs.size h₁ (X.keeps kb) (T.keeps kb) kg (Heap.lt_size ha) ⟨hns, fun b o e => hk₁ b o (of_hideAll _ e), Nat.le_of_eq (hideAll_size _ _)⟩ ?_) (fun fl s' hl => hl) fun _ _ y => y.elim
  intro q hq
  rw [List.mem_singleton.mp hq]
  exact ⟨hk₁ _ _ ha, Nat.ne_of_lt (Heap.lt_size ha), hideAll_none _ (List.mem_singleton.mpr rfl)⟩

theorem enterV {K : Frag} {p : Program} {loose : List Str} {f : Addr} {Q E : Value → Shared → Prop} {mean : ExcName → Option Value} {mg mb : Str → Option Value}
   {name qual : Str} {params : Arguments} {body : List Stmt} {scope : Scope} {dV kV doc pm cdv ct oc : Value} {an od : Option Addr} {osl : Array (Option Value)}
   {args vs : List Value} {front : List (Str × Value)} {va : Str}
   (X : K.In s.heap) (T : Top p loose mean mg mb s.heap)
   (hroom : A.depth < recursionLimit)
   (ho : K.lookup f = some ⟨oc, od, .func (fnOf name qual params body scope dV kV doc pm an cdv ct), osl⟩) (hcd : codeIn K cdv qual = true)
   (hbind : bindArgs (fnOf name qual params body scope dV kV doc pm an cdv ct) ⟨args, []⟩ = (newTuple vs >>= fun t => pure (front ++ [(va, t)]))) (hsz : vs.length ≤ sizeLine)
   (hloc : ∀ t, ∀ y ∈ front ++ [(va, t)], scope.names.lookup y.1 = some .local)
   (hcell : ∀ x ∈ scope.names, x.2 ≠ .cell)
   (h : ∀ P L h₁, Fr s.heap L h₁ (fun y => (front ++ [(va, Value.ref P)]).reverse.lookup y) → News s.heap L h₁ [(P, { cls := .type "tuple", data := .seq vs.toArray })] →
      wpAny (model prog w) (A.deeper (envOf qual scope L f cdv)) (execs body (envOf qual scope L f cdv))
        (fun fl s' => Q (match fl with | .ret v => v | _ => .none) s') (fun _ _ => False)
        { s with heap := h₁, toks := s.toks + (front ++ [(va, Value.ref P)]).length })
   (hco : scope.isCoroutine = false) (hgen : scope.isGenerator = false) (hk : scope.kind = .function) :
   wpAny (model prog w) A (call (.ref f) args) Q E s := by
  refine wpAny_call (codeAny_call_function hroom (X _ _ ho) rfl hco hgen rfl (codeRec_of X hcd) ?_)
  rw [hbind]
  refine wpAny_bind (wpAny_newObj_type (wpAny_pure ?_) (by show vs.toArray.size ≤ sizeLine; rw [List.size_toArray]; exact hsz))
  have up : ∀ b o, s.heap.get? b = some o → (s.heap.push { cls := .type "tuple", data := .seq vs.toArray }).get? b = some o := fun b o e => Heap.get?_push_of_some _ e
  refine wpAny_newFunctionEnv hcell (hloc _) (fun h₁ hns hsb => ⟨(T.nolimit.keeps up).fresh _ hsb, codeAny_func ?_⟩) hk
  dsimp only at hns hsb
  have kp : ∀ b o, (s.heap.push { cls := .type "tuple", data := .seq vs.toArray }).get? b = some o → h₁.get? b = some o := fun b o e => hsb.extBut b o (Nat.ne_of_lt (Heap.lt_size e)) (Heap.get?_push_of_some _ e)
  refine wpAny_mono (h s.heap.objs.size _ h₁ ⟨hns, fun b o e => kp b o (up b o e), ?_⟩ ?_) (fun fl s' hl => hl) fun _ _ y => y.elim
  · rw [Heap.size_push]; exact Nat.le_succ _
  · intro q hq
    rw [List.mem_singleton.mp hq]
    refine ⟨kp _ _ (Heap.get?_push_size _ rfl), ?_, Heap.get?_none_of_le (Nat.le_refl _)⟩
    rw [Heap.size_push]
    exact Nat.ne_of_lt (Nat.lt_succ_self _)

/-- a turn's end of a while -/
def WEnd (h₀ : Heap) (L : Addr) (J : Nat → (Str → Option Value) → List (Addr × Obj) → Prop) (n : Nat) (s : Shared) (Q : Flow → Shared → Prop) (f : Flow) (s₃ : Shared) : Prop :=
  match f with
  | .next | .cont => ∃ n' h' tk m' news', n' < n ∧ s₃ = { s with heap := h', toks := tk } ∧ Fr h₀ L h' m' ∧ News h₀ L h' news' ∧ J n' m' news'
  | .brk => Q .next s₃
  | .ret v => Q (.ret v) s₃

theorem while_J {env : Env} {test : PySem.Expr} {body : List Stmt} {pos : Pos} {Q : Flow → Shared → Prop} (J : Nat → (Str → Option Value) → List (Addr × Obj) → Prop) {n : Nat}
    (F : Fr h₀ L s.heap m) (N : News h₀ L s.heap news) (hJ : J n m news)
    (turn : ∀ n h tk m news, J n m news → Fr h₀ L h m → News h₀ L h news →
      wpAny (model prog w) A (isTrue test env (eval test env)) (fun b s₂ =>
        if b = true then wpAny (model prog w) A (execs body env) (WEnd h₀ L J n s Q) (fun _ _ => False) s₂ else Q .next s₂) (fun _ _ => False) { s with heap := h, toks := tk }) :
    wpAny (model prog w) A (exec (.While test body [] pos) env) Q E s := by
  refine wpAny_mono (While_inv2 (E := fun _ _ => False) (Q := Q) J F N hJ (fun n m₁ news₁ h₁ tk₁ F₁ N₁ J₁ => ?_) ?_) (fun _ _ x => x) fun _ _ x => x.elim
  · refine wpAny_mono (turn n h₁ tk₁ m₁ news₁ J₁ F₁ N₁) (fun b s₂ hb => ?_) fun _ _ e => e
    cases b with
    | false => exact hb
    | true =>
      refine wpAny_mono hb (fun f s₃ hf => ?_) fun _ _ e => e
      cases f with
      | next => obtain ⟨n', h', tk, m', news', a, b, c, d, e⟩ := hf; exact ⟨h', tk, m', news', n', b, c, d, a, e⟩
      | cont => obtain ⟨n', h', tk, m', news', a, b, c, d, e⟩ := hf; exact ⟨h', tk, m', news', n', b, c, d, a, e⟩
      | brk => exact hf
      | ret v => exact hf
  · intro e s' x; exact x.elim


/-- a turn's end of a for -/
def FEnd (h₀ : Heap) (L : Addr) (J : Nat → (Str → Option Value) → List (Addr × Obj) → Prop) (i : Nat) (I : Addr) (oI : Obj) (s : Shared) (Q : Flow → Shared → Prop) (f : Flow) (s₃ : Shared) : Prop :=
  match f with
  | .next | .cont => ∃ h' tk m' news', s₃ = { s with heap := h', toks := tk } ∧ Fr h₀ L h' m' ∧ News h₀ L h' ((I, oI) :: news') ∧ (∀ p ∈ news', p.1 ≠ I) ∧ J i m' news'
  | .brk => Q .next s₃
  | .ret v => Q (.ret v) s₃

theorem for_walk {env : Env} {target : PySem.Expr} {body : List Stmt} {Q : Flow → Shared → Prop} {R : Result → Shared → Prop} {I : Addr} {fp : List Addr} {n : Nat} {P : Nat → Value → Prop} {St : Nat → Heap → Prop} {S : List (Addr × Obj) → Prop}
    (W : Walks prog w A I fp [I] n P St) (hIo : ∀ i h, St i h → ∃ o, h.get? I = some o)
    (hSt : ∀ i h h' o nw, St i h → h.get? I = some o → h'.get? I = some o → (∀ b o, h₀.get? b = some o → h'.get? b = some o) → News h₀ L h' nw → S nw → St i h')
    (J : Nat → (Str → Option Value) → List (Addr × Obj) → Prop) (hJS : ∀ i m news, J i m news → S news)
    (hlet : ∀ i (s : Shared) (v : Value) (Q : Unit → Shared → Prop) (E : Value → Shared → Prop), St i s.heap → Q () s → wpAny (model prog w) A (letOwnedTupleGo target (.ref I) v) Q E s)
    (F : Fr h₀ L s.heap m) (N : News h₀ L s.heap news) (hJ : J 0 m news) (hIL : L ≠ I) (hI₀ : h₀.get? I = none) (off : ∀ p ∈ news, p.1 ≠ I) (hst : St 0 s.heap)
    (turn : ∀ i v oI h tk m news, i < n → P i v → J i m news → Fr h₀ L h m → News h₀ L h ((I, oI) :: news) → (∀ p ∈ news, p.1 ≠ I) →
      wpAny (model prog w) A (assign target env v) (fun _ s₂ => wpAny (model prog w) A (execs body env) (FEnd h₀ L J (i + 1) I oI s Q) (fun _ _ => False) s₂) (fun _ _ => False) { s with heap := h, toks := tk })
    (done : ∀ h tk m news, J n m news → Fr h₀ L h m → News h₀ L h news → Q .next { s with heap := h, toks := tk })
    (hR : ∀ f s', Q f s' → R (.ok f) s') :
    codeAny (model prog w) A (.forLoop target (.ref I) body [] env) R s := by
  refine codeAny_forLoop_any (fun k s' => ∃ i h tk m news, k = n + 1 - i ∧ i ≤ n ∧ s' = { s with heap := h, toks := tk } ∧ Fr h₀ L h m ∧ News h₀ L h news ∧ (∀ p ∈ news, p.1 ≠ I) ∧ St i h ∧ J i m news) ?_ (n + 1) ⟨0, s.heap, s.toks, m, news, rfl, Nat.zero_le _, rfl, F, N, off, hst, hJ⟩
  rintro k s' ⟨i, h, tk, m, news, rfl, hi, rfl, F, N, off, hst, hJ⟩
  by_cases hlt : i < n
  · refine W.item i _ _ _ hlt hst fun v h₁ tk₁ hP hst₁ hk₁ => ?_
    obtain ⟨oI, hoI⟩ := hIo _ _ hst₁
    have F₁ : Fr h₀ L h₁ m := LCg.fr_but F hk₁ hIL hI₀
    have N₁ : News h₀ L h₁ ((I, oI) :: news) := fun p hp => by
      rcases List.mem_cons.mp hp with rfl | hp
      · exact ⟨hoI, Ne.symm hIL, hI₀⟩
      · exact LCg.news_but N hk₁ off p hp
    refine hlet (i + 1) _ v _ _ hst₁ ?_
    refine wpAny_mono (turn i v oI h₁ tk₁ m news hlt hP hJ F₁ N₁ off) (fun _ s₂ h₂ => ?_) fun _ _ e => e.elim
    refine wpAny_mono h₂ (fun f s₃ hf => ?_) fun _ _ e => e.elim
    have go : (∃ h' tk m' news', s₃ = { s with heap := h', toks := tk } ∧ Fr h₀ L h' m' ∧ News h₀ L h' ((I, oI) :: news') ∧ (∀ p ∈ news', p.1 ≠ I) ∧ J (i + 1) m' news') →
        ∃ k, k < n + 1 - i ∧ ∃ i h tk m news, k = n + 1 - i ∧ i ≤ n ∧ s₃ = { s with heap := h, toks := tk } ∧ Fr h₀ L h m ∧ News h₀ L h news ∧ (∀ p ∈ news, p.1 ≠ I) ∧ St i h ∧ J i m news := by
      rintro ⟨h', tk', m', news', rfl, F', N', off', hJ'⟩
      have N'' : News h₀ L h' news' := fun p hp => N' p (List.mem_cons_of_mem _ hp)
      exact ⟨n + 1 - (i + 1), by omega, i + 1, h', tk', m', news', rfl, hlt, rfl, F', N'', off', hSt _ _ _ _ _ hst₁ hoI (N' _ List.mem_cons_self).1 F'.keep N'' (hJS _ _ _ hJ'), hJ'⟩
    cases f with
    | next => exact go hf
    | cont => exact go hf
    | brk => exact hR _ _ hf
    | ret v => exact hR _ _ hf
  · obtain rfl : i = n := Nat.le_antisymm hi (Nat.not_lt.mp hlt)
    refine W.done _ _ _ hst fun h₁ tk₁ hk₁ => ?_
    exact wpAny_execs_nil (hR _ _ (done h₁ tk₁ m news hJ (LCg.fr_but F hk₁ hIL hI₀) (LCg.news_but N hk₁ off)))

theorem let_list {target : PySem.Expr} {I ax : Addr} {its : Array Value} : ∀ i (s : Shared) (v : Value) (Q : Unit → Shared → Prop) (E : Value → Shared → Prop), (s.heap.IsListIter I ax i ∧ s.heap.IsList ax its) → Q () s → wpAny (model prog w) A (letOwnedTupleGo target (.ref I) v) Q E s := by
  intro i s v Q E st h
  obtain ⟨o, ho, hc, hd⟩ := st.1
  have key : ∀ a : Addr, wpAny (model prog w) A (do
      let o ← load I
      match o.cls, o.data with
      | .type n, .fields vs =>
        if ["enumerate", "zip", "dict_itemiterator", "dict_reverseitemiterator", "odict_iterator", "itertools.zip_longest", "itertools.pairwise"].contains n && vs[0]? == some (rawInt a) then
          rule "for.unpacks-the-owned-tuple"
          updateField I 0 .none
      | _, _ => pure ()) Q E s := by
    intro a
    refine wpAny_bind (wpAny_load ho ?_)
    rw [hc, hd]
    exact wpAny_pure h
  cases target <;> first | exact wpAny_pure h | (cases v <;> first | exact wpAny_pure h | exact key _)

/-- for x in a list (target any) -/
theorem for_list {env : Env} {target : PySem.Expr} {body : List Stmt} {Q : Flow → Shared → Prop} {ax : Addr} {its : Array Value} (hh : A.handled = none)
    (J : Nat → (Str → Option Value) → List (Addr × Obj) → Prop) (hJS : ∀ i m news, J i m news → LCg.SrcAt h₀ ax its news)
    (F : Fr h₀ L s.heap m) (N : News h₀ L s.heap news) (hJ : J 0 m news)
    (turn : ∀ i v oI h tk m news, its[i]? = some v → J i m news → Fr h₀ L h m → News h₀ L h ((s.heap.objs.size, oI) :: news) → (∀ p ∈ news, p.1 ≠ s.heap.objs.size) →
      wpAny (model prog w) A (assign target env v) (fun _ s₂ => wpAny (model prog w) A (execs body env) (FEnd h₀ L J (i + 1) s.heap.objs.size oI s Q) (fun _ _ => False) s₂) (fun _ _ => False) { s with heap := h, toks := tk })
    (done : ∀ h tk m news, J its.size m news → Fr h₀ L h m → News h₀ L h news → Q .next { s with heap := h, toks := tk }) :
    wpAny (model prog w) A (pyIter (.ref ax)) (fun it s₂ => codeAny (model prog w) A (.forLoop target it body [] env) (fun r s' => match r with | .ok f => Q f s' | .error e => cameBackBy (model prog w) A env E e s') s₂) E s := by
  have hl : s.heap.IsList ax its := (hJS _ _ _ hJ).list F.keep N
  have hlt : ax < s.heap.objs.size := by obtain ⟨_, e, _⟩ := hl; exact Heap.lt_size e
  refine wpAny_pyIter_list hl ?_
  have up : ∀ b o, s.heap.get? b = some o → (s.heap.push { cls := .type "list_iterator", data := .fields #[.ref ax, .int 0 0] }).get? b = some o := fun b o e => Heap.get?_push_of_some _ e
  refine for_walk (Q := Q) (Walks.list hh s.heap.objs.size ax (Nat.ne_of_lt hlt) its) (fun i h st => by obtain ⟨o, e, _⟩ := st.1; exact ⟨o, e⟩) LCg.list_st J hJS let_list (F.keeps up) (N.grown up) hJ (Nat.ne_of_lt F.ns.lt) (next_is_new F) (fun p hp => Nat.ne_of_lt (Heap.lt_size (N p hp).1)) ⟨⟨_, Heap.get?_push_size _ rfl, rfl, rfl⟩, hl.push _⟩ ?_ ?_ (fun f s' h => h)
  · intro i v oI h tk m news _ hP hJ F N off
    exact turn i v oI h tk m news hP hJ F N off
  · intro h tk m news hJ F N
    exact done h tk m news hJ F N

/-- for x in range (up by ones) -/
theorem for_range {env : Env} {x : Str} {px : Pos} {body : List Stmt} {Q : Flow → Shared → Prop} {r : Addr} {a b : Int} {t u v : Tok} {n : Nat} (hh : A.handled = none)
    (J : Nat → (Str → Option Value) → List (Addr × Obj) → Prop)
    (hr : IsRange s.heap r a b 1 t u v) (hsm : Builtin.Range.small a b 1 = true) (hn : Builtin.Range.rangeSize a b 1 = ((n : Nat) : Int))
    (F : Fr h₀ L s.heap m) (N : News h₀ L s.heap news) (hJ : J 0 m news)
    (turn : ∀ i (t : Tok) oI h tk m news, i < n → J i m news → Fr h₀ L h m → News h₀ L h ((s.heap.objs.size, oI) :: news) → (∀ p ∈ news, p.1 ≠ s.heap.objs.size) →
      wpAny (model prog w) A (assign (.Name x px) env (.int (a + (i : Int)) t)) (fun _ s₂ => wpAny (model prog w) A (execs body env) (FEnd h₀ L J (i + 1) s.heap.objs.size oI s Q) (fun _ _ => False) s₂) (fun _ _ => False) { s with heap := h, toks := tk })
    (done : ∀ h tk m news, J n m news → Fr h₀ L h m → News h₀ L h news → Q .next { s with heap := h, toks := tk }) :
    wpAny (model prog w) A (pyIter (.ref r)) (fun it s₂ => codeAny (model prog w) A (.forLoop (.Name x px) it body [] env) (fun r s' => match r with | .ok f => Q f s' | .error e => cameBackBy (model prog w) A env E e s') s₂) E s := by
  refine wpAny_pyIter_range hr hsm ?_
  refine for_walk (Q := Q) (S := fun _ => True) (LCg.range_walks hh a n) (fun i h st => ⟨_, st⟩) LCg.range_st J (fun _ _ _ _ => trivial) (fun _ _ _ _ _ _ h => wpAny_pure h) (F.keeps fun _ _ e => Heap.get?_push_of_some _ e) (N.grown fun _ _ e => Heap.get?_push_of_some _ e) hJ (Nat.ne_of_lt F.ns.lt) (next_is_new F) (fun p hp => Nat.ne_of_lt (Heap.lt_size (N p hp).1)) (by show IsRangeIter _ _ _ _ _; rw [hn]; simpa using Heap.get?_push_size _ rfl) ?_ ?_ (fun f s' h => h)
  · rintro i v oI h tk m news hi ⟨t, rfl⟩ hJ F N off
    exact turn i t oI h tk m news hi hJ F N off
  · intro h tk m news hJ F N
    exact done h tk m news hJ F N
end
theorem split_len (x y : Str) : (Txt.split x y).length ≤ x.length + 2 := split_le x y
theorem sum_le {B : Nat} : ∀ (l : List Str), (∀ a ∈ l, a.length ≤ B) → (l.map (·.length)).sum ≤ l.length * B
  | [], _ => Nat.zero_le _
  | x :: r, h => by
    have h1 := sum_le r fun a ha => h a (List.mem_cons_of_mem _ ha)
    have h2 := h x List.mem_cons_self
    simp only [List.map_cons, List.sum_cons, List.length_cons, Nat.succ_mul]
    omega
theorem tsub0 {prog : Program} {w : World} {A : Around} {E : Value → Shared → Prop} {s : Shared} {h₀ : Heap} {L : Addr} {news : List (Addr × Obj)} {value slice : PySem.Expr} {P : Addr} {v0 : Value} {r : List Value} {k : Nat} {u : Tok} {Q : Value → Shared → Prop}
    (N : News h₀ L s.heap news) (hm : (P, ({ cls := .type "tuple", data := .seq (v0 :: r).toArray k } : Obj)) ∈ news) (h : Q v0 s)
    (hs : subscripted slice false (.ref P) (.int 0 u) = operate [.ref P, .int 0 u] (getItem (.ref P) (.int 0 u)) := by with_unfolding_all rfl) :
    wpAny (model prog w) A (subscriptTail value slice (.ref P) (.int 0 u)) Q E s :=
  item_tupleT (l := v0 :: r) (j := 0) ⟨_, (N _ hm).1, rfl, _, rfl⟩ (by decide) (by decide) (by simp [seqIndex?]) rfl h hs
theorem tsub1 {prog : Program} {w : World} {A : Around} {E : Value → Shared → Prop} {s : Shared} {h₀ : Heap} {L : Addr} {news : List (Addr × Obj)} {value slice : PySem.Expr} {P : Addr} {v0 v1 : Value} {r : List Value} {k : Nat} {u : Tok} {Q : Value → Shared → Prop}
    (N : News h₀ L s.heap news) (hm : (P, ({ cls := .type "tuple", data := .seq (v0 :: v1 :: r).toArray k } : Obj)) ∈ news) (h : Q v1 s)
    (hs : subscripted slice false (.ref P) (.int 1 u) = operate [.ref P, .int 1 u] (getItem (.ref P) (.int 1 u)) := by with_unfolding_all rfl) :
    wpAny (model prog w) A (subscriptTail value slice (.ref P) (.int 1 u)) Q E s :=
  item_tupleT (l := v0 :: v1 :: r) (j := 1) ⟨_, (N _ hm).1, rfl, _, rfl⟩ (by decide) (by decide) (by simp [seqIndex?]; omega) rfl h hs
end Mine
end PGB

section PGC
open PySem PySem.W PyProof.Rows PySem.Calls
set_option maxRecDepth 100000
set_option maxHeartbeats 4000000
namespace Mine

/-- a mark: the walk halts here -/
def Stop (P : Prop) : Prop := P

inductive All2 {α : Type} (V : α → Value → Prop) : List α → List Value → Prop
  | nil : All2 V [] []
  | cons {x y xs ys} : V x y → All2 V xs ys → All2 V (x :: xs) (y :: ys)
theorem All2.snoc {α : Type} {V : α → Value → Prop} {xs : List α} {ys : List Value} {x : α} {y : Value} (h : All2 V xs ys) (v : V x y) : All2 V (xs ++ [x]) (ys ++ [y]) := by
  induction h with
  | nil => exact .cons v .nil
  | cons a _ ih => exact .cons a ih
theorem All2.length {α : Type} {V : α → Value → Prop} {xs : List α} {ys : List Value} (h : All2 V xs ys) : ys.length = xs.length := by
  induction h with
  | nil => rfl
  | cons _ _ ih => simp [ih]
theorem All2.ints {xs : List Int} {ys : List Value} (h : All2 (fun x v => ∃ t, v = Value.int x t) xs ys) : IntsAre ys xs := by
  induction h with
  | nil => exact .nil
  | cons a _ ih => obtain ⟨t, rfl⟩ := a; exact .cons _ t ih
theorem All2.strs {xs : List Str} {ys : List Value} (h : All2 (fun x v => ∃ t, v = Value.str x t) xs ys) : StrsAre ys xs := by
  induction h with
  | nil => exact .nil
  | cons a _ ih => obtain ⟨t, rfl⟩ := a; exact .cons _ t ih

section
variable {prog : Program} {w : World} {A : Around} {E : Value → Shared → Prop} {s : Shared}

theorem compLoop_any {R : Result → Shared → Prop} {elt target iter : PySem.Expr} {ifs : List PySem.Expr} {scope : Scope} {pos : Pos} {it acc : Value} {env : Env} (I : Nat → Shared → Prop)
    (turn : ∀ n s, I n s → wpAny (model prog w) A (pyNext it) (fun r s₁ => match r with
      | none => R (.ok .next) s₁
      | some v => wpAny (model prog w) A (letOwnedTupleGo target it v) (fun _ s₁' => wpAny (model prog w) A (assign target env v) (fun _ s₂ =>
          wpAny (model prog w) A (forIn ifs true fun c r => if r = true then do let ok ← isTrue c env (eval c env); pure (ForInStep.yield ok) else pure (ForInStep.yield r)) (fun ok s₃ =>
            if ok = true then wpAny (model prog w) A (eval elt env) (fun x s₄ =>
              wpAny (model prog w) A (call (.builtin "list.append") [acc, x]) (fun _ s₅ => ∃ m, m < n ∧ I m s₅) (fun _ _ => False) s₄) (fun _ _ => False) s₃
            else ∃ m, m < n ∧ I m s₃) (fun _ _ => False) s₂) (fun _ _ => False) s₁') (fun _ _ => False) s₁) (fun _ _ => False) s)
    (n : Nat) (h : I n s) :
    codeAny (model prog w) A (.compLoop (.ListComp elt [⟨target, iter, ifs, 0⟩] scope pos) 0 it acc env) R s := by
  refine codeAny_loop rfl I (fun n s hI => ?_) n h
  show wpAny _ A ((compTurn (.ListComp elt [⟨target, iter, ifs, 0⟩] scope pos) 0 it acc env).onRaise (fun x => do noteFrame x env; theTreesLotGoes x)) _ _ s
  refine wpAny_noted ?_
  rw [compTurn_list]
  refine wpAny_mono (E := fun _ _ => False) ?_ (fun _ _ x => x) fun _ _ x => x.elim
  refine wpAny_bind (wpAny_standAt (wpAny_bind (wpAny_mono (turn n s hI) (fun r s₁ h₁ => ?_) fun _ _ h' => h')))
  cases r with
  | none => exact wpAny_pure h₁
  | some v =>
    refine wpAny_bind (wpAny_mono h₁ (fun _ s₁' h₁' => ?_) fun _ _ h' => h')
    refine wpAny_bind (wpAny_mono h₁' (fun _ s₂ h₂ => wpAny_bind (wpAny_mono h₂ (fun ok s₃ h₃ => ?_) fun _ _ h' => h')) fun _ _ h' => h')
    cases ok with
    | false => 
      simp only [Bool.false_eq_true, if_false] at h₃ ⊢
      first | exact wpAny_pure ⟨rfl, h₃⟩ | exact wpAny_bind (wpAny_pure (wpAny_pure ⟨rfl, h₃⟩))
    | true =>
      simp only [if_true] at h₃ ⊢
      first
        | exact wpAny_bind (wpAny_mono h₃ (fun x s₄ h₄ => wpAny_bind (wpAny_mono h₄ (fun _ s₅ h₅ => wpAny_pure ⟨rfl, h₅⟩) fun _ _ h' => h')) fun _ _ h' => h')
        | exact wpAny_bind (wpAny_bind (wpAny_mono h₃ (fun x s₄ h₄ => wpAny_bind (wpAny_mono h₄ (fun _ s₅ h₅ => wpAny_pure (wpAny_pure ⟨rfl, h₅⟩)) fun _ _ h' => h')) fun _ _ h' => h'))

/-- the end of a comprehension's turn: base and iterator and list as they were -/
def CEnd (b : Heap) (C I : Addr) (oI : Obj) (D : Addr) (oD : Obj) (s₂ s₄ : Shared) : Prop :=
  ∃ h' tk m', s₄ = { s₂ with heap := h', toks := tk } ∧ Fr b C h' m' ∧ News b C h' [(I, oI), (D, oD)]

theorem comp_block {α : Type} {V : α → Value → Prop} {f : Nat → Option α} {elt target iter : PySem.Expr} {ifs : List PySem.Expr} {scope : Scope} {cl : List (Str × Addr)} {pos : Pos} {env : Env} {s₂ : Shared} {b : Heap} {I : Addr} {fp : List Addr} {n : Nat} {P : Nat → Value → Prop} {St : Nat → Heap → Prop}
    {RR : Value → Addr → Result → Shared → Prop}
    (W : Walks prog w A I fp [I] n P St) (hsz : n ≤ 100000) (hIo : ∀ i h, St i h → ∃ o, h.get? I = some o)
    (hSt : ∀ i h h' o, St i h → h.get? I = some o → h'.get? I = some o → (∀ x o, b.get? x = some o → h'.get? x = some o) → St i h')
    (hlet : ∀ i (s : Shared) (v : Value) (Q : Unit → Shared → Prop) (E : Value → Shared → Prop), St i s.heap → Q () s → wpAny (model prog w) A (letOwnedTupleGo target (.ref I) v) Q E s)
    (hcell : ∀ y ∈ scope.names, y.2 ≠ .cell) (hkind : scope.kind = .function) (hst : St 0 s₂.heap)
    (hb : ∀ x o, b.get? x = some o → s₂.heap.get? x = some o) (hbs : b.objs.size ≤ s₂.heap.objs.size) (hI₀ : b.get? I = none) (hIs : I < s₂.heap.objs.size) (hfp : ∀ x ∈ fp, x < s₂.heap.objs.size)
    (turn : ∀ i v C oI D oD h tk m, i < n → P i v → Fr b C h m → News b C h [(I, oI), (D, oD)] →
      wpAny (model prog w) A (assign target (compEnvC scope cl C env) v) (fun _ s₃ =>
        wpAny (model prog w) A (forIn ifs true fun c r => if r = true then do let ok ← isTrue c (compEnvC scope cl C env) (eval c (compEnvC scope cl C env)); pure (ForInStep.yield ok) else pure (ForInStep.yield r)) (fun ok s₄ =>
          if ok = true then wpAny (model prog w) A (eval elt (compEnvC scope cl C env)) (fun y s₅ => CEnd b C I oI D oD s₂ s₅ ∧ ∃ x, f i = some x ∧ V x y) (fun _ _ => False) s₄
          else CEnd b C I oI D oD s₂ s₄ ∧ f i = none) (fun _ _ => False) s₃) (fun _ _ => False) { s₂ with heap := h, toks := tk })
    (fin : ∀ D C h tk m' ys, (∀ x o, b.get? x = some o → h.get? x = some o) → h.get? D = some (LCg.lst ys) → b.get? D = none → b.get? C = none → D ≠ C → h.Ns C m' → All2 V ((List.range n).filterMap f) ys →
      RR (.ref D) C (.ok .next) { s₂ with heap := h, toks := tk }) :
    wpAny (model prog w) A (newList []) (fun acc s₃ => wpAny (model prog w) A (newFunctionEnv scope env.globals cl [] env.qual none .none (some env)) (fun cenv s₄ =>
      codeAny (model prog w) A (.compStart (.ListComp elt [⟨target, iter, ifs, 0⟩] scope pos) 0 (.ref I) acc { cenv with scope := relabel scope env }) (RR acc cenv.locals) s₄) E s₃) E s₂ := by
  refine wpAny_newObj_type (wpAny_newFunctionEnv hcell (by intro y hy; simp at hy) (fun h₁ hns₁ hsb₁ => ?_) hkind)
  dsimp only at hns₁ hsb₁ ⊢
  generalize hH2 : s₂.heap.push { cls := .type "list", dict := none, data := .seq ([] : List Value).toArray } = H2 at hns₁ hsb₁ ⊢
  have hC : H2.objs.size = s₂.heap.objs.size + 1 := by rw [← hH2, Heap.size_push]
  have hDC : s₂.heap.objs.size ≠ H2.objs.size := by rw [hC]; exact Nat.ne_of_lt (Nat.lt_succ_self _)
  have below : ∀ x, x < s₂.heap.objs.size → x ≠ H2.objs.size ∧ x ≠ s₂.heap.objs.size := fun x hx => ⟨by rw [hC]; exact Nat.ne_of_lt (Nat.lt_succ_of_lt hx), Nat.ne_of_lt hx⟩
  have old : ∀ x o, s₂.heap.get? x = some o → h₁.get? x = some o := fun x o e => hsb₁.extBut x o (below x (Heap.lt_size e)).1 (Heap.get?_push_of_some _ (hH2 ▸ Heap.get?_push_of_some _ e))
  have hacc : h₁.get? s₂.heap.objs.size = some (LCg.lst []) := hsb₁.extBut _ _ hDC (Heap.get?_push_of_some _ (hH2 ▸ Heap.get?_push_size _ rfl))
  have hst₁ : St 0 h₁ := W.frame _ _ _ hst fun x _ o e => old x o e
  have fresh : ∀ a, s₂.heap.objs.size ≤ a → b.get? a = none := fun a ha => Heap.get?_none_of_le (Nat.le_trans hbs ha)
  have hD₀ : b.get? s₂.heap.objs.size = none := fresh _ (Nat.le_refl _)
  have hC₀ : b.get? H2.objs.size = none := fresh _ (by rw [hC]; exact Nat.le_succ _)
  have hCI : I ≠ H2.objs.size := (below I hIs).1
  have hDI : I ≠ s₂.heap.objs.size := (below I hIs).2
  have hDf : s₂.heap.objs.size ∉ fp := fun hm => Nat.lt_irrefl _ (hfp _ hm)
  have habove : b.objs.size ≤ H2.objs.size := by rw [hC]; exact Nat.le_succ_of_le hbs
  have loop : ∀ s₃ : Shared, s₃ = { s₂ with heap := h₁, toks := s₂.toks + ([] : List (Str × Value)).length } →
      codeAny (model prog w) A (.compLoop (.ListComp elt [⟨target, iter, ifs, 0⟩] scope pos) 0 (.ref I) (.ref s₂.heap.objs.size) (compEnvC scope cl H2.objs.size env))
        (RR (.ref s₂.heap.objs.size) H2.objs.size) s₃ := by
    rintro s₃ rfl
    refine compLoop_any (fun k s' => ∃ h' tk i ys m', s' = { s₂ with heap := h', toks := tk } ∧ i ≤ n ∧ k = n + 1 - i ∧ St i h' ∧ Fr b H2.objs.size h' m' ∧ h'.get? s₂.heap.objs.size = some (LCg.lst ys) ∧ All2 V ((List.range i).filterMap f) ys) ?_ (n + 1)
      ⟨h₁, _, 0, [], _, rfl, Nat.zero_le _, rfl, hst₁, ⟨hns₁, fun x o e => old x o (hb x o e), habove⟩, hacc, .nil⟩
    rintro k s' ⟨h', tk, i, ys, m', rfl, hi, rfl, hst', F', hD', hV⟩
    by_cases hlt : i < n
    · refine W.item i _ _ _ hlt hst' fun v h₂ tk₂ hPv hst₂ hk₂ => ?_
      refine hlet (i + 1) _ v _ _ hst₂ ?_
      obtain ⟨oI, heI⟩ := hIo _ _ hst₂
      have F₂ : Fr b H2.objs.size h₂ m' := LCg.fr_but F' hk₂ (Ne.symm hCI) hI₀
      have N₂ : News b H2.objs.size h₂ [(I, oI), (s₂.heap.objs.size, LCg.lst ys)] := fun p hp => by
        rcases List.mem_cons.mp hp with rfl | hp
        · exact ⟨heI, hCI, hI₀⟩
        · rw [List.mem_singleton.mp hp]
          exact ⟨hk₂ _ _ (by simpa using Ne.symm hDI) hD', hDC, hD₀⟩
      have hlen : ys.length ≤ n := by
        rw [hV.length]
        exact Nat.le_trans (List.length_filterMap_le ..) (by rw [List.length_range]; omega)
      refine wpAny_mono (turn i v H2.objs.size oI s₂.heap.objs.size (LCg.lst ys) h₂ tk₂ m' hlt hPv F₂ N₂) (fun _ s₃ h₃ => ?_) fun _ _ e => e
      refine wpAny_mono h₃ (fun ok s₄ h₄ => ?_) fun _ _ e => e
      have hrange : (List.range (i + 1)).filterMap f = (List.range i).filterMap f ++ (f i).toList := by
        rw [List.range_succ, List.filterMap_append]
        rw [List.filterMap_cons, List.filterMap_nil]
        cases f i <;> rfl
      cases ok with
      | false =>
        simp only [Bool.false_eq_true, if_false] at h₄ ⊢
        obtain ⟨⟨h₅, tk₅, m₅, rfl, F₅, N₅⟩, hn⟩ := h₄
        refine ⟨n + 1 - (i + 1), by omega, h₅, tk₅, i + 1, ys, m₅, rfl, hlt, rfl, hSt _ _ _ _ hst₂ heI (N₅ _ (List.Mem.head _)).1 F₅.keep, F₅, (N₅ _ (List.Mem.tail _ (List.Mem.head _))).1, ?_⟩
        rw [hrange, hn]
        simpa using hV
      | true =>
        simp only [if_true] at h₄ ⊢
        refine wpAny_mono h₄ (fun y s₅ h₅ => ?_) fun _ _ e => e
        obtain ⟨⟨h₅, tk₅, m₅, rfl, F₅, N₅⟩, x, hx, hv⟩ := h₅
        have zI := (N₅ _ (List.Mem.head _)).1
        have zD := (N₅ _ (List.Mem.tail _ (List.Mem.head _))).1
        have hst₅ : St (i + 1) h₅ := hSt _ _ _ _ hst₂ heI zI F₅.keep
        refine append_at (hsz := by show ys.toArray.size ≤ sizeLine; rw [List.size_toArray, sizeLine_eq]; omega) zD fun h₆ hs₆ hD₆ => ?_
        refine ⟨n + 1 - (i + 1), by omega, h₆, tk₅, i + 1, ys ++ [y], m₅, rfl, hlt, rfl, W.frame _ _ _ hst₅ fun x hx o e => hs₆.extBut x o (fun q => hDf (q ▸ hx)) e, F₅.change hs₆ hDC hD₀, hD₆.trans (congrArg some (LCg.lst_snoc ys y)), ?_⟩
        rw [hrange, hx]
        exact hV.snoc hv
    · obtain rfl : i = n := Nat.le_antisymm hi (Nat.not_lt.mp hlt)
      refine W.done _ _ _ hst' fun h₂ tk₂ hk₂ => ?_
      have F₂ : Fr b H2.objs.size h₂ m' := LCg.fr_but F' hk₂ (Ne.symm hCI) hI₀
      exact fin _ _ h₂ tk₂ m' ys F₂.keep (hk₂ _ _ (by simpa using Ne.symm hDI) hD') hD₀ hC₀ hDC F₂.ns hV
  exact codeAny_compStart_list (loop _ rfl) (W.self 0 _ _ _ hst₁ (loop _ rfl))

/-- what a turn of a comprehension has to show -/
def CTurn (prog : Program) (w : World) (A : Around) {α : Type} (V : α → Value → Prop) (f : Nat → Option α) (elt target : PySem.Expr) (ifs : List PySem.Expr) (scope : Scope) (cl : List (Str × Addr)) (env : Env) (P : Nat → Value → Prop) (s₁ : Shared) : Prop :=
  ∀ i v C I oI D oD h tk m, P i v → Fr s₁.heap C h m → News s₁.heap C h [(I, oI), (D, oD)] →
      wpAny (model prog w) A (assign target (compEnvC scope cl C env) v) (fun _ s₃ =>
        wpAny (model prog w) A (forIn ifs true fun c r => if r = true then do let ok ← isTrue c (compEnvC scope cl C env) (eval c (compEnvC scope cl C env)); pure (ForInStep.yield ok) else pure (ForInStep.yield r)) (fun ok s₄ =>
          if ok = true then wpAny (model prog w) A (eval elt (compEnvC scope cl C env)) (fun y s₅ => Stop (CEnd s₁.heap C I oI D oD s₁ s₅ ∧ ∃ x, f i = some x ∧ V x y)) (fun _ _ => False) s₄
          else Stop (CEnd s₁.heap C I oI D oD s₁ s₄ ∧ f i = none)) (fun _ _ => False) s₃) (fun _ _ => False) { s₁ with heap := h, toks := tk }

theorem comp_list_core {α : Type} {V : α → Value → Prop} {f : Nat → Option α} {elt target iter : PySem.Expr} {ifs : List PySem.Expr} {scope : Scope} {cl : List (Str × Addr)} {pos pos' : Pos} {env : Env} {use : Option (Value → Sem Unit)} {Q : Value → Shared → Prop} (hh : A.handled = none)
    (hclos : closureFor scope env = pure cl) (hcell : ∀ y ∈ scope.names, y.2 ≠ .cell) (hkind : scope.kind = .function)
    (hnames : ∀ y ∈ scope.names, y.2 = .local → scope.names.lookup y.1 = some .local)
    (h : wpAny (model prog w) A (eval iter env) (fun xv s₁ => ∃ ax its, xv = .ref ax ∧ s₁.heap.IsList ax its ∧ its.size ≤ 100000 ∧
      CTurn prog w A V f elt target ifs scope cl env (fun i v => its[i]? = some v) s₁ ∧
      (∀ D C h tk m' ys, (∀ x o, s₁.heap.get? x = some o → h.get? x = some o) → h.get? D = some (LCg.lst ys) → s₁.heap.get? D = none → s₁.heap.get? C = none → D ≠ C → h.Ns C m' → All2 V ((List.range its.size).filterMap f) ys →
        compPost (model prog w) A E use Q (.ref D) C (.ok .next) { s₁ with heap := h, toks := tk })) E s)
    (hs : ∀ x, foldedSetIterable iter env x = pure x) :
    wpAny (model prog w) A (comprehension (.ListComp elt [⟨target, iter, ifs, 0⟩] scope pos) scope env pos' (newList []) false (eval iter env) use) Q E s := by
  refine wpAny_comprehension_free rfl hs hclos hkind hnames (wpAny_mono h (fun xv s₁ h₁ => ?_) fun _ _ e => e)
  obtain ⟨ax, its, rfl, hl, hsz, turn, fin⟩ := h₁
  have hlt : ax < s₁.heap.objs.size := by obtain ⟨_, e, _⟩ := hl; exact Heap.lt_size e
  refine wpAny_pyIter_list hl ?_
  have up : ∀ b o, s₁.heap.get? b = some o → (s₁.heap.push { cls := .type "list_iterator", data := .fields #[.ref ax, .int 0 0] }).get? b = some o := fun b o e => Heap.get?_push_of_some _ e
  refine comp_block (b := s₁.heap) (V := V) (f := f) (Walks.list hh s₁.heap.objs.size ax (Nat.ne_of_lt hlt) its) hsz (fun i h st => by obtain ⟨o, e, _⟩ := st.1; exact ⟨o, e⟩) ?_ let_list hcell hkind ⟨⟨_, Heap.get?_push_size _ rfl, rfl, rfl⟩, hl.push _⟩ up ?_ (Heap.get?_none_of_le (Nat.le_refl _)) ?_ ?_ ?_ ?_
  · intro i h h' o st e e' k
    exact ⟨by obtain ⟨o', q, r⟩ := st.1; rw [e] at q; cases q; exact ⟨o, e', r⟩, hl.at fun o q => k _ _ q⟩
  · show _ ≤ (s₁.heap.push _).objs.size
    rw [Heap.size_push]; exact Nat.le_succ _
  · show _ < (s₁.heap.push _).objs.size
    rw [Heap.size_push]; exact Nat.lt_succ_self _
  · intro x hx
    show x < (s₁.heap.push _).objs.size
    rw [Heap.size_push]
    rcases List.mem_cons.mp hx with rfl | hx
    · exact Nat.lt_succ_self _
    · rw [List.mem_singleton.mp hx]; exact Nat.lt_succ_of_lt hlt
  · intro i v C oI D oD h tk m _ hP F N
    exact turn i v C _ oI D oD h tk m hP F N
  · intro D C h tk m' ys k1 k2 k3 k4 k5 k6 k7
    exact fin D C h tk m' ys k1 k2 k3 k4 k5 k6 k7

theorem comp_range_core {α : Type} {V : α → Value → Prop} {f : Nat → Option α} {elt iter : PySem.Expr} {x : Str} {px : Pos} {ifs : List PySem.Expr} {scope : Scope} {cl : List (Str × Addr)} {pos pos' : Pos} {env : Env} {use : Option (Value → Sem Unit)} {Q : Value → Shared → Prop} (hh : A.handled = none)
    (hclos : closureFor scope env = pure cl) (hcell : ∀ y ∈ scope.names, y.2 ≠ .cell) (hkind : scope.kind = .function)
    (hnames : ∀ y ∈ scope.names, y.2 = .local → scope.names.lookup y.1 = some .local)
    (h : wpAny (model prog w) A (eval iter env) (fun xv s₁ => ∃ r a b c t u v n, xv = .ref r ∧ IsRange s₁.heap r a b c t u v ∧ Builtin.Range.small a b c = true ∧ Builtin.Range.rangeSize a b c = ((n : Nat) : Int) ∧ n ≤ 100000 ∧
      CTurn prog w A V f elt (.Name x px) ifs scope cl env (fun i v => i < n ∧ ∃ t, v = .int (a + (i : Int) * c) t) s₁ ∧
      (∀ D C h tk m' ys, (∀ x o, s₁.heap.get? x = some o → h.get? x = some o) → h.get? D = some (LCg.lst ys) → s₁.heap.get? D = none → s₁.heap.get? C = none → D ≠ C → h.Ns C m' → All2 V ((List.range n).filterMap f) ys →
        compPost (model prog w) A E use Q (.ref D) C (.ok .next) { s₁ with heap := h, toks := tk })) E s)
    (hs : ∀ x, foldedSetIterable iter env x = pure x) :
    wpAny (model prog w) A (comprehension (.ListComp elt [⟨.Name x px, iter, ifs, 0⟩] scope pos) scope env pos' (newList []) false (eval iter env) use) Q E s := by
  refine wpAny_comprehension_free rfl hs hclos hkind hnames (wpAny_mono h (fun xv s₁ h₁ => ?_) fun _ _ e => e)
  obtain ⟨r, a, b, c, t, u, v, n, rfl, hr, hsm, hn, hsz, turn, fin⟩ := h₁
  refine wpAny_pyIter_range hr hsm ?_
  have up : ∀ b o, s₁.heap.get? b = some o → (s₁.heap.push { cls := .type "range_iterator", data := .fields #[rawInt a, rawInt (Builtin.Range.rangeSize a b c), rawInt c] }).get? b = some o := fun b o e => Heap.get?_push_of_some _ e
  refine comp_block (b := s₁.heap) (V := V) (f := f) ((Walks.range hh s₁.heap.objs.size a c n).bound) hsz (fun i h st => ⟨_, st⟩) ?_ (fun _ _ _ _ _ _ h => wpAny_pure h) hcell hkind (by show IsRangeIter _ _ _ _ _; rw [hn]; simpa using Heap.get?_push_size _ rfl) (fun x o e => Heap.get?_push_of_some _ e) ?_ (Heap.get?_none_of_le (Nat.le_refl _)) ?_ ?_ ?_ ?_
  · intro i h h' o st e e' k
    have st' : h.get? s₁.heap.objs.size = some _ := st
    show h'.get? s₁.heap.objs.size = some _
    rw [e', ← e]; exact st'
  · show _ ≤ (s₁.heap.push _).objs.size
    rw [Heap.size_push]; exact Nat.le_succ _
  · show _ < (s₁.heap.push _).objs.size
    rw [Heap.size_push]; exact Nat.lt_succ_self _
  · intro x hx
    show x < (s₁.heap.push _).objs.size
    rw [Heap.size_push]
    rw [List.mem_singleton.mp hx]; exact Nat.lt_succ_self _
  · intro i v C oI D oD h tk m hi hP F N
    exact turn i v C _ oI D oD h tk m hP F N
  · intro D C h tk m' ys k1 k2 k3 k4 k5 k6 k7
    exact fin D C h tk m' ys k1 k2 k3 k4 k5 k6 k7

theorem post_none {Q : Value → Shared → Prop} {s₁ : Shared} {D C : Addr} {h : Heap} {tk : Nat} {m' : Str → Option Value} {ys : List Value}
    (k1 : ∀ x o, s₁.heap.get? x = some o → h.get? x = some o) (k2 : h.get? D = some (LCg.lst ys)) (k4 : s₁.heap.get? C = none) (k5 : D ≠ C) (k6 : h.Ns C m')
    (fin : ∀ h, (∀ x o, s₁.heap.get? x = some o → h.get? x = some o) → h.get? D = some (LCg.lst ys) → Q (.ref D) { s₁ with heap := h, toks := tk }) :
    compPost (model prog w) A E none Q (.ref D) C (.ok .next) { s₁ with heap := h, toks := tk } :=
  ⟨m', k6, fun h' hs' => fin h' (fun x o e => hs'.extBut x o (by rintro rfl; rw [k4] at e; cases e) (k1 x o e)) (hs'.extBut _ _ k5 k2)⟩

theorem comp_list {α : Type} {V : α → Value → Prop} {f : Nat → Option α} {elt target iter : PySem.Expr} {ifs : List PySem.Expr} {scope : Scope} {cl : List (Str × Addr)} {pos : Pos} {env : Env} {Q : Value → Shared → Prop} (hh : A.handled = none)
    (hclos : closureFor scope env = pure cl) (hcell : ∀ y ∈ scope.names, y.2 ≠ .cell) (hkind : scope.kind = .function)
    (hnames : ∀ y ∈ scope.names, y.2 = .local → scope.names.lookup y.1 = some .local)
    (h : wpAny (model prog w) A (eval iter env) (fun xv s₁ => Stop (∃ ax its, xv = .ref ax ∧ s₁.heap.IsList ax its ∧ its.size ≤ 100000 ∧
      CTurn prog w A V f elt target ifs scope cl env (fun i v => its[i]? = some v) s₁ ∧
      (∀ D h tk ys, (∀ x o, s₁.heap.get? x = some o → h.get? x = some o) → h.get? D = some (LCg.lst ys) → s₁.heap.get? D = none → All2 V ((List.range its.size).filterMap f) ys → Q (.ref D) { s₁ with heap := h, toks := tk }))) E s)
    (hs : ∀ x, foldedSetIterable iter env x = pure x := by intro _; rfl) :
    wpAny (model prog w) A (eval (.ListComp elt [⟨target, iter, ifs, 0⟩] scope pos) env) Q E s := by
  rw [eval_ListComp]
  refine comp_list_core (V := V) (f := f) hh hclos hcell hkind hnames (wpAny_mono h (fun xv s₁ h₁ => ?_) fun _ _ e => e) hs
  obtain ⟨ax, its, e, hl, hsz, turn, fin⟩ := h₁
  exact ⟨ax, its, e, hl, hsz, turn, fun D C h tk m' ys k1 k2 k3 k4 k5 k6 k7 => post_none k1 k2 k4 k5 k6 fun h' q1 q2 => fin D h' tk ys q1 q2 k3 k7⟩

theorem comp_range {α : Type} {V : α → Value → Prop} {f : Nat → Option α} {elt iter : PySem.Expr} {x : Str} {px : Pos} {ifs : List PySem.Expr} {scope : Scope} {cl : List (Str × Addr)} {pos : Pos} {env : Env} {Q : Value → Shared → Prop} (hh : A.handled = none)
    (hclos : closureFor scope env = pure cl) (hcell : ∀ y ∈ scope.names, y.2 ≠ .cell) (hkind : scope.kind = .function)
    (hnames : ∀ y ∈ scope.names, y.2 = .local → scope.names.lookup y.1 = some .local)
    (h : wpAny (model prog w) A (eval iter env) (fun xv s₁ => Stop (∃ r a b c t u v n, xv = .ref r ∧ IsRange s₁.heap r a b c t u v ∧ Builtin.Range.small a b c = true ∧ Builtin.Range.rangeSize a b c = ((n : Nat) : Int) ∧ n ≤ 100000 ∧
      CTurn prog w A V f elt (.Name x px) ifs scope cl env (fun i v => i < n ∧ ∃ t, v = .int (a + (i : Int) * c) t) s₁ ∧
      (∀ D h tk ys, (∀ x o, s₁.heap.get? x = some o → h.get? x = some o) → h.get? D = some (LCg.lst ys) → s₁.heap.get? D = none → All2 V ((List.range n).filterMap f) ys → Q (.ref D) { s₁ with heap := h, toks := tk }))) E s)
    (hs : ∀ x, foldedSetIterable iter env x = pure x := by intro _; rfl) :
    wpAny (model prog w) A (eval (.ListComp elt [⟨.Name x px, iter, ifs, 0⟩] scope pos) env) Q E s := by
  rw [eval_ListComp]
  refine comp_range_core (V := V) (f := f) hh hclos hcell hkind hnames (wpAny_mono h (fun xv s₁ h₁ => ?_) fun _ _ e => e) hs
  obtain ⟨r, a, b, c, t, u, v, n, e, hr, hsm, hn, hsz, turn, fin⟩ := h₁
  exact ⟨r, a, b, c, t, u, v, n, e, hr, hsm, hn, hsz, turn, fun D C h tk m' ys k1 k2 k3 k4 k5 k6 k7 => post_none k1 k2 k4 k5 k6 fun h' q1 q2 => fin D h' tk ys q1 q2 k3 k7⟩

theorem enterC_code {K : Frag} {p : Program} {loose : List Str} {f : Addr} {R : Result → Shared → Prop} {mean : ExcName → Option Value} {mg mb : Str → Option Value}
   {name qual : Str} {params : Arguments} {body : List Stmt} {scope : Scope} {dV kV doc pm cdv ct oc : Value} {an od : Option Addr} {osl : Array (Option Value)}
   {args : List Value} {kw : List (Str × Value)} {binds : List (Str × Value)}
   (X : K.In s.heap) (T : Top p loose mean mg mb s.heap)
   (hroom : A.depth < recursionLimit)
   (ho : K.lookup f = some ⟨oc, od, .func (fnOf name qual params body scope dV kV doc pm an cdv ct), osl⟩) (hcd : codeIn K cdv qual = true)
   (hbind : BindsTo s (fnOf name qual params body scope dV kV doc pm an cdv ct) ⟨args, kw⟩ binds)
   (hkind : (binds.all fun y => scope.names.lookup y.1 == some .local || scope.names.lookup y.1 == some .cell) = true)
   (hnd : ((cellsFrom 0 scope.names []).map (·.1)).Nodup)
   (h : ∀ L h₁ tk cells, Fr s.heap L h₁ (bindL (envOfC qual scope L f cdv).kindOf binds fun _ => none) → News s.heap L h₁ cells → CellsAre (bindC (envOfC qual scope L f cdv).kindOf binds fun _ => none) (cellsFrom (L + 1) scope.names []) cells →
      wpAny (model prog w) (A.deeper (envOfC qual scope L f cdv)) (execs body (envOfC qual scope L f cdv))
        (fun fl s' => R (.ok (.ret (match fl with | .ret v => v | _ => .none))) s') (fun _ _ => False)
        { s with heap := h₁, toks := tk })
   (hco : scope.isCoroutine = false) (hgen : scope.isGenerator = false) (hk : scope.kind = .function) :
   codeAny (model prog w) A (.call (.ref f) ⟨args, kw⟩) R s := by
  refine codeAny_call_function hroom (X _ _ ho) rfl hco hgen rfl (codeRec_of X hcd) (hbind _ _ _ _ ?_)
  refine wpAny_newFunctionEnv_cells hk (kindsX hkind _) fun env' he s' x => ?_
  subst he
  refine ⟨T.nolimit.keeps x.toInCall.keep, codeAny_func ?_⟩
  obtain ⟨h₁, tk, rfl, _⟩ := x.done
  have hk₁ := x.toInCall.keep
  obtain ⟨cells, NC, Y⟩ := Cl.news (h₀ := s.heap) (Nat.le_refl _) fun n c hm => ⟨x.cell n c (lookup_of_mem_nodup (cellsFrom_names scope.names 0 (s.heap.objs.size + 1) [] [] rfl ▸ hnd) hm), x.above n c hm⟩
  exact wpAny_mono (h s.heap.objs.size h₁ tk cells ⟨x.toInCall.ns, hk₁, Nat.le_refl _⟩ NC Y) (fun fl s' hl => hl) fun _ _ y => y.elim

/-- entering a def with cells -/
theorem enterC {K : Frag} {p : Program} {loose : List Str} {f : Addr} {Q E : Value → Shared → Prop} {mean : ExcName → Option Value} {mg mb : Str → Option Value}
   {name qual : Str} {params : Arguments} {body : List Stmt} {scope : Scope} {dV kV doc pm cdv ct oc : Value} {an od : Option Addr} {osl : Array (Option Value)}
   {args : List Value} {kw : List (Str × Value)} {binds : List (Str × Value)}
   (X : K.In s.heap) (T : Top p loose mean mg mb s.heap)
   (hroom : A.depth < recursionLimit)
   (ho : K.lookup f = some ⟨oc, od, .func (fnOf name qual params body scope dV kV doc pm an cdv ct), osl⟩) (hcd : codeIn K cdv qual = true)
   (hbind : BindsTo s (fnOf name qual params body scope dV kV doc pm an cdv ct) ⟨args, kw⟩ binds)
   (hkind : (binds.all fun y => scope.names.lookup y.1 == some .local || scope.names.lookup y.1 == some .cell) = true)
   (hnd : ((cellsFrom 0 scope.names []).map (·.1)).Nodup)
   (h : ∀ L h₁ tk cells, Fr s.heap L h₁ (bindL (envOfC qual scope L f cdv).kindOf binds fun _ => none) → News s.heap L h₁ cells → CellsAre (bindC (envOfC qual scope L f cdv).kindOf binds fun _ => none) (cellsFrom (L + 1) scope.names []) cells →
      wpAny (model prog w) (A.deeper (envOfC qual scope L f cdv)) (execs body (envOfC qual scope L f cdv))
        (fun fl s' => Q (match fl with | .ret v => v | _ => .none) s') (fun _ _ => False)
        { s with heap := h₁, toks := tk })
   (hco : scope.isCoroutine = false) (hgen : scope.isGenerator = false) (hk : scope.kind = .function) :
   wpAny (model prog w) A (call (.ref f) args kw) Q E s := by
  refine wpAny_call (codeAny_call_function hroom (X _ _ ho) rfl hco hgen rfl (codeRec_of X hcd) (hbind _ _ _ _ ?_))
  refine wpAny_newFunctionEnv_cells hk (kindsX hkind _) fun env' he s' x => ?_
  subst he
  refine ⟨T.nolimit.keeps x.toInCall.keep, codeAny_func ?_⟩
  obtain ⟨h₁, tk, rfl, _⟩ := x.done
  have hk₁ := x.toInCall.keep
  obtain ⟨cells, NC, Y⟩ := Cl.news (h₀ := s.heap) (Nat.le_refl _) fun n c hm => ⟨x.cell n c (lookup_of_mem_nodup (cellsFrom_names scope.names 0 (s.heap.objs.size + 1) [] [] rfl ▸ hnd) hm), x.above n c hm⟩
  exact wpAny_mono (h s.heap.objs.size h₁ tk cells ⟨x.toInCall.ns, hk₁, Nat.le_refl _⟩ NC Y) (fun fl s' hl => hl) fun _ _ y => y.elim
end

section
variable {M : Model} {A : Around} {E : Value → Shared → Prop} {s : Shared} {b : Heap} {C : Addr} {m mg mb : Str → Option Value} {K : Frag} {p : Program} {loose : List Str} {mean : ExcName → Option Value} {scope : Scope} {cl : List (Str × Addr)} {env : Env} {x : Str} {pos : Pos} {v : Value} {Q : Value → Shared → Prop} {news : List (Addr × Obj)}
theorem cmL (F : Fr b C s.heap m) (hv : m x = some v) (h : Q v s) (hk : scope.kind = .function := by rfl) (hx : (compEnvC scope cl C env).kindOf x = some .local := by rfl) (hd : (x == ("__debug__" : Str)) = false := by decide) :
    wpAny M A (eval (.Name x pos) (compEnvC scope cl C env)) Q E s := ldVarK F.ns hv h hk hx hd
theorem cmC {c : Addr} {o : Obj} (F : Fr b C s.heap m) (ho : b.get? c = some o) (hd' : o.data = .cell (some v)) (hc : cl.lookup x = some c) (h : Q v s) (hk : scope.kind = .function := by rfl) (hx : (compEnvC scope cl C env).kindOf x = some .cell := by rfl) (hd : (x == ("__debug__" : Str)) = false := by decide) :
    wpAny M A (eval (.Name x pos) (compEnvC scope cl C env)) Q E s := ldCellK hc ⟨o, F.keep _ _ ho, hd'⟩ h hk hx hd
theorem cmK (F : Fr b C s.heap m) (X : K.In b) (T : Top p loose mean mg mb b) (e : nsIn K mainGlobals x = some (some v)) (h : Q v s) (hg : env.globals = mainGlobals := by rfl)
    (hk : scope.kind = .function := by rfl) (hx : (compEnvC scope cl C env).kindOf x = some .globalImplicit := by rfl) (hd : (x == ("__debug__" : Str)) = false := by decide) :
    wpAny M A (eval (.Name x pos) (compEnvC scope cl C env)) Q E s := LCgL.ld_global F X T e h hg hk hx hd
theorem cmB (F : Fr b C s.heap m) (X : K.In b) (T : Top p loose mean mg mb b) (e : nsIn K mainGlobals x = some none) (hv : bootBuiltins x = some v) (hn : x ≠ "__name__") (h : Q v s) (hg : env.globals = mainGlobals := by rfl) (hgb : env.builtins = builtinsNs := by rfl)
    (hk : scope.kind = .function := by rfl) (hx : (compEnvC scope cl C env).kindOf x = some .globalImplicit := by rfl) (hd : (x == ("__debug__" : Str)) = false := by decide) :
    wpAny M A (eval (.Name x pos) (compEnvC scope cl C env)) Q E s := LCgL.ld_built F X T e hv hn h hg hgb hk hx hd
theorem cmS {Q : Unit → Shared → Prop} (F : Fr b C s.heap m) (N : News b C s.heap news) (h : ∀ h', Fr b C h' (fun y => if y = x then some v else m y) → News b C h' news → Q () { s with heap := h', toks := s.toks + 1 })
    (hk : scope.kind = .function := by rfl) (hx : (compEnvC scope cl C env).kindOf x = some .local := by rfl) :
    wpAny M A (assign (.Name x pos) (compEnvC scope cl C env) v) Q E s :=
  wpAny_assign_Name (wpAny_storeName_local hx F.ns (fun h' hn hs => h h' (F.set hn hs) (N.set hs)) (by show (scope.kind == .class || (scope.kind == .module && _)) = false; rw [hk]; rfl))
end
end Mine
namespace Mine
section
variable {M : Model} {A : Around} {E : Value → Shared → Prop} {s : Shared} {h₀ : Heap} {L f : Addr} {m : Str → Option Value} {qual : Str} {scope : Scope} {cdv : Value} {x : Str} {pos : Pos} {v : Value} {Q : Value → Shared → Prop}
theorem ldC (F : Fr h₀ L s.heap m) (hv : m x = some v) (h : Q v s) (hk : scope.kind = .function := by rfl) (hx : (envOfC qual scope L f cdv).kindOf x = some .local := by rfl) (hd : (x == ("__debug__" : Str)) = false := by decide) :
    wpAny M A (eval (.Name x pos) (envOfC qual scope L f cdv)) Q E s := ldLoc F hv h hk hx hd
end
end Mine
namespace Mine
theorem fr_ins {h₀ h h' : Heap} {L a : Addr} {m : Str → Option Value} (F : Fr h₀ L h m) (hk : ∀ b o, b ≠ a → h.get? b = some o → h'.get? b = some o) (hL : a ≠ L) (ha : h₀.get? a = none) : Fr h₀ L h' m :=
  LCg.fr_but (I := a) F (fun b o hb e => hk b o (by simpa using hb) e) (Ne.symm hL) ha
theorem news_ins {h₀ h h' : Heap} {L a I : Addr} {oI o o' : Obj} {rest : List (Addr × Obj)} (N : News h₀ L h ((I, oI) :: (a, o) :: rest)) (hk : ∀ b o, b ≠ a → h.get? b = some o → h'.get? b = some o) (ho' : h'.get? a = some o') (hIa : I ≠ a) (hrest : ∀ p ∈ rest, p.1 ≠ a) :
    News h₀ L h' ((I, oI) :: (a, o') :: rest) := fun p hp => by
  rcases List.mem_cons.mp hp with rfl | hp
  · have z := N _ (List.Mem.head _)
    exact ⟨hk _ _ hIa z.1, z.2⟩
  · rcases List.mem_cons.mp hp with rfl | hp
    · have z := N _ (List.Mem.tail _ (List.Mem.head _))
      exact ⟨ho', z.2⟩
    · have z := N p (List.Mem.tail _ (List.Mem.tail _ hp))
      exact ⟨hk _ _ (hrest p hp) z.1, z.2⟩
end Mine
namespace Mine
theorem foldl_arr (vs : List Value) : ∀ (i : Nat) (acc : Array Value), List.foldl (fun x1 x2 => x1 ++ x2) acc (List.replicate i vs.toArray) = acc ++ (List.replicate i vs).flatten.toArray
  | 0, acc => by simp
  | i + 1, acc => by
    rw [List.replicate_succ, List.foldl_cons, foldl_arr vs i, List.replicate_succ, List.flatten_cons]
    apply Array.toList_inj.mp
    simp
theorem mulL {prog : Program} {w : World} {A : Around} {E : Value → Shared → Prop} {s : Shared} {h₀ : Heap} {L : Addr} {m : Str → Option Value} {news : List (Addr × Obj)} {l : Addr} {v0 : Value} {vs : List Value} {k i : Nat} {u : Tok} {Q : Value → Shared → Prop}
    (F : Fr h₀ L s.heap m) (N : News h₀ L s.heap news) (hm : (l, listOf (v0 :: vs).toArray k) ∈ news) (hi : i ≤ 1000) (hsz : vs.length ≤ 1000)
    (h : ∀ D h', Fr h₀ L h' m → News h₀ L h' ((D, listOf (List.replicate i (v0 :: vs)).flatten.toArray 0) :: news) → (∀ p ∈ news, p.1 < D) → Q (.ref D) { s with heap := h' }) :
    wpAny (model prog w) A (binaryOp .Mult (.ref l) (.int (i : Int) u)) Q E s := by
  have h63 : (2:Int)^63 = 9223372036854775808 := by decide
  refine mul_list F N (N _ hm).1 (by omega) (by omega) ?_ fun h' F' N' => h _ h' F' ?_ fun p hp => Heap.lt_size (N p hp).1
  · rw [List.size_toArray, Int.toNat_natCast, List.length_cons]
    have := Nat.mul_le_mul (show vs.length + 1 ≤ 1001 by omega) hi
    have h24 : 2 ^ 24 = 16777216 := by decide
    omega
  · rw [Int.toNat_natCast, if_neg (by simp), foldl_arr, Array.empty_append] at N'
    exact N'
theorem strs_append {a b : List Value} {x y : List Str} (h1 : StrsAre a x) (h2 : StrsAre b y) : StrsAre (a ++ b) (x ++ y) := by
  induction h1 with
  | nil => exact h2
  | cons y t _ ih => exact .cons y t ih
theorem strs_rep {vs : List Value} {xs : List Str} (h : StrsAre vs xs) : ∀ i, StrsAre (List.replicate i vs).flatten (List.replicate i xs).flatten
  | 0 => .nil
  | i + 1 => by rw [List.replicate_succ, List.replicate_succ, List.flatten_cons, List.flatten_cons]; exact strs_append h (strs_rep h i)
end Mine
namespace Mine
theorem neSame {prog : Program} {w : World} {A : Around} {E : Value → Shared → Prop} {s : Shared} {x : Str} {t u : Tok} {Q : Value → Shared → Prop} (h : Q (.bool false) s) : wpAny (model prog w) A (compareOp .NotEq (.str x t) (.str x u)) Q E s := by
  refine P.ne_str ?_
  simpa using h
/-- a new object of a callee's onto the ledger -/
theorem news_new {h₀ h h' : Heap} {L d : Addr} {m : Str → Option Value} {news : List (Addr × Obj)} {its : Array Value} {n : Nat} (F : Fr h₀ L h m) (N : News h₀ L h news) (k : ∀ b o, h.get? b = some o → h'.get? b = some o) (hd : h'.get? d = some (listOf its n)) (hn : h.get? d = none) : News h₀ L h' ((d, listOf its n) :: news) := by
  refine News.more (F.keeps k) (N.grown k) hd (fun es n => by simp) ?_
  cases e : h₀.get? d with
  | none => rfl
  | some o => rw [F.keep _ _ e] at hn; cases hn
theorem news_lt {h₀ h : Heap} {L d : Addr} {news : List (Addr × Obj)} (N : News h₀ L h news) (hn : h.get? d = none) : ∀ p ∈ news, p.1 ≠ d := fun p hp e => by
  have := (N p hp).1
  rw [e, hn] at this; cases this
theorem addL {prog : Program} {w : World} {A : Around} {E : Value → Shared → Prop} {s : Shared} {h₀ : Heap} {L : Addr} {m : Str → Option Value} {news : List (Addr × Obj)} {a b : Addr} {vs ws : List Value} {n1 n2 : Nat} {Q : Value → Shared → Prop}
    (F : Fr h₀ L s.heap m) (N : News h₀ L s.heap news) (h1 : (a, listOf vs.toArray n1) ∈ news) (h2 : (b, listOf ws.toArray n2) ∈ news) (hz : vs.length + ws.length ≤ 100000)
    (h : ∀ D h', Fr h₀ L h' m → News h₀ L h' ((D, listOf (vs ++ ws).toArray 0) :: news) → (∀ p ∈ news, p.1 < D) → Q (.ref D) { s with heap := h' }) :
    wpAny (model prog w) A (binaryOp .Add (.ref a) (.ref b)) Q E s :=
  add_lists F N ⟨_, (N _ h1).1, rfl, _, rfl⟩ ⟨_, (N _ h2).1, rfl, _, rfl⟩ (fun h' F' N' => h _ h' F' N' fun p hp => Heap.lt_size (N p hp).1) (by rw [sizeLine_eq]; omega)
theorem rep_len (vs : List Value) (i : Nat) : (List.replicate i vs).flatten.length = i * vs.length := by
  rw [List.length_flatten, List.map_replicate, List.sum_replicate_nat]
end Mine
namespace Mine
theorem storeC {M : Model} {A : Around} {E : Value → Shared → Prop} {s : Shared} {h₀ : Heap} {L f c : Addr} {m : Str → Option Value} {qual : Str} {scope : Scope} {cdv : Value} {x : Str} {v : Value} {v₀ : Option Value} {o : Obj} {pre : List (Addr × Obj)} {Q : Unit → Shared → Prop}
    (F : Fr h₀ L s.heap m) (N : News h₀ L s.heap (pre ++ [(c, o)])) (hpre : ∀ p ∈ pre, p.1 ≠ c) (hd : o.data = .cell v₀)
    (h : ∀ h' o', Fr h₀ L h' m → News h₀ L h' (pre ++ [(c, o')]) → o'.data = .cell (some v) → Q () { s with heap := h' })
    (hc : (envOfC qual scope L f cdv).cells.lookup x = some c := by rfl) (hk : scope.kind = .function := by rfl) (hx : (envOfC qual scope L f cdv).kindOf x = some .cell := by rfl) :
    wpAny M A (storeName (envOfC qual scope L f cdv) x v) Q E s :=
  stCN (own := pre) (rest := []) F N hc hd hpre (fun _ hp => nomatch hp) h hk hx
end Mine
end PGC

section PTOP02
open PySem PySem.W PyProof.Rows
namespace Mine
set_option maxRecDepth 100000
set_option maxHeartbeats 8000000
open_top hd for PySem.Challenge.rw_ph0062_02
end Mine
end PTOP02

section PC2a
open PySem PySem.W PyProof.Rows PySem.Calls
set_option maxRecDepth 100000
set_option maxHeartbeats 8000000
namespace Mine
local macro_rules | `(tactic| walk_at "eval Name") => `(tactic| (k_here; k_dflt (refine' ld ?k1 ?k2 ?_; (case k1 => k_asm); (case k2 => assumption); k_whole)))

local macro_rules | `(tactic| walk_at "go") => `(tactic| repeat' (first | (k_unfold; (try dsimp only)) | ((fail_if_success (with_reducible show wpAny _ _ (exec (Stmt.While _ _ _ _) _) _ _ _)); (fail_if_success (with_reducible show wpAny _ _ (exec (Stmt.For _ _ _ _ _) _) _ _ _)); (first | walk1 | (dsimp only; walk1)))))
def IntAt (m : Str → Option Value) (x : Str) (i : Int) : Prop := ∃ t, m x = some (.int i t)
theorem bisR_call {w : World} {A : Around} {s : Shared} {Q E : Value → Shared → Prop} {mean : ExcName → Option Value} {mg mb : Str → Option Value} {loose : List Str} {a : Addr} {vs : List Value} {ns : List Int} {x : Int} {tx tl : Tok}
   (X : (Mine.hd.heap_39 w.params).In s.heap) (T : Top Mine.hd.view_39 loose mean mg mb s.heap) (hh : A.handled = none) (hroom : A.depth < 900)
   (hl : s.heap.IsList a vs.toArray) (hi : IntsAre vs ns) (hlen : ns.length ≤ 1000) (hsort : ns.Pairwise (· ≤ ·))
   (hQ : ∀ t h' tk, (∀ b o, s.heap.get? b = some o → h'.get? b = some o) → Q (.int (ns.countP (fun y => decide (y ≤ x)) : Nat) t) { s with heap := h', toks := tk }) :
   wpAny (model PySem.Challenge.rw_ph0062_02.row.prog w) A (call (.ref 39) [.ref a, .int x tx, .int 0 tl, .none]) Q E s := by
  revert X; k_fill; intro X
  refine' enter (binds := [(Str.ofString "a", .ref a), (Str.ofString "x", .int x tx), (Str.ofString "lo", .int 0 tl), (Str.ofString "hi", .none), (Str.ofString "key", .none)]) X T (Nat.lt_trans hroom (by decide)) ?k1 ?k2 ?k3 ?k4 ?k5 ?_ ?k6 ?k7 ?k8
  case k1 => exact rfl
  case k2 => k_is
  case k3 => exact kp_binds X fun _ => rfl
  case k4 => exact locs rfl
  case k5 => decide
  case k6 => rfl
  case k7 => rfl
  case k8 => rfl
  intro L h₁ F N _
  k_fold
  walk_at "go"
  rename Fr _ _ _ _ => F2
  rename News _ _ _ _ => N2
  refine while_J (n := ns.length) (fun n m news => news = [] ∧ ∃ (lo hi : Nat), IntAt m (Str.ofString "lo") lo ∧ IntAt m (Str.ofString "hi") hi ∧ m (Str.ofString "a") = some (.ref a) ∧ m (Str.ofString "x") = some (.int x tx) ∧
    lo ≤ hi ∧ hi ≤ ns.length ∧ n = hi - lo ∧ (∀ i (h : i < ns.length), i < lo → ns[i] ≤ x) ∧ (∀ i (h : i < ns.length), hi ≤ i → x < ns[i])) F2 N2 ?_ ?_
  · refine ⟨rfl, 0, ns.length, ⟨_, rfl⟩, ⟨_, rfl⟩, rfl, rfl, Nat.zero_le _, Nat.le_refl _, rfl, ?_, ?_⟩
    · intro i h h0; omega
    · intro i h h0; omega
  · rintro n h tk m news ⟨rfl, lo, hi', ⟨tlo, e1⟩, ⟨thi, e2⟩, e3, e4, hle, hle2, rfl, hlo, hhi⟩ F3 N3
    clear F2 N2
    walk_at "go"
    · rename_i hlt _ _ hx _ F4 N4
      rw [mid_at] at hx F4
      rw [Int.toNat_natCast, getD_at (by omega)] at hx
      refine ⟨(lo + hi') / 2 - lo, _, _, _, _, by omega, rfl, F4, N4, rfl, lo, (lo + hi') / 2, ⟨_, e1⟩, ⟨_, rfl⟩, e3, e4, by omega, by omega, rfl, hlo, ?_⟩
      intro i h hi2
      exact Int.lt_of_lt_of_le hx (pw_le hsort _ h hi2)
    · rename_i hlt _ _ hx _ F4 N4
      rw [mid_at] at hx F4
      rw [Int.toNat_natCast, getD_at (by omega)] at hx
      refine ⟨hi' - ((lo + hi') / 2 + 1), _, _, _, _, by omega, rfl, F4, N4, rfl, (lo + hi') / 2 + 1, hi', ⟨_, rfl⟩, ⟨_, e2⟩, e3, e4, by omega, by omega, rfl, ?_, hhi⟩
      intro i h hi2
      exact Int.le_trans (pw_le hsort h (by omega) (by omega)) (Int.not_lt.mp hx)
    · have hc : ns.countP (fun y => decide (y ≤ x)) = lo := countP_at _ _ lo (by omega) (fun i h h2 => decide_eq_true (hlo i h h2)) (fun i h h2 => decide_eq_false (Int.not_le.mpr (hhi i h (by omega))))
      have z := hQ tlo h tk F3.keep
      rw [hc] at z
      exact z

theorem bisR2_call {w : World} {A : Around} {s : Shared} {Q E : Value → Shared → Prop} {mean : ExcName → Option Value} {mg mb : Str → Option Value} {loose : List Str} {a : Addr} {vs : List Value} {ns : List Int} {x : Int} {tx : Tok}
   (X : (Mine.hd.heap_39 w.params).In s.heap) (T : Top Mine.hd.view_39 loose mean mg mb s.heap) (hh : A.handled = none) (hroom : A.depth < 900)
   (hl : s.heap.IsList a vs.toArray) (hi : IntsAre vs ns) (hlen : ns.length ≤ 1000) (hsort : ns.Pairwise (· ≤ ·))
   (hQ : ∀ t h' tk, (∀ b o, s.heap.get? b = some o → h'.get? b = some o) → Q (.int (ns.countP (fun y => decide (y ≤ x)) : Nat) t) { s with heap := h', toks := tk }) :
   wpAny (model PySem.Challenge.rw_ph0062_02.row.prog w) A (call (.ref 39) [.ref a, .int x tx]) Q E s := by
  revert X; k_fill; intro X
  refine' enter X T (Nat.lt_trans hroom (by decide)) ?k1 ?k2 ?k3 ?k4 ?k5 ?_ ?k6 ?k7 ?k8
  case k1 => exact rfl
  case k2 => k_is
  case k3 => exact kp_binds X fun _ => rfl
  case k4 => exact locs rfl
  case k5 => decide
  case k6 => rfl
  case k7 => rfl
  case k8 => rfl
  intro L h₁ F N _
  k_fold
  walk_at "go"
  rename Fr _ _ _ _ => F2
  rename News _ _ _ _ => N2
  refine while_J (n := ns.length) (fun n m news => news = [] ∧ ∃ (lo hi : Nat), IntAt m (Str.ofString "lo") lo ∧ IntAt m (Str.ofString "hi") hi ∧ m (Str.ofString "a") = some (.ref a) ∧ m (Str.ofString "x") = some (.int x tx) ∧
    lo ≤ hi ∧ hi ≤ ns.length ∧ n = hi - lo ∧ (∀ i (h : i < ns.length), i < lo → ns[i] ≤ x) ∧ (∀ i (h : i < ns.length), hi ≤ i → x < ns[i])) F2 N2 ?_ ?_
  · refine ⟨rfl, 0, ns.length, ⟨_, rfl⟩, ⟨_, rfl⟩, rfl, rfl, Nat.zero_le _, Nat.le_refl _, rfl, ?_, ?_⟩
    · intro i h h0; omega
    · intro i h h0; omega
  · rintro n h tk m news ⟨rfl, lo, hi', ⟨tlo, e1⟩, ⟨thi, e2⟩, e3, e4, hle, hle2, rfl, hlo, hhi⟩ F3 N3
    clear F2 N2
    walk_at "go"
    · rename_i hlt _ _ hx _ F4 N4
      rw [mid_at] at hx F4
      rw [Int.toNat_natCast, getD_at (by omega)] at hx
      refine ⟨(lo + hi') / 2 - lo, _, _, _, _, by omega, rfl, F4, N4, rfl, lo, (lo + hi') / 2, ⟨_, e1⟩, ⟨_, rfl⟩, e3, e4, by omega, by omega, rfl, hlo, ?_⟩
      intro i h hi2
      exact Int.lt_of_lt_of_le hx (pw_le hsort _ h hi2)
    · rename_i hlt _ _ hx _ F4 N4
      rw [mid_at] at hx F4
      rw [Int.toNat_natCast, getD_at (by omega)] at hx
      refine ⟨hi' - ((lo + hi') / 2 + 1), _, _, _, _, by omega, rfl, F4, N4, rfl, (lo + hi') / 2 + 1, hi', ⟨_, rfl⟩, ⟨_, e2⟩, e3, e4, by omega, by omega, rfl, ?_, hhi⟩
      intro i h hi2
      exact Int.le_trans (pw_le hsort h (by omega) (by omega)) (Int.not_lt.mp hx)
    · have hc : ns.countP (fun y => decide (y ≤ x)) = lo := countP_at _ _ lo (by omega) (fun i h h2 => decide_eq_true (hlo i h h2)) (fun i h h2 => decide_eq_false (Int.not_le.mpr (hhi i h (by omega))))
      have z := hQ tlo h tk F3.keep
      rw [hc] at z
      exact z

theorem bisL_call {w : World} {A : Around} {s : Shared} {Q E : Value → Shared → Prop} {mean : ExcName → Option Value} {mg mb : Str → Option Value} {loose : List Str} {a : Addr} {vs : List Value} {ns : List Int} {x : Int} {tx : Tok}
   (X : (Mine.hd.heap_39 w.params).In s.heap) (T : Top Mine.hd.view_39 loose mean mg mb s.heap) (hh : A.handled = none) (hroom : A.depth < 900)
   (hl : s.heap.IsList a vs.toArray) (hi : IntsAre vs ns) (hlen : ns.length ≤ 1000) (hsort : ns.Pairwise (· ≤ ·))
   (hQ : ∀ t h' tk, (∀ b o, s.heap.get? b = some o → h'.get? b = some o) → Q (.int (ns.countP (fun y => decide (y < x)) : Nat) t) { s with heap := h', toks := tk }) :
   wpAny (model PySem.Challenge.rw_ph0062_02.row.prog w) A (call (.ref 48) [.ref a, .int x tx]) Q E s := by
  revert X; k_fill; intro X
  refine' enter X T (Nat.lt_trans hroom (by decide)) ?k1 ?k2 ?k3 ?k4 ?k5 ?_ ?k6 ?k7 ?k8
  case k1 => exact rfl
  case k2 => k_is
  case k3 => exact kp_binds X fun _ => rfl
  case k4 => exact locs rfl
  case k5 => decide
  case k6 => rfl
  case k7 => rfl
  case k8 => rfl
  intro L h₁ F N _
  k_fold
  walk_at "go"
  rename Fr _ _ _ _ => F2
  rename News _ _ _ _ => N2
  refine while_J (n := ns.length) (fun n m news => news = [] ∧ ∃ (lo hi : Nat), IntAt m (Str.ofString "lo") lo ∧ IntAt m (Str.ofString "hi") hi ∧ m (Str.ofString "a") = some (.ref a) ∧ m (Str.ofString "x") = some (.int x tx) ∧
    lo ≤ hi ∧ hi ≤ ns.length ∧ n = hi - lo ∧ (∀ i (h : i < ns.length), i < lo → ns[i] < x) ∧ (∀ i (h : i < ns.length), hi ≤ i → x ≤ ns[i])) F2 N2 ?_ ?_
  · refine ⟨rfl, 0, ns.length, ⟨_, rfl⟩, ⟨_, rfl⟩, rfl, rfl, Nat.zero_le _, Nat.le_refl _, rfl, ?_, ?_⟩
    · intro i h h0; omega
    · intro i h h0; omega
  · rintro n h tk m news ⟨rfl, lo, hi', ⟨tlo, e1⟩, ⟨thi, e2⟩, e3, e4, hle, hle2, rfl, hlo, hhi⟩ F3 N3
    clear F2 N2
    walk_at "go"
    · rename_i hlt _ _ hx _ F4 N4
      rw [mid_at] at hx F4
      rw [Int.toNat_natCast, getD_at (by omega)] at hx
      refine ⟨hi' - ((lo + hi') / 2 + 1), _, _, _, _, by omega, rfl, F4, N4, rfl, (lo + hi') / 2 + 1, hi', ⟨_, rfl⟩, ⟨_, e2⟩, e3, e4, by omega, by omega, rfl, ?_, hhi⟩
      intro i h hi2
      exact Int.lt_of_le_of_lt (pw_le hsort h (by omega) (by omega)) hx
    · rename_i hlt _ _ hx _ F4 N4
      rw [mid_at] at hx F4
      rw [Int.toNat_natCast, getD_at (by omega)] at hx
      refine ⟨(lo + hi') / 2 - lo, _, _, _, _, by omega, rfl, F4, N4, rfl, lo, (lo + hi') / 2, ⟨_, e1⟩, ⟨_, rfl⟩, e3, e4, by omega, by omega, rfl, hlo, ?_⟩
      intro i h hi2
      exact Int.le_trans (Int.not_lt.mp hx) (pw_le hsort _ h hi2)
    · have hc : ns.countP (fun y => decide (y < x)) = lo := countP_at _ _ lo (by omega) (fun i h h2 => decide_eq_true (hlo i h h2)) (fun i h h2 => decide_eq_false (Int.not_lt.mpr (hhi i h (by omega))))
      have z := hQ tlo h tk F3.keep
      rw [hc] at z
      exact z
end Mine
end PC2a

section PC2b
open PySem PySem.W PyProof.Rows PySem.Calls
set_option maxRecDepth 100000
set_option maxHeartbeats 8000000
namespace Mine
local macro_rules | `(tactic| walk_at "eval Name") => `(tactic| (k_here; k_dflt (refine' ld ?k1 ?k2 ?_; (case k1 => k_asm); (case k2 => assumption); k_whole)))
local macro_rules | `(tactic| walk_at "go") => `(tactic| repeat' (first | (k_unfold; (try dsimp only)) | ((fail_if_success (with_reducible show wpAny _ _ (exec (Stmt.While _ _ _ _) _) _ _ _)); (fail_if_success (with_reducible show wpAny _ _ (exec (Stmt.For _ _ _ _ _) _) _ _ _)); (fail_if_success (with_reducible show wpAny _ _ (call (Value.ref _) _ _) _ _ _)); (first | walk1 | (dsimp only; walk1)))))

theorem ins_call {w : World} {A : Around} {s : Shared} {Q E : Value → Shared → Prop} {mean : ExcName → Option Value} {mg mb : Str → Option Value} {loose : List Str} {b₀ : Heap} {a : Addr} {vs : List Value} {n : Nat} {ns : List Int} {x : Int} {tx : Tok}
   (X : (Mine.hd.heap_39 w.params).In b₀) (T : Top Mine.hd.view_39 loose mean mg mb b₀) (hb : ∀ b o, b₀.get? b = some o → s.heap.get? b = some o) (ha₀ : b₀.get? a = none) (ha : s.heap.get? a = some (listOf vs.toArray n))
   (hh : A.handled = none) (hroom : A.depth < 800)
   (hi : IntsAre vs ns) (hlen : ns.length ≤ 999) (hsort : ns.Pairwise (· ≤ ·))
   (hQ : ∀ h' tk, (∀ b o, b ≠ a → s.heap.get? b = some o → h'.get? b = some o) → h'.get? a = some (listOf (kl_ins vs (ns.countP (fun y => decide (y ≤ x)) : Nat) (.int x tx)).toArray (n + 1)) → Q .none { s with heap := h', toks := tk }) :
   wpAny (model PySem.Challenge.rw_ph0062_02.row.prog w) A (call (.ref 30) [.ref a, .int x tx]) Q E s := by
  revert X; k_fill; intro X
  refine' enterM X T hb ha₀ ha (Nat.lt_trans hroom (by decide)) ?k1 ?k2 ?k3 ?k4 ?k5 ?_ ?k6 ?k7 ?k8
  case k1 => exact rfl
  case k2 => k_is
  case k3 => exact kp_binds (X.keeps hb) fun _ => rfl
  case k4 => exact locs rfl
  case k5 => decide
  case k6 => rfl
  case k7 => rfl
  case k8 => rfl
  intro g L h₁ Xg Tg kg haL F N
  clear X T
  k_fold
  walk_at "go"
  have hl : h₁.IsList a vs.toArray := ⟨_, (N _ (List.Mem.head _)).1, rfl, n, rfl⟩
  refine bisR_call (Xg.keeps F.keep) (Tg.keeps F.keep) hh ?_ hl hi (by omega) hsort ?_
  · show A.depth + 1 < 900; omega
  · intro t h' tk' k'
    have F' := F.keeps k'
    have N' := N.grown k'
    clear F N hl
    dsimp only
    walk_at "go"
    rename Fr _ _ _ _ => F2
    rename News _ _ _ _ => N2
    have hlv : vs.length = ns.length := hi.length
    have hc : ns.countP (fun y => decide (y ≤ x)) ≤ ns.length := List.countP_le_length
    refine kl_insert (its := vs.toArray) (n := n) F2 N2 ?_ rfl (Upd.head (fun p hp => nomatch hp)) ?_ ?_
    · simp only [Builtin.List.listFitsIndex, Bool.and_eq_true, decide_eq_true_eq]
      have : (2:Int)^63 = 9223372036854775808 := by decide
      omega
    · rw [sizeLine_eq]; show vs.length ≤ _; omega
    · intro h'' F3 N3
      clear F2 N2
      dsimp only
      walk_at "go"
      exact hQ _ _ (fun b o hne e => F3.keep b o (kg b o hne e)) (N3 _ (List.Mem.head _)).1
end Mine
end PC2b

section PC2c
open PySem PySem.W PyProof.Rows PySem.Calls
set_option maxRecDepth 100000
set_option maxHeartbeats 8000000
namespace Mine
local macro_rules | `(tactic| walk_at "eval Name") => `(tactic| (k_here; k_dflt (refine' ld ?k1 ?k2 ?_; (case k1 => k_asm); (case k2 => assumption); k_whole)))
local macro_rules | `(tactic| walk_at "go") => `(tactic| repeat' (first | (k_unfold; (try dsimp only)) | ((fail_if_success (with_reducible show wpAny _ _ (exec (Stmt.While _ _ _ _) _) _ _ _)); (fail_if_success (with_reducible show wpAny _ _ (exec (Stmt.For _ _ _ _ _) _) _ _ _)); (fail_if_success (with_reducible show wpAny _ _ (call (Value.ref _) _ _) _ _ _)); (first | walk1 | (dsimp only; walk1)))))
def repl : Str → List Str → Str
  | t, p0 :: p1 :: r => repl (Txt.join p1 (Txt.split t p0)) r
  | t, _ => t
def okPairs : Str → List Str → Prop
  | t, p0 :: p1 :: r => (p0.length == 0) = false ∧ p1.length ≤ 64 ∧ t.length ≤ 1000 ∧ okPairs (Txt.join p1 (Txt.split t p0)) r
  | _, [_] => False
  | _, [] => True
theorem repl_call {w : World} {A : Around} {s : Shared} {Q E : Value → Shared → Prop} {mean : ExcName → Option Value} {mg mb : Str → Option Value} {loose : List Str} {x : Str} {tx : Tok} {vals : List Value} {ps : List Str}
   (X : (Mine.hd.heap_39 w.params).In s.heap) (T : Top Mine.hd.view_39 loose mean mg mb s.heap)
   (hh : A.handled = none) (hroom : A.depth < 800) (hps : StrsAre vals ps) (hlen : ps.length ≤ 100) (hok : okPairs x ps)
   (hQ : ∀ t h' tk, (∀ b o, s.heap.get? b = some o → h'.get? b = some o) → Q (.str (repl x ps) t) { s with heap := h', toks := tk }) :
   wpAny (model PySem.Challenge.rw_ph0062_02.row.prog w) A (call (.ref 21) (.str x tx :: vals)) Q E s := by
  revert X; k_fill; intro X
  refine' enterV (front := [(Str.ofString "text", .str x tx)]) (va := Str.ofString "pairs") (vs := vals) X T (Nat.lt_trans hroom (by decide)) ?k1 ?k2 ?k3 ?kz ?k4 ?k5 ?_ ?k6 ?k7 ?k8
  case k1 => exact rfl
  case k2 => k_is
  case k3 =>
    unfold bindArgs
    simp only [Option.isNone_some, Bool.and_false, Bool.false_eq_true, if_false]
    rfl
  case kz => rw [sizeLine_eq, hps.length]; omega
  case k4 => exact fun t => locs rfl
  case k5 => decide
  case k6 => rfl
  case k7 => rfl
  case k8 => rfl
  intro P L h₁ F N
  k_fold
  walk_at "go"
  refine while_J (n := ps.length) (fun n m news => ∃ (t : Str) (u : Tok) (P : Addr) (vals' : List Value) (ps' : List Str), n = ps'.length ∧ StrsAre vals' ps' ∧ m (Str.ofString "text") = some (.str t u) ∧ m (Str.ofString "pairs") = some (.ref P) ∧
     news = [(P, ({ cls := .type "tuple", data := .seq vals'.toArray } : Obj))] ∧ repl t ps' = repl x ps ∧ ps'.length ≤ 100 ∧ okPairs t ps') F N ⟨x, tx, P, vals, ps, rfl, hps, rfl, rfl, rfl, rfl, hlen, hok⟩ ?_
  rintro n h tk m news ⟨t, u, P', vals', ps', rfl, hv, e1, e2, rfl, hrepl, hlen', hok'⟩ F3 N3
  clear F N
  cases hv with
  | nil =>
    walk_at "go"
    have z := hQ u h tk F3.keep
    rw [← hrepl] at z
    exact z
  | cons p0 t0 hv =>
    cases hv with
    | nil => exact hok'.elim
    | @cons p1 t1 vals2 ps2 hv =>
      obtain ⟨hp0, hp1, htl, hok2⟩ := hok'
      have hl2 : vals2.length = ps2.length := hv.length
      walk_at "go"
      refine ktl_truthyK N3 (List.Mem.head _) (by simp only [List.length_cons] at hlen' ⊢; omega) ?_
      simp only [List.isEmpty_cons, Bool.not_false, if_true]
      walk_at "go"
      refine tsub1 N3 (List.Mem.head _) ?_
      walk_at "go"
      refine tsub0 N3 (List.Mem.head _) ?_
      walk_at "go"
      rename_i l h2 tk2 el hS hP hIs F5 N5
      have hln : l.length ≤ t.length + 2 := by
        have e := congrArg List.length el
        have := split_len t p0
        simp only [List.length_map] at e
        omega
      refine join_listC hIs hS hp1 ?_ ?_
      · have := sum_le _ hP
        simp only [List.length_map] at this ⊢
        have : l.length * t.length ≤ 1002 * 1000 := Nat.mul_le_mul (by omega) htl
        omega
      intro t' k'
      rw [el]
      dsimp only
      walk_at "go"
      rename Fr _ _ _ _ => F6
      rename News _ _ _ _ => N6
      have hl3 : (Value.str p0 t0 :: Value.str p1 t1 :: vals2).toArray.size ≤ 100 := by
        simp only [List.length_cons] at hlen'
        simp only [List.size_toArray, List.length_cons]
        omega
      refine slice_tuple_from (a := 2) F6 N6 ⟨_, (N6 _ (List.Mem.tail _ (List.Mem.head _))).1, rfl, _, rfl⟩ (by decide) (by simp) ?_ (hsz := by rw [sizeLine_eq]; omega)
      intro h7 F7 N7
      dsimp only at F7 N7 ⊢
      clear F6 N6
      walk_at "go"
      rename Fr _ _ _ _ => F8
      rename News _ _ _ _ => N8
      refine ⟨ps2.length, _, _, _, _, by simp only [List.length_cons]; omega, rfl, F8, fun p hp => N8 p (List.mem_cons.mpr (.inl (List.mem_singleton.mp hp))), _, _, _, vals2, ps2, rfl, hv, rfl, rfl, rfl, ?_, ?_, hok2⟩
      · exact hrepl
      · simp only [List.length_cons] at hlen'; omega
end Mine
end PC2c

section PC2d
open PySem PySem.W PyProof.Rows PySem.Calls
set_option maxRecDepth 100000
set_option maxHeartbeats 8000000
namespace Mine
local macro_rules | `(tactic| walk_at "eval Name") => `(tactic| (k_here; k_dflt (refine' ld ?k1 ?k2 ?_; (case k1 => k_asm); (case k2 => assumption); k_whole)))
local macro_rules | `(tactic| walk_at "go") => `(tactic| repeat' (first | (k_unfold; (try dsimp only)) | ((fail_if_success (with_reducible show wpAny _ _ (exec (Stmt.While _ _ _ _) _) _ _ _)); (fail_if_success (with_reducible show wpAny _ _ (exec (Stmt.For _ _ _ _ _) _) _ _ _)); (fail_if_success (with_reducible show wpAny _ _ (call (Value.ref _) _ _) _ _ _)); (first | walk1 | (dsimp only; walk1)))))

def outStep (p : Str × Int) (n : Int) : Str × Int := (p.1 ++ Txt.mul (Str.ofString "r") (n - p.2) ++ Str.ofString "u", n)
def outline (ns : List Int) (wide : Int) : Str := (ns.foldl outStep (Str.ofString "", 0)).1 ++ Txt.mul (Str.ofString "r") (wide - (ns.foldl outStep (Str.ofString "", 0)).2)
theorem ints_at {vs : List Value} {ns : List Int} (hi : IntsAre vs ns) {i : Nat} {v : Value} (h : vs.toArray[i]? = some v) : ∃ (t : Tok) (hlt : i < ns.length), v = .int ns[i] t := by
  have hlen := hi.length
  have h' : vs[i]? = some v := by simpa using h
  have hlt : i < vs.length := (List.getElem?_eq_some_iff.mp h').1
  have hlt' : i < ns.length := by omega
  obtain ⟨t, hx⟩ := hi.get i ns[i] (by simp [hlt'])
  rw [hx] at h'
  exact ⟨t, hlt', (Option.some.inj h').symm⟩
theorem take_snoc {α β : Type} (f : β → α → β) (b : β) {l : List α} {i : Nat} (h : i < l.length) : (l.take (i + 1)).foldl f b = f ((l.take i).foldl f b) l[i] := by
  rw [List.take_add_one, List.getElem?_eq_getElem h, List.foldl_append]; rfl

theorem outl_call {w : World} {A : Around} {s : Shared} {Q E : Value → Shared → Prop} {mean : ExcName → Option Value} {mg mb : Str → Option Value} {loose : List Str} {a : Addr} {vs : List Value} {ns : List Int} {wide : Int} {tw : Tok}
   (X : (Mine.hd.heap_39 w.params).In s.heap) (T : Top Mine.hd.view_39 loose mean mg mb s.heap)
   (hh : A.handled = none) (hroom : A.depth < 800)
   (hl : s.heap.IsList a vs.toArray) (hi : IntsAre vs ns) (hlen : ns.length ≤ 100) (hb : ∀ n ∈ ns, 0 ≤ n ∧ n ≤ 100) (hw : 0 ≤ wide ∧ wide ≤ 100)
   (hQ : ∀ t h' tk, (∀ b o, s.heap.get? b = some o → h'.get? b = some o) → Q (.str (outline ns wide) t) { s with heap := h', toks := tk }) :
   wpAny (model PySem.Challenge.rw_ph0062_02.row.prog w) A (call (.ref 55) [.ref a, .int wide tw]) Q E s := by
  revert X; k_fill; intro X
  refine' enter X T (Nat.lt_trans hroom (by decide)) ?k1 ?k2 ?k3 ?k4 ?k5 ?_ ?k6 ?k7 ?k8
  case k1 => exact rfl
  case k2 => k_is
  case k3 => exact BindsTo.of_eq rfl
  case k4 => exact locs rfl
  case k5 => decide
  case k6 => rfl
  case k7 => rfl
  case k8 => rfl
  intro L h₁ F N _
  k_fold
  walk_at "go"
  refine wpAny_For ?_
  walk_at "go"
  rename Fr _ _ _ _ => F2
  rename News _ _ _ _ => N2
  refine for_list (its := vs.toArray) hh (fun i m news => news = [] ∧ ∃ (acc : Str) (last : Int), (∃ t, m (Str.ofString "signs") = some (.str acc t)) ∧ IntAt m (Str.ofString "last") last ∧ m (Str.ofString "wide") = some (.int wide tw) ∧ (acc, last) = (ns.take i).foldl outStep (Str.ofString "", 0) ∧ 0 ≤ last ∧ last ≤ 100 ∧ acc.length ≤ 300 * i) (fun _ _ _ _ => .inl hl) F2 N2 ?_ ?_ ?_
  · exact ⟨rfl, _, _, ⟨_, rfl⟩, ⟨_, rfl⟩, rfl, rfl, by decide, by decide, by decide⟩
  · rintro i v oI h tk m news hv ⟨rfl, acc, last, ⟨ta, e1⟩, ⟨tl, e2⟩, e3, hacc, h0, h1, hal⟩ F3 N3 off
    obtain ⟨t, hlt, rfl⟩ := ints_at hi hv
    have hb2 := hb _ (List.getElem_mem hlt)
    clear F2 N2
    have hal2 : acc.length ≤ 30000 := by omega
    generalize hN : ns[i] = n at hb2
    walk_at "go"
    rename Fr _ _ _ _ => F4
    rename News _ _ _ _ => N4
    refine ⟨_, _, _, _, rfl, F4, N4, (fun _ hp => nomatch hp), rfl, _, n, ⟨_, rfl⟩, ⟨_, rfl⟩, e3, ?_, hb2.1, hb2.2, ?_⟩
    · rw [take_snoc _ _ hlt, ← hacc, hN]; rfl
    · have hu : (Str.ofString "u").length = 1 := by decide
      by_cases hc : n - last < 0
      · have := ‹n - last < 0 → _› hc
        omega
      · have := ‹0 ≤ n - last → _› (by omega)
        omega
  · rintro h tk m news ⟨rfl, acc, last, ⟨ta, e1⟩, ⟨tl, e2⟩, e3, hacc, h0, h1, hal⟩ F3 N3
    have hal2 : acc.length ≤ 30000 := by simp only [List.size_toArray, hi.length] at hal; omega
    walk_at "go"
    have hv : vs.toArray.size = ns.length := by simp [hi.length]
    rw [hv, List.take_length] at hacc
    have e : outline ns wide = acc ++ Txt.mul (Str.ofString "r") (wide - last) := by unfold outline; rw [← hacc]
    have z := fun t tk => hQ t h tk F3.keep
    simp only [e] at z
    exact z _ _
end Mine
end PC2d

section PC2e
open PySem PySem.W PyProof.Rows PySem.Calls
set_option maxRecDepth 100000
set_option maxHeartbeats 8000000
namespace Mine
local macro_rules | `(tactic| walk_at "eval Name") => `(tactic| (k_here; k_dflt (refine' ld ?k1 ?k2 ?_; (case k1 => k_asm); (case k2 => assumption); k_whole)))
local macro_rules | `(tactic| walk_at "go") => `(tactic| repeat' (first | (k_unfold; (try dsimp only)) | ((fail_if_success (with_reducible show wpAny _ _ (exec (Stmt.While _ _ _ _) _) _ _ _)); (fail_if_success (with_reducible show wpAny _ _ (exec (Stmt.For _ _ _ _ _) _) _ _ _)); (fail_if_success (with_reducible show wpAny _ _ (call (Value.ref _) _ _) _ _ _)); (fail_if_success (with_reducible show wpAny _ _ (pyIter _) _ _ _)); (first | walk1 | (dsimp only; walk1)))))

theorem rng_size (n : Nat) : Builtin.Range.rangeSize 0 (n : Int) 1 = (n : Int) := by
  rw [rangeSize_nat]; omega
theorem fitsL {i : Int} (h1 : -100000 ≤ i) (h2 : i ≤ 100000) : Builtin.Range.rangeFitsLong i = true := by
  have h63 : (2:Int)^63 = 9223372036854775808 := by decide
  exact Bool.and_eq_true_iff.mpr ⟨decide_eq_true (by omega), decide_eq_true (by omega)⟩
theorem rng_small (n : Nat) (h : n ≤ 100000) : Builtin.Range.small 0 (n : Int) 1 = true := by
  unfold Builtin.Range.small
  rw [rng_size n, fitsL (i := 0) (by decide) (by decide), fitsL (i := (n : Int)) (by omega) (by omega), fitsL (i := 1) (by decide) (by decide), if_pos (by decide), fitsL (i := (n : Int) + (1 - 1)) (by omega) (by omega)]
  simp
theorem app_I {prog : Program} {w : World} {A : Around} {E : Value → Shared → Prop} {s : Shared} {h₀ : Heap} {L : Addr} {m : Str → Option Value} {I d : Addr} {oI : Obj} {vs : List Value} {n : Nat} {x : Value} {Q : Value → Shared → Prop}
    (F : Fr h₀ L s.heap m) (N : News h₀ L s.heap [(I, oI), (d, listOf vs.toArray n)]) (hne : d ≠ I) (hz : vs.length ≤ 1000)
    (h : ∀ h', Fr h₀ L h' m → News h₀ L h' [(I, oI), (d, listOf (vs ++ [x]).toArray (n + 1))] → Q .none { s with heap := h' }) :
    wpAny (model prog w) A (call (.builtin "list.append") [.ref d, x]) Q E s := by
  refine append_K F N (Upd.tail (Ne.symm hne) (Upd.head (fun p hp => nomatch hp))) (fun h' F' N' => h h' F' ?_) (by rw [List.size_toArray, sizeLine_eq]; omega)
  rw [List.push_toArray] at N'
  exact N'
def clessAt (ns : List Int) (k : Nat) : Int := if 0 < ns.getD k 0 ∧ ns.countP (fun y => decide (y < ns.getD k 0)) = k then ns.getD k 0 - 1 else ns.getD k 0
def cless (ns : List Int) : List Int := (List.range ns.length).map (clessAt ns)
theorem cless_call {w : World} {A : Around} {s : Shared} {Q E : Value → Shared → Prop} {mean : ExcName → Option Value} {mg mb : Str → Option Value} {loose : List Str} {a : Addr} {vs : List Value} {ns : List Int}
   (X : (Mine.hd.heap_39 w.params).In s.heap) (T : Top Mine.hd.view_39 loose mean mg mb s.heap)
   (hh : A.handled = none) (hroom : A.depth < 800)
   (hl : s.heap.IsList a vs.toArray) (hi : IntsAre vs ns) (hlen : ns.length ≤ 100) (hsort : ns.Pairwise (· ≤ ·))
   (hQ : ∀ d vs' n h' tk, (∀ b o, s.heap.get? b = some o → h'.get? b = some o) → h'.get? d = some (listOf vs'.toArray n) → s.heap.get? d = none → IntsAre vs' (cless ns) → Q (.ref d) { s with heap := h', toks := tk }) :
   wpAny (model PySem.Challenge.rw_ph0062_02.row.prog w) A (call (.ref 67) [.ref a]) Q E s := by
  revert X; k_fill; intro X
  refine' enter X T (Nat.lt_trans hroom (by decide)) ?k1 ?k2 ?k3 ?k4 ?k5 ?_ ?k6 ?k7 ?k8
  case k1 => exact rfl
  case k2 => k_is
  case k3 => exact BindsTo.of_eq rfl
  case k4 => exact locs rfl
  case k5 => decide
  case k6 => rfl
  case k7 => rfl
  case k8 => rfl
  intro L h₁ F N _
  k_fold
  walk_at "go"
  refine wpAny_For ?_
  walk_at "go"
  rename_i d _ _ _ _ _ h3 tk4 _ _ _ hr F2 N2 k3
  refine for_range (n := ns.length) hh (fun i m news => ∃ vs' n, news = [(d, listOf vs'.toArray n)] ∧ IntsAre vs' ((List.range i).map (clessAt ns)) ∧ m (Str.ofString "left") = some (.ref d) ∧ m (Str.ofString "sizes") = some (.ref a)) hr ?_ ?_ F2 N2 ?_ ?_ ?_
  · exact rng_small ns.length (by omega)
  · exact rng_size ns.length
  · exact ⟨[], 0, rfl, .nil, rfl, rfl⟩
  · rintro i t oI h tk m news hlt ⟨vs', n, rfl, hvs, e1, e2⟩ F3 N3 off
    have hd' := neN (off _ (List.Mem.head _))
    have e0 : (0:Int) + (i:Int) = (i : Int) := by omega
    rw [e0]
    clear F2 N2 k3
    have hl2 := hvs.length
    simp only [List.length_map, List.length_range] at hl2
    walk_at "go"
    · rename_i hpos _
      rename Fr _ _ _ _ => F4
      rename News _ _ _ _ => N4
      rw [Int.toNat_natCast] at hpos
      refine bisL_call (X.keeps F4.keep) (T.keeps F4.keep) hh ?_ (hl.at fun o e => F4.keep _ _ e) hi (by omega) hsort ?_
      · show A.depth + 1 < 900; omega
      intro t5 h5 tk5 k5
      have F5 := F4.keeps k5
      have N5 := N4.grown k5
      clear F4 N4
      dsimp only
      walk_at "go"
      · simp only [Int.toNat_natCast] at *
        rename Fr _ _ _ _ => F6
        rename News _ _ _ _ => N6
        refine app_I F6 N6 hd' (by omega) ?_
        intro h7 F7 N7
        clear F6 N6
        dsimp only
        walk_at "go"
        refine ⟨_, _, _, _, rfl, F7, N7, (fun p hp => by rw [List.mem_singleton.mp hp]; exact hd'), _, _, rfl, ?_, e1, e2⟩
        rw [List.range_succ, List.map_append]
        refine IntsAre.append hvs ?_
        have key : clessAt ns i = ns.getD i 0 - 1 := by
          unfold clessAt
          rw [if_pos (by omega)]
        rw [List.map_singleton, key]
        exact .cons _ _ .nil
      · simp only [Int.toNat_natCast] at *
        rename Fr _ _ _ _ => F6
        rename News _ _ _ _ => N6
        refine app_I F6 N6 hd' (by omega) ?_
        intro h7 F7 N7
        clear F6 N6
        dsimp only
        walk_at "go"
        refine ⟨_, _, _, _, rfl, F7, N7, (fun p hp => by rw [List.mem_singleton.mp hp]; exact hd'), _, _, rfl, ?_, e1, e2⟩
        rw [List.range_succ, List.map_append]
        refine IntsAre.append hvs ?_
        have key : clessAt ns i = ns.getD i 0 := by
          unfold clessAt
          rw [if_neg (by omega)]
        rw [List.map_singleton, key]
        exact .cons _ _ .nil
    · simp only [Int.toNat_natCast] at *
      rename Fr _ _ _ _ => F6
      rename News _ _ _ _ => N6
      refine app_I F6 N6 hd' (by omega) ?_
      intro h7 F7 N7
      clear F6 N6
      dsimp only
      walk_at "go"
      refine ⟨_, _, _, _, rfl, F7, N7, (fun p hp => by rw [List.mem_singleton.mp hp]; exact hd'), _, _, rfl, ?_, e1, e2⟩
      rw [List.range_succ, List.map_append]
      refine IntsAre.append hvs ?_
      have key : clessAt ns i = ns.getD i 0 := by
        unfold clessAt
        rw [if_neg (by omega)]
      rw [List.map_singleton, key]
      exact .cons _ _ .nil
  · rintro h tk m news ⟨vs', n, rfl, hvs, e1, e2⟩ F3 N3
    walk_at "go"
    exact hQ _ _ _ _ _ F3.keep (N3 _ (List.Mem.head _)).1 (N3 _ (List.Mem.head _)).2.2 hvs
def fillAt (ns : List Int) (wide : Int) (k : Nat) : Int := if ns.getD k 0 < wide ∧ ns.countP (fun y => decide (y ≤ ns.getD k 0)) = k + 1 then ns.getD k 0 + 1 else ns.getD k 0
def fill (ns : List Int) (wide : Int) : List Int := (List.range ns.length).map (fillAt ns wide)
theorem fill_call {w : World} {A : Around} {s : Shared} {Q E : Value → Shared → Prop} {mean : ExcName → Option Value} {mg mb : Str → Option Value} {loose : List Str} {a : Addr} {vs : List Value} {ns : List Int} {wide : Int} {tw : Tok}
   (X : (Mine.hd.heap_39 w.params).In s.heap) (T : Top Mine.hd.view_39 loose mean mg mb s.heap)
   (hh : A.handled = none) (hroom : A.depth < 800)
   (hl : s.heap.IsList a vs.toArray) (hi : IntsAre vs ns) (hlen : ns.length ≤ 100) (hsort : ns.Pairwise (· ≤ ·))
   (hQ : ∀ d vs' n h' tk, (∀ b o, s.heap.get? b = some o → h'.get? b = some o) → h'.get? d = some (listOf vs'.toArray n) → s.heap.get? d = none → IntsAre vs' (fill ns wide) → Q (.ref d) { s with heap := h', toks := tk }) :
   wpAny (model PySem.Challenge.rw_ph0062_02.row.prog w) A (call (.ref 74) [.ref a, .int wide tw]) Q E s := by
  revert X; k_fill; intro X
  refine' enter X T (Nat.lt_trans hroom (by decide)) ?k1 ?k2 ?k3 ?k4 ?k5 ?_ ?k6 ?k7 ?k8
  case k1 => exact rfl
  case k2 => k_is
  case k3 => exact BindsTo.of_eq rfl
  case k4 => exact locs rfl
  case k5 => decide
  case k6 => rfl
  case k7 => rfl
  case k8 => rfl
  intro L h₁ F N _
  k_fold
  walk_at "go"
  refine wpAny_For ?_
  walk_at "go"
  rename_i d _ _ _ _ _ h3 tk4 _ _ _ hr F2 N2 k3
  refine for_range (n := ns.length) hh (fun i m news => ∃ vs' n, news = [(d, listOf vs'.toArray n)] ∧ IntsAre vs' ((List.range i).map (fillAt ns wide)) ∧ m (Str.ofString "full") = some (.ref d) ∧ m (Str.ofString "sizes") = some (.ref a) ∧ m (Str.ofString "wide") = some (.int wide tw)) hr ?_ ?_ F2 N2 ?_ ?_ ?_
  · exact rng_small ns.length (by omega)
  · exact rng_size ns.length
  · exact ⟨[], 0, rfl, .nil, rfl, rfl, rfl⟩
  · rintro i t oI h tk m news hlt ⟨vs', n, rfl, hvs, e1, e2, e3⟩ F3 N3 off
    have hd' := neN (off _ (List.Mem.head _))
    have e0 : (0:Int) + (i:Int) = (i : Int) := by omega
    rw [e0]
    clear F2 N2 k3
    have hl2 := hvs.length
    simp only [List.length_map, List.length_range] at hl2
    walk_at "go"
    · rename_i hpos _
      rename Fr _ _ _ _ => F4
      rename News _ _ _ _ => N4
      rw [Int.toNat_natCast] at hpos
      refine bisR2_call (X.keeps F4.keep) (T.keeps F4.keep) hh ?_ (hl.at fun o e => F4.keep _ _ e) hi (by omega) hsort ?_
      · show A.depth + 1 < 900; omega
      intro t5 h5 tk5 k5
      have F5 := F4.keeps k5
      have N5 := N4.grown k5
      clear F4 N4
      dsimp only
      walk_at "go"
      · simp only [Int.toNat_natCast] at *
        rename Fr _ _ _ _ => F6
        rename News _ _ _ _ => N6
        refine app_I F6 N6 hd' (by omega) ?_
        intro h7 F7 N7
        clear F6 N6
        dsimp only
        walk_at "go"
        refine ⟨_, _, _, _, rfl, F7, N7, (fun p hp => by rw [List.mem_singleton.mp hp]; exact hd'), _, _, rfl, ?_, e1, e2, e3⟩
        rw [List.range_succ, List.map_append]
        refine IntsAre.append hvs ?_
        have key : fillAt ns wide i = ns.getD i 0 + 1 := by
          unfold fillAt
          rw [if_pos (by omega)]
        rw [List.map_singleton, key]
        exact .cons _ _ .nil
      · simp only [Int.toNat_natCast] at *
        rename Fr _ _ _ _ => F6
        rename News _ _ _ _ => N6
        refine app_I F6 N6 hd' (by omega) ?_
        intro h7 F7 N7
        clear F6 N6
        dsimp only
        walk_at "go"
        refine ⟨_, _, _, _, rfl, F7, N7, (fun p hp => by rw [List.mem_singleton.mp hp]; exact hd'), _, _, rfl, ?_, e1, e2, e3⟩
        rw [List.range_succ, List.map_append]
        refine IntsAre.append hvs ?_
        have key : fillAt ns wide i = ns.getD i 0 := by
          unfold fillAt
          rw [if_neg (by omega)]
        rw [List.map_singleton, key]
        exact .cons _ _ .nil
    · simp only [Int.toNat_natCast] at *
      rename Fr _ _ _ _ => F6
      rename News _ _ _ _ => N6
      refine app_I F6 N6 hd' (by omega) ?_
      intro h7 F7 N7
      clear F6 N6
      dsimp only
      walk_at "go"
      refine ⟨_, _, _, _, rfl, F7, N7, (fun p hp => by rw [List.mem_singleton.mp hp]; exact hd'), _, _, rfl, ?_, e1, e2, e3⟩
      rw [List.range_succ, List.map_append]
      refine IntsAre.append hvs ?_
      have key : fillAt ns wide i = ns.getD i 0 := by
        unfold fillAt
        rw [if_neg (by omega)]
      rw [List.map_singleton, key]
      exact .cons _ _ .nil
  · rintro h tk m news ⟨vs', n, rfl, hvs, e1, e2, e3⟩ F3 N3
    walk_at "go"
    exact hQ _ _ _ _ _ F3.keep (N3 _ (List.Mem.head _)).1 (N3 _ (List.Mem.head _)).2.2 hvs
end Mine
end PC2e

section PC2f
open PySem PySem.W PyProof.Rows PySem.Calls
set_option maxRecDepth 100000
set_option maxHeartbeats 8000000
namespace Mine
local macro_rules | `(tactic| walk_at "eval Name") => `(tactic| (k_here; k_dflt (refine' ld ?k1 ?k2 ?_; (case k1 => k_asm); (case k2 => assumption); k_whole)))
local macro_rules | `(tactic| walk_at "go") => `(tactic| repeat' (first | (k_unfold; (try dsimp only)) | ((fail_if_success (with_reducible show wpAny _ _ (exec (Stmt.While _ _ _ _) _) _ _ _)); (fail_if_success (with_reducible show wpAny _ _ (exec (Stmt.For _ _ _ _ _) _) _ _ _)); (fail_if_success (with_reducible show wpAny _ _ (call (Value.ref _) _ _) _ _ _)); (fail_if_success (with_reducible show wpAny _ _ (pyIter _) _ _ _)); (fail_if_success (with_reducible show wpAny _ _ (eval (PySem.Expr.ListComp _ _ _ _) _) _ _ _)); (first | walk1 | (dsimp only; walk1)))))

local macro_rules | `(tactic| walk_at "eval Name") => `(tactic| (k_here; (with_reducible show wpAny _ _ (eval (PySem.Expr.Name _ _) (compEnvC _ _ _ _)) _ _ _); k_dflt (first
  | (refine' cmL ?k1 ?k2 ?_; (case k1 => k_asm); (case k2 => first | exact rfl | assumption); k_whole)
  | (refine' cmC ?k1 ?k2 ?k3 ?k4 ?_; (case k4 => exact rfl); (case k1 => k_asm); (case k2 => assumption); (case k3 => assumption); k_whole)
  | (refine' cmK ?k1 ?k2 ?k3 ?k4 ?_; (case k1 => k_asm); (case k2 => k_asm); (case k3 => k_asm); (case k4 => k_is); k_whole)
  | (refine' cmB ?k1 ?k2 ?k3 ?k4 ?k5 ?k6 ?_; (case k1 => k_asm); (case k2 => k_asm); (case k3 => k_asm); (case k4 => k_is); (case k5 => boot_by_name); (case k6 => decide); k_whole))))
theorem rngd_size (n : Nat) : Builtin.Range.rangeSize (n : Int) 0 (-1) = (n : Int) := by
  unfold Builtin.Range.rangeSize
  rw [if_neg (by decide)]
  by_cases h : (n : Int) > 0
  · rw [if_pos h, show (- -1 : Int) = 1 from rfl, Int.ediv_one]; omega
  · rw [if_neg h]; omega
theorem rngd_small (n : Nat) (h : n ≤ 100000) : Builtin.Range.small (n : Int) 0 (-1) = true := by
  unfold Builtin.Range.small
  rw [rngd_size n, fitsL (i := 0) (by decide) (by decide), fitsL (i := (n : Int)) (by omega) (by omega), fitsL (i := -1) (by decide) (by decide), if_neg (by decide), fitsL (i := 0 + (-1 + 1)) (by decide) (by decide)]
  simp
def cols (ns : List Int) (wide : Nat) : List Int := (List.range wide).map fun (i : Nat) => (ns.length : Int) - (ns.countP (fun y => decide (y < (wide : Int) - i)) : Nat)
theorem cols_call {w : World} {A : Around} {s : Shared} {Q E : Value → Shared → Prop} {mean : ExcName → Option Value} {mg mb : Str → Option Value} {loose : List Str} {a : Addr} {vs : List Value} {ns : List Int} {wide : Nat} {tw : Tok}
   (X : (Mine.hd.heap_39 w.params).In s.heap) (T : Top Mine.hd.view_39 loose mean mg mb s.heap)
   (hh : A.handled = none) (hroom : A.depth < 800)
   (hl : s.heap.IsList a vs.toArray) (hi : IntsAre vs ns) (hlen : ns.length ≤ 100) (hsort : ns.Pairwise (· ≤ ·)) (hw : wide ≤ 100)
   (hQ : ∀ d vs' n h' tk, (∀ b o, s.heap.get? b = some o → h'.get? b = some o) → h'.get? d = some (listOf vs'.toArray n) → s.heap.get? d = none → IntsAre vs' (cols ns wide) → Q (.ref d) { s with heap := h', toks := tk }) :
   wpAny (model PySem.Challenge.rw_ph0062_02.row.prog w) A (call (.ref 60) [.ref a, .int wide tw]) Q E s := by
  revert X; k_fill; intro X
  refine' enterC (binds := [(Str.ofString "sizes", .ref a), (Str.ofString "wide", .int wide tw)]) X T (Nat.lt_trans hroom (by decide)) ?k1 ?k2 ?k3 ?k4 ?k5 ?_ ?k6 ?k7 ?k8
  case k1 => exact rfl
  case k2 => k_is
  case k3 => exact BindsTo.of_eq rfl
  case k4 => exact rfl
  case k5 => decide +kernel
  case k6 => rfl
  case k7 => rfl
  case k8 => rfl
  intro L h₁ tk cells F N Y
  k_cells Y
  rename_i oc dc
  have dc2 : oc.data = .cell (some (.ref a)) := dc
  clear dc
  k_unmd
  k_fold
  walk_at "go"
  refine comp_range (V := fun (x : Int) v => ∃ t, v = Value.int x t) (f := fun i => some ((ns.length : Int) - (ns.countP (fun y => decide (y < (wide : Int) - i)) : Nat))) hh rfl (by decide) rfl (by decide) ?_
  walk_at "go"
  rename_i h2 tk2 _ _ _ hr F2 N2 k2
  refine ⟨_, _, _, _, _, _, _, wide, rfl, hr, ?_, ?_, by omega, ?_, ?_⟩
  · exact rngd_small wide (by omega)
  · exact rngd_size wide
  · rintro i v C I oI D oD h3 tk3 m3 ⟨hi3, t3, rfl⟩ F3 N3
    have X2 := X.keeps F2.keep
    have T2 := T.keeps F2.keep
    have hl2 := hl.at fun o e => F2.keep _ _ e
    have hcell := (N2 _ (List.Mem.head _)).1
    clear F2 N2 k2 hr X T
    dsimp only at F3 N3 hcell ⊢
    refine cmS F3 N3 ?_
    intro h4 F4 N4
    clear F3 N3
    refine wpAny_tests_nil ?_
    rw [if_pos rfl]
    have ev : (wide : Int) + (i : Int) * -1 = (wide : Int) - i := by omega
    rw [ev] at F4
    dsimp only
    walk_at "go"
    refine bisL_call (X2.keeps F4.keep) (T2.keeps F4.keep) hh ?_ (hl2.at fun o e => F4.keep _ _ e) hi (by omega) hsort ?_
    · show A.depth + 1 < 900; omega
    intro t5 h5 tk5 k5
    have F5 := F4.keeps k5
    have N5 := N4.grown k5
    clear F4 N4
    dsimp only
    walk_at "go"
    exact ⟨⟨_, _, _, rfl, F5, N5⟩, _, rfl, _, rfl⟩
  · intro D h3 tk3 ys k3 kD kD0 hA
    have F3 := F2.keeps k3
    dsimp only at kD0 ⊢
    walk_at "go"
    refine hQ D ys ys.length h3 _ F3.keep kD ?_ ?_
    · cases e : s.heap.get? D with
      | none => rfl
      | some o => rw [F2.keep _ _ e] at kD0; cases kD0
    · have := hA.ints
      unfold cols
      rw [List.filterMap_eq_map'] at this
      exact this
end Mine
end PC2f

section PP2
open PySem PySem.W PyProof.Rows PySem.Calls
set_option maxRecDepth 10000
namespace Mine
def Gd (N : Nat) (W : Int) (l : List Int) : Prop := l.length = N ∧ l.Pairwise (· ≤ ·) ∧ ∀ x ∈ l, 0 ≤ x ∧ x ≤ W
def clN : Nat → List Int → List Int
  | 0, l => l
  | i + 1, l => cless (clN i l)
def offs (i : Nat) : List Str := (List.replicate i [Str.ofString "ru", Str.ofString "ur"]).flatten
def bcks (i : Nat) : List Str := (List.replicate i [Str.ofString "ur", Str.ofString "ru"]).flatten
theorem offs_len (i : Nat) : (offs i).length = 2 * i := by
  unfold offs; rw [List.length_flatten, List.map_replicate, List.sum_replicate_nat]; simp; omega
theorem bcks_len (i : Nat) : (bcks i).length = 2 * i := by
  unfold bcks; rw [List.length_flatten, List.map_replicate, List.sum_replicate_nat]; simp; omega
theorem offs_succ (i : Nat) : offs (i + 1) = Str.ofString "ru" :: Str.ofString "ur" :: offs i := by
  unfold offs; rw [List.replicate_succ, List.flatten_cons]; rfl
theorem bcks_succ (i : Nat) : bcks (i + 1) = Str.ofString "ur" :: Str.ofString "ru" :: bcks i := by
  unfold bcks; rw [List.replicate_succ, List.flatten_cons]; rfl

/-! lengths -/
theorem repL_length (p q : List Nat) (hq : q.length = p.length) (hp : 1 ≤ p.length) : ∀ (l : List Nat) (k : Nat), (repL p q k l).length = l.length - k
  | [], k => by cases k <;> (unfold repL; simp)
  | c :: t, k + 1 => by
    conv => lhs; unfold repL
    rw [repL_length p q hq hp t k]; simp only [List.length_cons]; omega
  | c :: t, 0 => by
    conv => lhs; unfold repL
    split
    · rename_i h
      have h2 := congrArg List.length ((pre_iff _ _).mp h)
      rw [List.length_take, List.length_cons] at h2
      rw [List.length_append, repL_length p q hq hp t, List.length_cons]; omega
    · rw [List.length_cons, repL_length p q hq hp t 0, List.length_cons]; omega
theorem one_length (t p q : Str) (hq : q.length = p.length) (hp : 1 ≤ p.length) (hk : PySem.Builtin.Str.strKind p = 1) : (Txt.join q (Txt.split t p)).length = t.length := by
  rw [← toL_length, repl_toL t p q hp hk, repL_length _ _ (by rw [toL_length, toL_length, hq]) (by rw [toL_length]; exact hp), toL_length]; omega
/-- pairs of texts of one length -/
inductive Same : List Str → Prop
  | nil : Same []
  | cons {p q r} : q.length = p.length → 1 ≤ p.length → p.length ≤ 64 → PySem.Builtin.Str.strKind p = 1 → Same r → Same (p :: q :: r)
theorem Same.append {a b : List Str} (h : Same a) (hb : Same b) : Same (a ++ b) := by
  induction h with
  | nil => exact hb
  | cons h1 h2 h3 h4 _ ih => exact .cons h1 h2 h3 h4 ih
theorem Same.ok {ps : List Str} (h : Same ps) : ∀ {t : Str}, t.length ≤ 1000 → okPairs t ps := by
  induction h with
  | nil => intro t _; exact trivial
  | @cons p q r h1 h2 h3 h4 _ ih =>
    intro t ht
    exact ⟨by rw [beq_eq_false_iff_ne]; omega, by omega, ht, ih (by rw [one_length t p q h1 h2 h4]; exact ht)⟩
theorem Same.len {ps : List Str} (h : Same ps) : ∀ t : Str, (repl t ps).length = t.length := by
  induction h with
  | nil => intro t; unfold repl; rfl
  | @cons p q r h1 h2 h3 h4 _ ih =>
    intro t
    show (repl (Txt.join q (Txt.split t p)) r).length = _
    rw [ih, one_length t p q h1 h2 h4]
theorem same_offs : ∀ i, Same (offs i)
  | 0 => .nil
  | i + 1 => by rw [offs_succ]; exact .cons (by decide) (by decide) (by decide) (by decide +kernel) (same_offs i)
theorem same_bcks : ∀ i, Same (bcks i)
  | 0 => .nil
  | i + 1 => by rw [bcks_succ]; exact .cons (by decide) (by decide) (by decide) (by decide +kernel) (same_bcks i)
theorem same_swap : Same [Str.ofString "r", Str.ofString "!", Str.ofString "u", Str.ofString "r", Str.ofString "!", Str.ofString "u"] :=
  .cons (by decide) (by decide) (by decide) (by decide +kernel) (.cons (by decide) (by decide) (by decide) (by decide +kernel) (.cons (by decide) (by decide) (by decide) (by decide +kernel) .nil))
theorem ok_offs {t : Str} (h : t.length ≤ 1000) (i : Nat) : okPairs t (offs i) := (same_offs i).ok h
theorem ok_three {t : Str} (h : t.length ≤ 1000) (i : Nat) : okPairs t (offs i ++ bcks i ++ offs i) := (((same_offs i).append (same_bcks i)).append (same_offs i)).ok h
theorem ok_one {t : Str} (h : t.length ≤ 1000) : okPairs t [Str.ofString "ur", Str.ofString "ru"] := (same_bcks 1).ok h
theorem ok_swap {t : Str} (h : t.length ≤ 1000) : okPairs t [Str.ofString "r", Str.ofString "!", Str.ofString "u", Str.ofString "r", Str.ofString "!", Str.ofString "u"] := same_swap.ok h
theorem repl_append {a : List Str} (h : Same a) : ∀ (b : List Str) (t : Str), repl t (a ++ b) = repl (repl t a) b := by
  induction h with
  | nil => intro b t; show repl t b = repl (repl t []) b; congr 1
  | @cons p q r h1 h2 h3 h4 _ ih =>
    intro b t
    show repl (Txt.join q (Txt.split t p)) (r ++ b) = repl (repl (Txt.join q (Txt.split t p)) r) b
    exact ih b _

/-! shapes -/
theorem ch_of {W : Int} : ∀ {l : List Int} {p : Int}, l.Pairwise (· ≤ ·) → (∀ x ∈ l, p ≤ x ∧ x ≤ W) → p ≤ W → Ch W p l
  | [], _, _, _, h => h
  | n :: t, p, hs, hb, _ => by
    have hs' := List.pairwise_cons.mp hs
    have hn := hb n List.mem_cons_self
    exact ⟨hn.1, ch_of hs'.2 (fun x hx => ⟨hs'.1 x hx, (hb x (List.mem_cons_of_mem _ hx)).2⟩) hn.2⟩
theorem Gd.ch {N W : Nat} {l : List Int} (h : Gd N W l) : Ch W 0 l := ch_of h.2.1 h.2.2 (by omega)
theorem ch_sorted {W : Int} : ∀ {l : List Int} {p : Int}, Ch W p l → l.Pairwise (· ≤ ·)
  | [], _, _ => .nil
  | _ :: _, _, h => List.pairwise_cons.mpr ⟨fun x hx => (ch_all h.2 x hx).1, ch_sorted h.2⟩
theorem gd_of {W : Int} {l : List Int} {N : Nat} (h : Ch W 0 l) (hl : l.length = N) : Gd N W l := ⟨hl, ch_sorted h, ch_all h⟩

theorem clM_get : ∀ (l : List Int) (p : Int) (k : Nat) (hk : k < l.length) (hk' : k < (clM p l).length), (clM p l)[k] = if (if k = 0 then p else l.getD (k - 1) 0) < l[k] then l[k] - 1 else l[k]
  | n :: t, p, 0, _, _ => rfl
  | n :: t, p, k + 1, hk, hk' => by
    have ih := clM_get t n k (by simpa using hk) (by rw [clM_length]; simpa using hk)
    show (clM n t)[k]'(by rw [clM_length]; simpa using hk) = _
    rw [ih]
    cases k with
    | zero => rfl
    | succ k => rfl
theorem countP_le_of_drop {l : List Int} {q : Int → Bool} (k : Nat) (h : ∀ i (hi : i < l.length), k ≤ i → q l[i] = false) : l.countP q ≤ k := by
  have e : l.take k ++ l.drop k = l := List.take_append_drop k l
  have b : (l.drop k).countP q = 0 := List.countP_eq_zero.mpr fun x hx => by
    obtain ⟨i, hi, rfl⟩ := List.getElem_of_mem hx
    rw [List.getElem_drop]
    have hi' : i < l.length - k := by simpa using hi
    simp [h (k + i) (by omega) (by omega)]
  have : l.countP q = (l.take k).countP q + (l.drop k).countP q := by rw [← List.countP_append, e]
  rw [this, b]
  have := List.countP_le_length (p := q) (l := l.take k)
  rw [List.length_take] at this
  omega
theorem le_countP_of_take {l : List Int} {q : Int → Bool} (k : Nat) (hk : k ≤ l.length) (h : ∀ i (hi : i < l.length), i < k → q l[i] = true) : k ≤ l.countP q := by
  have e : l.take k ++ l.drop k = l := List.take_append_drop k l
  have b : (l.take k).countP q = (l.take k).length := List.countP_eq_length.mpr fun x hx => by
    obtain ⟨i, hi, rfl⟩ := List.getElem_of_mem hx
    rw [List.getElem_take]
    have hi' : i < k ∧ i < l.length := by simpa [List.length_take, Nat.lt_min] using hi
    exact h i hi'.2 hi'.1
  have : l.countP q = (l.take k).countP q + (l.drop k).countP q := by rw [← List.countP_append, e]
  rw [this, b, List.length_take]; omega
theorem cless_clM {N W : Nat} {l : List Int} (hg : Gd N W l) : cless l = clM 0 l := by
  unfold cless
  refine List.ext_getElem (by rw [List.length_map, List.length_range, clM_length]) fun k h1 h2 => ?_
  have hk : k < l.length := by simpa using h1
  rw [clM_get l 0 k hk, List.getElem_map, List.getElem_range]
  unfold clessAt
  rw [getD_at hk]
  have hv := hg.2.2 _ (List.getElem_mem hk)
  have key : (0 < l[k] ∧ l.countP (fun y => decide (y < l[k])) = k) ↔ (if k = 0 then (0:Int) else l.getD (k - 1) 0) < l[k] := by
    by_cases h0 : k = 0
    · subst h0
      rw [if_pos rfl]
      refine ⟨fun h => h.1, fun h => ⟨h, ?_⟩⟩
      exact List.countP_eq_zero.mpr fun x hx => by
        obtain ⟨i, hi, rfl⟩ := List.getElem_of_mem hx
        have := pw_le hg.2.1 hk hi (Nat.zero_le _)
        simp only [decide_eq_true_eq]; omega
    · rw [if_neg h0, getD_at (by omega)]
      have hp := hg.2.2 _ (List.getElem_mem (show k - 1 < l.length by omega))
      constructor
      · rintro ⟨_, hc⟩
        rcases Int.lt_or_le l[k - 1] l[k] with h | h
        · exact h
        · have : l.countP (fun y => decide (y < l[k])) ≤ k - 1 := countP_le_of_drop (k - 1) fun i hi hle => by
            have := pw_le hg.2.1 (show k - 1 < l.length by omega) hi hle
            exact decide_eq_false (by omega)
          omega
      · intro h
        refine ⟨by omega, countP_at _ _ k (by omega) (fun i hi hlt => ?_) (fun i hi hle => ?_)⟩
        · have := pw_le hg.2.1 hi (show k - 1 < l.length by omega) (by omega)
          exact decide_eq_true (by omega)
        · have := pw_le hg.2.1 hk hi hle
          exact decide_eq_false (by omega)
  by_cases h : (if k = 0 then (0:Int) else l.getD (k - 1) 0) < l[k]
  · rw [if_pos (key.mpr h), if_pos h]
  · rw [if_neg (fun q => h (key.mp q)), if_neg h]
theorem flM_get (W : Int) : ∀ (l : List Int) (k : Nat) (hk : k < l.length) (hk' : k < (flM W l).length), (flM W l)[k] = if l[k] < l.getD (k + 1) W then l[k] + 1 else l[k]
  | n :: t, 0, _, _ => by
    show (if n < t.headD W then n + 1 else n) = if n < (n :: t).getD 1 W then n + 1 else n
    cases t <;> rfl
  | n :: t, k + 1, hk, hk' => by
    have ih := flM_get W t k (by simpa using hk) (by rw [flM_length]; simpa using hk)
    show (flM W t)[k]'(by rw [flM_length]; simpa using hk) = _
    rw [ih]; rfl
theorem fill_flM {N W : Nat} {l : List Int} (hg : Gd N W l) : fill l W = flM W l := by
  unfold fill
  refine List.ext_getElem (by rw [List.length_map, List.length_range, flM_length]) fun k h1 h2 => ?_
  have hk : k < l.length := by simpa using h1
  rw [flM_get W l k hk, List.getElem_map, List.getElem_range]
  unfold fillAt
  rw [getD_at hk]
  have hv := hg.2.2 _ (List.getElem_mem hk)
  have key : (l[k] < (W : Int) ∧ l.countP (fun y => decide (y ≤ l[k])) = k + 1) ↔ l[k] < l.getD (k + 1) W := by
    by_cases h0 : k + 1 < l.length
    · have e : l.getD (k + 1) W = l[k + 1] := by simp [List.getD, h0]
      rw [e]
      have hp := hg.2.2 _ (List.getElem_mem h0)
      constructor
      · rintro ⟨_, hc⟩
        rcases Int.lt_or_le l[k] l[k + 1] with h | h
        · exact h
        · have : k + 2 ≤ l.countP (fun y => decide (y ≤ l[k])) := le_countP_of_take (k + 2) (by omega) fun i hi hle => by
            have := pw_le hg.2.1 hi h0 (by omega)
            exact decide_eq_true (by omega)
          omega
      · intro h
        refine ⟨by omega, countP_at _ _ (k + 1) (by omega) (fun i hi hlt => ?_) (fun i hi hle => ?_)⟩
        · have := pw_le hg.2.1 hi hk (by omega)
          exact decide_eq_true (by omega)
        · have := pw_le hg.2.1 h0 hi hle
          exact decide_eq_false (by omega)
    · have e : l.getD (k + 1) W = W := by simp [List.getD, h0]
      rw [e]
      refine ⟨fun h => h.1, fun h => ⟨h, ?_⟩⟩
      refine countP_at _ _ (k + 1) (by omega) (fun i hi hlt => ?_) (fun i hi hle => by omega)
      have := pw_le hg.2.1 hi hk (by omega)
      exact decide_eq_true (by omega)
  by_cases h : l[k] < l.getD (k + 1) W
  · rw [if_pos (key.mpr h), if_pos h]
  · rw [if_neg (fun q => h (key.mp q)), if_neg h]
theorem gd_cless {N W : Nat} {l : List Int} (hg : Gd N W l) : Gd N W (cless l) := by
  rw [cless_clM hg]; exact gd_of hg.ch.cl (by rw [clM_length]; exact hg.1)
theorem gd_cl {N W : Nat} {l : List Int} (hg : Gd N W l) : ∀ i : Nat, Gd N W (clN i l)
  | 0 => hg
  | i + 1 => gd_cless (gd_cl hg i)
theorem gd_fill {N W : Nat} {l : List Int} (hg : Gd N W l) : Gd N W (fill l W) := by
  rw [fill_flM hg]; exact gd_of hg.ch.fl (by rw [flM_length]; exact hg.1)
theorem clN_clI {N W : Nat} {l : List Int} (hg : Gd N W l) : ∀ i : Nat, clN i l = clI i l
  | 0 => rfl
  | i + 1 => by show cless (clN i l) = clM 0 (clI i l); rw [← clN_clI hg i, cless_clM (gd_cl hg i)]

/-! the outline -/
theorem foldl_rep (i : Nat) : ∀ acc : Array Nat, List.foldl (· ++ ·) acc (List.replicate i #[114]) = acc ++ (List.replicate i 114).toArray := by
  induction i with
  | zero => intro acc; simp
  | succ i ih =>
    intro acc
    rw [List.replicate_succ, List.foldl_cons, ih, List.replicate_succ]
    apply Array.toList_inj.mp
    simp
theorem mul_toL (n : Int) : toL (Txt.mul (Str.ofString "r") n) = List.replicate n.toNat 114 := by
  unfold Txt.mul
  have hr : Str.ofString "r" = ⟨#[114]⟩ := by decide
  split
  · rename_i h; rw [show n.toNat = 0 by omega]; rfl
  · split
    · rename_i h0 h
      have : n = 1 := by
        rw [Bool.or_eq_true] at h
        rcases h with h | h
        · simpa using h
        · rw [hr] at h; simp [Str.length] at h
      subst this; rw [hr]; rfl
    · show (List.foldl (· ++ ·) #[] (List.replicate n.toNat (Str.ofString "r").cps)).toList = _
      rw [hr, foldl_rep]; simp
theorem out_fold (W : Int) : ∀ (l : List Int) (acc : Str) (last : Int), toL ((l.foldl outStep (acc, last)).1 ++ Txt.mul (Str.ofString "r") (W - (l.foldl outStep (acc, last)).2)) = toL acc ++ outL W last l
  | [], acc, last => by
    show toL (acc ++ Txt.mul (Str.ofString "r") (W - last)) = _
    rw [toL_append, mul_toL]; rfl
  | n :: t, acc, last => by
    show toL ((t.foldl outStep (acc ++ Txt.mul (Str.ofString "r") (n - last) ++ Str.ofString "u", n)).1 ++ Txt.mul (Str.ofString "r") (W - (t.foldl outStep (acc ++ Txt.mul (Str.ofString "r") (n - last) ++ Str.ofString "u", n)).2)) = _
    rw [out_fold W t, toL_append, toL_append, mul_toL, show toL (Str.ofString "u") = [117] by decide]
    show _ = toL acc ++ (List.replicate (n - last).toNat 114 ++ 117 :: outL W n t)
    simp
theorem out_toL (l : List Int) (W : Int) : toL (outline l W) = outL W 0 l := by
  have := out_fold W l (Str.ofString "") 0
  rw [show toL (Str.ofString "") = [] by decide, List.nil_append] at this
  exact this
theorem outL_len (W : Int) : ∀ (l : List Int) (last : Int), Ch W last l → ((outL W last l).length : Int) = l.length + (W - last)
  | [], last, h => by
    have hW : last ≤ W := h
    show ((List.replicate (W - last).toNat 114).length : Int) = _
    rw [List.length_replicate]; simp only [List.length_nil]; omega
  | n :: t, last, h => by
    have h0 := h.1
    have ih := outL_len W t n h.2
    show ((List.replicate (n - last).toNat 114 ++ 117 :: outL W n t).length : Int) = _
    rw [List.length_append, List.length_replicate, List.length_cons, List.length_cons]; omega
theorem out_len {N W : Nat} {l : List Int} (hg : Gd N W l) : (outline l W).length = N + W := by
  have h1 := outL_len W l 0 hg.ch
  have h2 := toL_length (outline l W)
  rw [out_toL] at h2
  have := hg.1
  omega
theorem ru_ur (t : Str) : toL (Txt.join (Str.ofString "ur") (Txt.split t (Str.ofString "ru"))) = repL [114, 117] [117, 114] 0 (toL t) := repl_toL t (Str.ofString "ru") (Str.ofString "ur") (by decide) (by decide +kernel)
theorem ur_ru (t : Str) : toL (Txt.join (Str.ofString "ru") (Txt.split t (Str.ofString "ur"))) = repL [117, 114] [114, 117] 0 (toL t) := repl_toL t (Str.ofString "ur") (Str.ofString "ru") (by decide) (by decide +kernel)
theorem cl_one {N W : Nat} {l : List Int} (hg : Gd N W l) : Txt.join (Str.ofString "ur") (Txt.split (outline l W) (Str.ofString "ru")) = outline (cless l) W := by
  apply str_ext
  rw [ru_ur, out_toL, out_toL, (P_out hg.ch).1, cless_clM hg]
theorem fl_one {N W : Nat} {l : List Int} (hg : Gd N W l) : Txt.join (Str.ofString "ru") (Txt.split (outline l W) (Str.ofString "ur")) = outline (fill l W) W := by
  apply str_ext
  rw [ur_ru, out_toL, out_toL, Q_out hg.ch, fill_flM hg]
theorem clN_cless : ∀ (i : Nat) (l : List Int), clN i (cless l) = clN (i + 1) l
  | 0, _ => rfl
  | i + 1, l => by show cless (clN i (cless l)) = cless (clN (i + 1) l); rw [clN_cless i l]
theorem told_eq {N W : Nat} : ∀ (i : Nat) {l : List Int}, Gd N W l → repl (outline l W) (offs i) = outline (clN i l) W
  | 0, _, _ => by unfold offs; rfl
  | i + 1, l, hg => by
    rw [offs_succ]
    show repl (Txt.join (Str.ofString "ur") (Txt.split (outline l W) (Str.ofString "ru"))) (offs i) = _
    rw [cl_one hg, told_eq i (gd_cless hg), clN_cless]
theorem fill_eq {N W : Nat} {l : List Int} (hg : Gd N W l) : repl (outline l W) [Str.ofString "ur", Str.ofString "ru"] = outline (fill l W) W := by
  show repl (Txt.join (Str.ofString "ru") (Txt.split (outline l W) (Str.ofString "ur"))) [] = _
  rw [fl_one hg]; rfl
theorem bcks_eq {N W : Nat} : ∀ (i : Nat) {l : List Int}, Gd N W l → repl (outline l W) (bcks i) = outline (flI W i l) W
  | 0, _, _ => by unfold bcks; rfl
  | i + 1, l, hg => by
    rw [bcks_succ]
    show repl (Txt.join (Str.ofString "ru") (Txt.split (outline l W) (Str.ofString "ur"))) (bcks i) = outline (flI W i (flM W l)) W
    rw [fl_one hg, bcks_eq i (gd_fill hg), fill_flM hg]
theorem gd_flI {N W : Nat} : ∀ (i : Nat) {l : List Int}, Gd N W l → Gd N W (flI W i l)
  | 0, _, hg => hg
  | i + 1, l, hg => by
    show Gd N W (flI W i (flM W l))
    rw [← fill_flM hg]; exact gd_flI i (gd_fill hg)
theorem back_eq {N W : Nat} {l : List Int} (hg : Gd N W l) (i : Nat) : repl (outline l W) (offs i ++ bcks i ++ offs i) = outline (clN i l) W := by
  have h1 := gd_cl hg i
  have h2 := gd_flI i h1
  rw [repl_append ((same_offs i).append (same_bcks i)), repl_append (same_offs i), told_eq i hg, bcks_eq i h1, told_eq i h2, clN_clI h2, clN_clI hg, galois hg.ch]
theorem cols_colF {N W : Nat} {l : List Int} (hg : Gd N W l) : cols l W = colF W 0 l := by
  unfold cols colF
  rw [show ((W : Int) - 0).toNat = W by omega]
  refine List.map_congr_left fun i _ => ?_
  have h := List.length_eq_countP_add_countP (p := fun y => decide (y < (W : Int) - i)) (l := l)
  have e : l.countP (fun y => decide ¬ (decide (y < (W : Int) - (i : Nat)) = true)) = l.countP (fun y => decide ((W : Int) - (i : Nat) ≤ y)) := by
    congr 1; funext y; simp only [decide_eq_true_eq, Int.not_lt]
  have := List.countP_le_length (p := fun y => decide (y < (W : Int) - i)) (l := l)
  rw [e] at h
  omega
theorem cols_len {N W : Nat} {l : List Int} (hg : Gd N W l) : (cols l W).length = W ∧ ∀ x ∈ cols l W, 0 ≤ x ∧ x ≤ N := by
  constructor
  · unfold cols; simp
  · intro x hx
    rw [cols_colF hg] at hx
    unfold colF at hx
    obtain ⟨i, _, rfl⟩ := List.mem_map.mp hx
    have := List.countP_le_length (p := fun y => decide ((W : Int) - i ≤ y)) (l := l)
    have := hg.1
    omega
theorem rngm_size (n : Nat) : Builtin.Range.rangeSize ((n : Int) - 1) (-1) (-1) = (n : Int) := by
  unfold Builtin.Range.rangeSize
  rw [if_neg (by decide)]
  by_cases h : ((n : Int) - 1) > -1
  · rw [if_pos h, show (- -1 : Int) = 1 from rfl, Int.ediv_one]; omega
  · rw [if_neg h]; omega
theorem rngm_small (n : Nat) (h : n ≤ 10000) : Builtin.Range.small ((n : Int) - 1) (-1) (-1) = true := by
  unfold Builtin.Range.small
  rw [rngm_size n, fitsL (i := (n : Int) - 1) (by omega) (by omega), fitsL (i := (n : Int)) (by omega) (by omega), fitsL (i := -1) (by decide) (by decide), if_neg (by decide), fitsL (i := -1 + (-1 + 1)) (by decide) (by decide)]
  simp
def mirAt (sw : Str) (j : Nat) : Str := Txt.item sw ((sw.length : Int) - 1 + (j : Int) * -1)
def mirror (sw : Str) : Str := Txt.join (Str.ofString "") ((List.range sw.length).map (mirAt sw))
theorem mir_fits {sw : Str} {n : Nat} (h : sw.length = n) (hn : n ≤ 1000) : (((List.range sw.length).map (mirAt sw)).map (·.length)).sum + ((List.range sw.length).map (mirAt sw)).length * 64 ≤ 16777216 := by
  have h1 : (((List.range sw.length).map (mirAt sw)).map (·.length)).sum ≤ ((List.range sw.length).map (mirAt sw)).length * 1 := sum_le _ fun a ha => by
    obtain ⟨i, _, rfl⟩ := List.mem_map.mp ha
    exact Nat.le_refl 1
  simp only [List.length_map, List.length_range] at h1 ⊢
  omega
theorem joinL_single : ∀ (l : List Nat), joinL [] (l.map fun c => [c]) = l
  | [] => rfl
  | [_] => rfl
  | a :: b :: r => by
    show [a] ++ [] ++ joinL [] ((b :: r).map fun c => [c]) = _
    rw [joinL_single (b :: r)]; rfl
theorem mirror_toL (sw : Str) : toL (mirror sw) = (toL sw).reverse := by
  unfold mirror
  rw [join_toL, show toL (Str.ofString "") = [] by decide, List.map_map]
  have e : (List.range sw.length).map (toL ∘ mirAt sw) = (toL sw).reverse.map fun c => [c] := by
    refine List.ext_getElem (by simp [Str.length]) fun k h1 h2 => ?_
    have hk : k < sw.length := by simpa using h1
    have hl : (toL sw).length = sw.length := toL_length sw
    simp only [List.getElem_map, List.getElem_range, Function.comp_apply, List.getElem_reverse]
    show [(Txt.charAt sw ((sw.length : Int) - 1 + (k : Int) * -1)).getD 0] = _
    have hi : sw.cps[((sw.length : Int) - 1 + (k : Int) * -1).toNat]? = some ((toL sw)[(toL sw).length - 1 - k]'(by omega)) := by
      rw [show ((sw.length : Int) - 1 + (k : Int) * -1).toNat = (toL sw).length - 1 - k by omega, ← Array.getElem?_toList]
      exact List.getElem?_eq_getElem _
    have := StrLaws.at_nonneg (x := sw) (i := (sw.length : Int) - 1 + (k : Int) * -1) (by omega) hi
    unfold Txt.charAt
    rw [this]; rfl
  rw [e, joinL_single]
theorem out_two (W : Int) : ∀ (l : List Int) (last : Int), Two (outL W last l)
  | [], last => fun c hc => .inl (List.eq_of_mem_replicate hc)
  | n :: t, last => fun c hc => by
    rcases List.mem_append.mp hc with hc | hc
    · exact .inl (List.eq_of_mem_replicate hc)
    · rcases List.mem_cons.mp hc with rfl | hc
      · exact .inr rfl
      · exact out_two W t n c hc
theorem swap_toL {t : Str} (h : Two (toL t)) : toL (repl t [Str.ofString "r", Str.ofString "!", Str.ofString "u", Str.ofString "r", Str.ofString "!", Str.ofString "u"]) = (toL t).map swp := by
  show toL (Txt.join (Str.ofString "u") (Txt.split (Txt.join (Str.ofString "r") (Txt.split (Txt.join (Str.ofString "!") (Txt.split t (Str.ofString "r"))) (Str.ofString "u"))) (Str.ofString "!"))) = _
  rw [repl_toL _ (Str.ofString "!") (Str.ofString "u") (by decide) (by decide +kernel), repl_toL _ (Str.ofString "u") (Str.ofString "r") (by decide) (by decide +kernel), repl_toL _ (Str.ofString "r") (Str.ofString "!") (by decide) (by decide +kernel),
    show toL (Str.ofString "r") = [114] by decide, show toL (Str.ofString "!") = [33] by decide, show toL (Str.ofString "u") = [117] by decide, rep1, rep1, rep1, List.map_map, List.map_map]
  refine List.map_congr_left fun c hc => ?_
  rcases h c hc with rfl | rfl <;> rfl
theorem swap_len {N W : Nat} {l : List Int} (hg : Gd N W l) : (repl (outline l W) [Str.ofString "r", Str.ofString "!", Str.ofString "u", Str.ofString "r", Str.ofString "!", Str.ofString "u"]).length = N + W := by
  rw [same_swap.len, out_len hg]
theorem mir_eq {N W : Nat} {l : List Int} (hg : Gd N W l) : mirror (repl (outline l W) [Str.ofString "r", Str.ofString "!", Str.ofString "u", Str.ofString "r", Str.ofString "!", Str.ofString "u"]) = outline (cols l W) N := by
  apply str_ext
  rw [mirror_toL, swap_toL (by rw [out_toL]; exact out_two _ _ _), out_toL, out_toL, cols_colF hg, ← hg.1]
  exact mir_law hg.ch
end Mine
end PP2

section PC2g
open PySem PySem.W PyProof.Rows PySem.Calls
set_option maxRecDepth 100000
set_option maxHeartbeats 8000000
namespace Mine
local macro_rules | `(tactic| walk_at "eval Name") => `(tactic| (k_here; k_dflt (first
  | (refine' ld ?k1 ?k2 ?_; (case k1 => k_asm); (case k2 => assumption); k_whole)
  | (refine' ldC ?k1 ?k2 ?_; (case k1 => k_asm); (case k2 => assumption); k_whole))))
local macro_rules | `(tactic| walk_at "go") => `(tactic| (repeat' (first | (k_unfold; (try dsimp only)) | ((fail_if_success (with_reducible show wpAny _ _ (exec (Stmt.While _ _ _ _) _) _ _ _)); (fail_if_success (with_reducible show wpAny _ _ (exec (Stmt.For _ _ _ _ _) _) _ _ _)); (fail_if_success (with_reducible show wpAny _ _ (call (Value.ref _) _ _) _ _ _)); (fail_if_success (with_reducible show wpAny _ _ (pyIter _) _ _ _)); (fail_if_success (with_reducible show wpAny _ _ (eval (PySem.Expr.ListComp _ _ _ _) _) _ _ _)); (first | walk1 | (dsimp only; walk1)))); all_goals (try k_data)))
local macro_rules | `(tactic| walk_at "eval Name") => `(tactic| (k_here; (with_reducible show wpAny _ _ (eval (PySem.Expr.Name _ _) (compEnvC _ _ _ _)) _ _ _); k_dflt (first
  | (refine' cmL ?k1 ?k2 ?_; (case k1 => k_asm); (case k2 => first | exact rfl | assumption); k_whole)
  | (refine' cmC ?k1 ?k2 ?k3 ?k4 ?_; (case k4 => exact rfl); (case k1 => k_asm); (case k2 => assumption); (case k3 => assumption); k_whole)
  | (refine' cmK ?k1 ?k2 ?k3 ?k4 ?_; (case k1 => k_asm); (case k2 => k_asm); (case k3 => k_asm); (case k4 => k_is); k_whole)
  | (refine' cmB ?k1 ?k2 ?k3 ?k4 ?k5 ?k6 ?_; (case k1 => k_asm); (case k2 => k_asm); (case k3 => k_asm); (case k4 => k_is); (case k5 => boot_by_name); (case k6 => decide); k_whole))))

local macro_rules | `(tactic| walk_at "binaryOp Mult ref int") => `(tactic| (k_here; (with_reducible show wpAny _ _ (binaryOp Operator.Mult (Value.ref _) (Value.int _ _)) _ _ _); k_dflt (refine' mulL ?F ?N ?m ?i ?z ?_; (case F => k_asm); (case N => k_asm); (case m => k_mem); (case i => omega); (case z => exact Nat.le_of_ble_eq_true rfl)); intro D' h' F' N' l1; (try k_lt l1); (try k_sweep)))
local macro_rules | `(tactic| walk_at "compareOp NotEq str str") => `(tactic| (with_reducible refine neSame ?_))
local macro_rules | `(tactic| walk_at "go2") => `(tactic| (repeat' (first | (k_unfold; (try dsimp only)) | ((fail_if_success (with_reducible show wpAny _ _ (exec (Stmt.While _ _ _ _) _) _ _ _)); (fail_if_success (with_reducible show wpAny _ _ (exec (Stmt.For _ _ _ _ _) _) _ _ _)); (fail_if_success (with_reducible show wpAny _ _ (call (Value.ref _) _ _) _ _ _)); (fail_if_success (with_reducible show wpAny _ _ (binaryOp Operator.Add (Value.ref _) (Value.ref _)) _ _ _)); (fail_if_success (with_reducible show StarOf _ _ _ _ _ _)); (fail_if_success (with_reducible show wpAny _ _ (pyIter _) _ _ _)); (fail_if_success (with_reducible show wpAny _ _ (eval (PySem.Expr.ListComp _ _ _ _) _) _ _ _)); (first | walk1 | (dsimp only; walk1)))); all_goals (try k_data)))
theorem law_code {w : World} {A : Around} {s : Shared} {R : Result → Shared → Prop} {mean : ExcName → Option Value} {mg mb : Str → Option Value} {loose : List Str} {a : Addr} {vs : List Value} {ns : List Int}
   (X : (Mine.hd.heap_39 w.params).In s.heap) (T : Top Mine.hd.view_39 loose mean mg mb s.heap)
   (hh : A.handled = none) (hroom : A.depth < 700) (hu : A.units < 1000)
   (hl : s.heap.IsList a vs.toArray) (hi : IntsAre vs ns) (hlen : ns.length ≤ 63)
   (hR : ∀ L m h' tk, Fr s.heap L h' m → R (.ok (.ret (.bool true))) { s with heap := h', toks := tk }) :
   codeAny (model PySem.Challenge.rw_ph0062_02.row.prog w) A (.call (.ref 79) ⟨[.ref a], []⟩) R s := by
  revert X; k_fill; intro X
  refine' enterC_code (binds := [(Str.ofString "script", .ref a)]) X T (Nat.lt_trans hroom (by decide)) ?k1 ?k2 ?k3 ?k4 ?k5 ?_ ?k6 ?k7 ?k8
  case k1 => exact rfl
  case k2 => k_is
  case k3 => exact BindsTo.of_eq rfl
  case k4 => exact rfl
  case k5 => decide +kernel
  case k6 => rfl
  case k7 => rfl
  case k8 => rfl
  intro L h₁ tk cells F N Y
  k_cells Y
  rename_i oc dc
  have dc2 : oc.data = .cell none := dc
  clear dc
  k_unmd
  k_fold
  walk_at "go"
  refine comp_list (V := fun (x : Int) v => ∃ t, v = Value.int x t) (f := fun i => some (Int.fmod ((ns.take 5).getD i 0) 6)) hh rfl (by decide) rfl (by decide) ?_
  walk_at "go"
  rename_i d1 ws1 h2 F2 N2 hI1 hC1 hL1 l1
  refine ⟨_, ws1.toArray, rfl, ⟨_, (N2 _ (List.Mem.head _)).1, rfl, _, rfl⟩, ?_, ?_, ?_⟩
  · rw [List.size_toArray, hI1.length]; omega
  · rintro i v C I oI D oD h3 tk3 m3 hv F3 N3
    obtain ⟨t, hlt, rfl⟩ := ints_at hI1 hv
    dsimp only at F3 N3 ⊢
    clear F2 N2
    refine cmS F3 N3 ?_
    intro h4 F4 N4
    clear F3 N3
    refine wpAny_tests_nil ?_
    rw [if_pos rfl]
    generalize hN : (ns.take 5)[i] = n at F4
    dsimp only
    walk_at "go"
    all_goals (try rename IntsAre ws1 _ => hI1)
    have e : (ns.take 5).getD i 0 = n := by rw [getD_at hlt, hN]
    rw [e]
    exact ⟨⟨_, _, _, rfl, F4, N4⟩, _, rfl, _, rfl⟩
  · intro D h3 tk3 ys k3 kD kD0 hA
    have F3 := F2.keeps k3
    have hD0 : s.heap.get? D = none := by
      cases e : s.heap.get? D with
      | none => rfl
      | some o => rw [F2.keep _ _ e] at kD0; cases kD0
    have N3 := News.more F3 (N2.grown k3) kD (fun es n => by simp) hD0
    have hA2 := hA.ints
    obtain ⟨ds, hds⟩ : ∃ ds : List Int, ds = (List.range ws1.toArray.size).filterMap (fun i => some (((ns.take 5).getD i 0).fmod 6)) := ⟨_, rfl⟩
    rw [← hds] at hA2
    have hds5 : ds.length ≤ 5 := by
      rw [hds]
      refine Nat.le_trans (List.length_filterMap_le ..) ?_
      rw [List.length_range, List.size_toArray, hI1.length]
      omega
    have hdsb : ∀ x ∈ ds, 0 ≤ x ∧ x ≤ 5 := by
      intro x hx
      rw [hds, List.mem_filterMap] at hx
      obtain ⟨i, _, hi⟩ := hx
      rw [← Option.some.inj hi]
      have h1 := Int.fmod_nonneg_of_pos ((ns.take 5).getD i 0) (show (0:Int) < 6 by decide)
      have h2 := Int.fmod_lt_of_pos ((ns.take 5).getD i 0) (show (0:Int) < 6 by decide)
      omega
    clear hA hds hI1 hC1 hL1 k3 kD hD0 kD0
    have N4 : News s.heap L h3 [(D, listOf ys.toArray ys.length), (L + 1, oc)] := fun p hp => by
      rcases List.mem_cons.mp hp with rfl | hp
      · exact N3 _ (List.Mem.head _)
      · rw [List.mem_singleton.mp hp]
        exact N3 _ (List.Mem.tail _ (List.Mem.tail _ (List.Mem.head _)))
    clear F2 N2 N3
    dsimp only
    walk_at "go"
    all_goals (try rename IntsAre ys ds => hA2)
    all_goals (try rename StrsAre ys _ => hA2)
    rename_i li _ l1a dr wd _ hId l1b _ sz _ l1c h5 F5 N5
    have N6 : News s.heap L h5 [(sz, listOf ([] : List Value).toArray 0), (dr, listOf wd.toArray 0), (L + 1, oc)] := fun p hp => by
      rcases List.mem_cons.mp hp with rfl | hp
      · exact N5 _ (List.Mem.head _)
      · rcases List.mem_cons.mp hp with rfl | hp
        · exact N5 _ (List.Mem.tail _ (List.Mem.head _))
        · rw [List.mem_singleton.mp hp]
          exact N5 _ (List.Mem.tail _ (List.Mem.tail _ (List.Mem.tail _ (List.Mem.tail _ (List.Mem.head _)))))
    have hszdr : sz ≠ dr := by have := l1c.1; exact fun e => by rw [e] at this; exact Nat.lt_irrefl _ this
    have hsz1 : L + 1 < sz := l1c.2.2.2
    have hszL : sz ≠ L + 1 := by have := l1c.2.2.2; exact fun e => by rw [e] at this; exact Nat.lt_irrefl _ this
    clear N5 l1a l1b l1c hA2
    refine wpAny_For ?_
    walk_at "go"
    all_goals (try rename IntsAre wd _ => hId)
    all_goals (try rename IntsAre ys ds => hA2)
    all_goals (try rename StrsAre ys _ => hA2)
    have hdl : (ds ++ [1, 3, 3]).length ≤ 8 := by simp only [List.length_append, List.length_cons, List.length_nil]; omega
    have hdb : ∀ x ∈ ds ++ [1, 3, 3], 0 ≤ x ∧ x ≤ 5 := by
      intro x hx
      rcases List.mem_append.mp hx with hx | hx
      · exact hdsb x hx
      · simp only [List.mem_cons, List.not_mem_nil, or_false] at hx; omega
    rename Fr _ _ _ _ => F6
    rename News _ _ _ _ => N7
    refine for_list (its := wd.toArray) hh (fun i m news => ∃ vsz n, news = [(sz, listOf vsz.toArray n), (dr, listOf wd.toArray 0), (L + 1, oc)] ∧ IntsAre vsz (insAll ((ds ++ [1, 3, 3]).take i)) ∧ m (Str.ofString "sizes") = some (.ref sz) ∧ m (Str.ofString "drawn") = some (.ref dr)) ?_ F6 N7 ?_ ?_ ?_
    · rintro i m news ⟨vsz, n, rfl, _⟩
      exact .inr ⟨_, List.Mem.tail _ (List.Mem.head _), rfl, _, rfl⟩
    · exact ⟨[], 0, rfl, .nil, rfl, rfl⟩
    · rintro i v oI h tk m news hv ⟨vsz, n, rfl, hvs, e1, e2⟩ F7 N8 off
      obtain ⟨t, hlt, rfl⟩ := ints_at hId hv
      clear F6 N7
      have hsI := off _ (List.Mem.head _)
      have hvl := insAll_length ((ds ++ [1, 3, 3]).take i)
      have hvl2 : ((ds ++ [1, 3, 3]).take i).length ≤ 8 := by rw [List.length_take]; omega
      walk_at "go"
      all_goals (try rename IntsAre vsz _ => hvs)
      all_goals (try rename IntsAre wd _ => hId)
      all_goals (try rename IntsAre ys ds => hA2)
      all_goals (try rename StrsAre ys _ => hA2)
      rename Fr _ _ _ _ => F9
      rename News _ _ _ _ => N9
      refine ins_call X T F9.keep (N9 _ (List.Mem.tail _ (List.Mem.head _))).2.2 (N9 _ (List.Mem.tail _ (List.Mem.head _))).1 hh ?_ hvs (by omega) (insAll_sorted _) ?_
      · show A.depth + 1 < 800; omega
      intro h8 tk8 k8 ho8
      have hrest : ∀ p ∈ [(dr, listOf wd.toArray 0), (L + 1, oc)], p.1 ≠ sz := by
        intro p hp
        rcases List.mem_cons.mp hp with rfl | hp
        · exact Ne.symm hszdr
        · rw [List.mem_singleton.mp hp]; exact Ne.symm hszL
      have F10 := fr_ins F9 k8 (N9 _ (List.Mem.tail _ (List.Mem.head _))).2.1 (N9 _ (List.Mem.tail _ (List.Mem.head _))).2.2
      have N10 := news_ins N9 k8 ho8 (Ne.symm hsI) hrest
      clear F9 N9
      dsimp only
      walk_at "go"
      all_goals (try rename IntsAre vsz _ => hvs)
      all_goals (try rename IntsAre wd _ => hId)
      all_goals (try rename IntsAre ys ds => hA2)
      all_goals (try rename StrsAre ys _ => hA2)
      refine ⟨_, _, _, _, rfl, F10, N10, ?_, _, _, rfl, ?_, e1, e2⟩
      · intro p hp
        rcases List.mem_cons.mp hp with rfl | hp
        · exact hsI
        · exact off p (List.mem_cons_of_mem _ hp)
      · have hle : (insAll ((ds ++ [1, 3, 3]).take i)).countP (fun y => decide (y ≤ (ds ++ [1, 3, 3])[i])) ≤ vsz.length := by rw [hvs.length]; exact List.countP_le_length
        rw [List.take_add_one, List.getElem?_eq_getElem hlt, show (some (ds ++ [1, 3, 3])[i]).toList = [(ds ++ [1, 3, 3])[i]] from rfl, insAll_snoc]
        unfold kl_ins insI
        rw [if_neg (by omega), Int.toNat_natCast, Nat.min_eq_left hle]
        exact (hvs.take _).append (.cons _ _ (hvs.drop _))
    · rintro h tk m news ⟨vsz, n, rfl, hvs, e1, e2⟩ F7 N8
      have hwd : wd.toArray.size = (ds ++ [1, 3, 3]).length := by rw [List.size_toArray, hId.length]
      rw [hwd, List.take_length] at hvs
      clear F6 N7
      have hvl := insAll_length (ds ++ [1, 3, 3])
      walk_at "go"
      all_goals (try rename IntsAre vsz _ => hvs)
      all_goals (try rename IntsAre wd _ => hId)
      all_goals (try rename IntsAre ys ds => hA2)
      all_goals (try rename StrsAre ys _ => hA2)
      · rename_i srt vsrt nsrt _ _ hIs _ hperm hsrt _ _ l1s heq twd h6 F8 N9
        have hs0 := insAll_sorted (ds ++ [1, 3, 3])
        have hb0 : ∀ x ∈ insAll (ds ++ [1, 3, 3]), 0 ≤ x ∧ x ≤ 5 := fun x hx => hdb x ((insAll_perm _).mem_iff.mp hx)
        have hl0 : (insAll (ds ++ [1, 3, 3])).length ≤ 8 := by omega
        have hl1 : 3 ≤ (insAll (ds ++ [1, 3, 3])).length := by rw [hvl]; simp
        clear hperm hsrt heq hIs
        generalize hW : List.getD _ _ _ = W at F8 ⊢
        obtain ⟨ns0, hns0⟩ : ∃ ns0, ns0 = insAll (ds ++ [1, 3, 3]) := ⟨_, rfl⟩
        rw [← hns0] at hvs hs0 hb0 hl0 hl1 hW
        clear hns0 hvl
        have hWm : W ∈ ns0 := by
          rw [← hW, getD_at (by omega)]
          exact List.getElem_mem _
        have hWb := hb0 W hWm
        have hWle : ∀ x ∈ ns0, 0 ≤ x ∧ x ≤ W := by
          intro x hx
          refine ⟨(hb0 x hx).1, ?_⟩
          obtain ⟨k, hk, rfl⟩ := List.getElem_of_mem hx
          rw [← hW, getD_at (by omega)]
          exact pw_le hs0 hk _ (by omega)
        obtain ⟨Wn, rfl⟩ : ∃ Wn : Nat, W = (Wn : Int) := ⟨W.toNat, by omega⟩
        have hg : Gd ns0.length Wn ns0 := ⟨rfl, hs0, hWle⟩
        have N10 : News s.heap L h6 [(sz, listOf vsz.toArray n), (L + 1, oc)] := fun p hp => by
          rcases List.mem_cons.mp hp with rfl | hp
          · exact N9 _ (List.Mem.tail _ (List.Mem.head _))
          · rw [List.mem_singleton.mp hp]
            exact N9 _ (List.Mem.tail _ (List.Mem.tail _ (List.Mem.tail _ (List.Mem.head _))))
        clear N9 hW l1s hId
        refine outl_call (X.keeps F8.keep) (T.keeps F8.keep) hh ?_ ⟨_, (N10 _ (List.Mem.head _)).1, rfl, _, rfl⟩ hvs (by omega) (fun x hx => by have := hb0 x hx; omega) (by omega) ?_
        · show A.depth + 1 < 800; omega
        intro to h7 tk7 k7
        have F9 := F8.keeps k7
        have N11 := N10.grown k7
        clear F8 N10 k7
        dsimp only
        walk_at "go"
        all_goals (try rename IntsAre vsz _ => hvs)
        all_goals (try rename IntsAre ys ds => hA2)
        all_goals (try rename StrsAre ys _ => hA2)
        refine wpAny_For ?_
        walk_at "go"
        all_goals (try rename IntsAre vsz _ => hvs)
        all_goals (try rename IntsAre ys ds => hA2)
        all_goals (try rename StrsAre ys _ => hA2)
        rename_i h8 _ _ h9 _ _ _ _ hr F10 N12 _
        refine for_range (n := 7) hh (fun i m news => ∃ dl vl nl oc' c, news = [(dl, listOf vl.toArray nl), (sz, listOf vsz.toArray n), (L + 1, oc')] ∧ IntsAre vl (clN i ns0) ∧ oc'.data = .cell c ∧ dl ≠ L + 1 ∧
           m (Str.ofString "left") = some (.ref dl) ∧ m (Str.ofString "sizes") = some (.ref sz) ∧ m (Str.ofString "wide") = some (.int Wn twd) ∧ m (Str.ofString "outline") = some (.str (outline ns0 Wn) to)) hr rfl rfl F10 (news := [(sz, listOf vsz.toArray n), (sz, listOf vsz.toArray n), (L + 1, oc)]) ?_ ?_ ?_ ?_
        · intro p hp
          rcases List.mem_cons.mp hp with rfl | hp
          · exact N12 _ (List.Mem.head _)
          · exact N12 p hp
        · exact ⟨sz, vsz, n, oc, _, rfl, hvs, dc2, hszL, rfl, e1, rfl, rfl⟩
        · rintro i t oI h tk m news hlt ⟨dl, vl, nl, oc', c, rfl, hvl2, hoc, hdl1, q1, q2, q3, q4⟩ F11 N13 off
          have e0 : (0:Int) + (i:Int) = (i : Int) := by omega
          rw [e0]
          clear F10 N12 e1 e2
          have hIL := neN (off _ (List.Mem.tail _ (List.Mem.tail _ (List.Mem.head _))))
          dsimp only at hIL
          walk_at "go"
          all_goals (try rename IntsAre vl _ => hvl2)
          all_goals (try rename IntsAre ys ds => hA2)
          all_goals (try rename StrsAre ys _ => hA2)
          rename_i li _ l1a of _ l1b h10 F12 N14
          refine star_seq F12 N14 (List.Mem.head _) rfl rfl (.inl rfl) rfl ?_ ?_
          · rw [List.size_toArray, sizeLine_eq, List.length_flatten, List.map_replicate, List.sum_replicate_nat]
            simp only [List.length_cons, List.length_nil]
            omega
          intro h11 F13 N15
          clear F12 N14
          dsimp only
          walk_at "go"
          all_goals (try rename IntsAre vl _ => hvl2)
          all_goals (try rename IntsAre ys ds => hA2)
          all_goals (try rename StrsAre ys _ => hA2)
          rw [List.append_nil]
          have hgi := gd_cl hg i
          have hol := out_len hg
          have holi := out_len hgi
          refine repl_call (ps := offs i) (X.keeps F13.keep) (T.keeps F13.keep) hh ?_ (strs_rep (.cons _ _ (.cons _ _ .nil)) i) (by rw [offs_len]; omega) (ok_offs (by omega) i) ?_
          · show A.depth + 1 < 800; omega
          intro t12 h12 tk12 k12
          have F14 := F13.keeps k12
          have N16 := N15.grown k12
          clear F13 N15 k12
          rw [told_eq i hg]
          dsimp only
          walk_at "go"
          all_goals (try rename IntsAre vl _ => hvl2)
          all_goals (try rename IntsAre ys ds => hA2)
          all_goals (try rename StrsAre ys _ => hA2)
          rename Fr _ _ _ _ => F15
          rename News _ _ _ _ => N17
          refine outl_call (X.keeps F15.keep) (T.keeps F15.keep) hh ?_ ⟨_, (N17 _ (List.Mem.tail _ (List.Mem.tail _ (List.Mem.tail _ (List.Mem.head _))))).1, rfl, _, rfl⟩ hvl2 (by have := hgi.1; omega) (fun x hx => by have := hgi.2.2 x hx; omega) (by omega) ?_
          · show A.depth + 1 < 800; omega
          intro t13 h13 tk13 k13
          have F16 := F15.keeps k13
          have N18 := N17.grown k13
          clear F15 N17 k13
          dsimp only
          walk_at "go"
          all_goals (try rename IntsAre vl _ => hvl2)
          all_goals (try rename IntsAre ys ds => hA2)
          all_goals (try rename StrsAre ys _ => hA2)
          refine repl_call (ps := [Str.ofString "ur", Str.ofString "ru"]) (X.keeps F16.keep) (T.keeps F16.keep) hh ?_ (.cons _ _ (.cons _ _ .nil)) (by decide) (ok_one (by omega)) ?_
          · show A.depth + 1 < 800; omega
          intro t14 h14 tk14 k14
          have F17 := F16.keeps k14
          have N19 := N18.grown k14
          clear F16 N18 k14
          rw [fill_eq hgi]
          dsimp only
          walk_at "go2"
          all_goals (try rename IntsAre vl _ => hvl2)
          all_goals (try rename IntsAre ys ds => hA2)
          all_goals (try rename StrsAre ys _ => hA2)
          have hgf := gd_fill hgi
          refine fill_call (X.keeps F17.keep) (T.keeps F17.keep) hh ?_ ⟨_, (N19 _ (List.Mem.tail _ (List.Mem.tail _ (List.Mem.tail _ (List.Mem.head _))))).1, rfl, _, rfl⟩ hvl2 (by have := hgi.1; omega) hgi.2.1 ?_
          · show A.depth + 1 < 800; omega
          intro d15 vs15 n15 h15 tk15 k15 g15 g15n hI15
          have F18 := F17.keeps k15
          have N20 := news_new F17 N19 k15 g15 g15n
          clear F17 N19 k15 g15 g15n
          dsimp only
          walk_at "go2"
          all_goals (try rename IntsAre vl _ => hvl2)
          all_goals (try rename IntsAre vs15 _ => hI15)
          all_goals (try rename IntsAre ys ds => hA2)
          all_goals (try rename StrsAre ys _ => hA2)
          refine outl_call (X.keeps F18.keep) (T.keeps F18.keep) hh ?_ ⟨_, (N20 _ (List.Mem.head _)).1, rfl, _, rfl⟩ hI15 (by have := hgf.1; omega) (fun x hx => by have := hgf.2.2 x hx; omega) (by omega) ?_
          · show A.depth + 1 < 800; omega
          intro t16 h16 tk16 k16
          have F19 := F18.keeps k16
          have N21 : News s.heap L h16 _ := fun p hp => (N20.grown k16) p (List.Mem.tail _ hp)
          clear F18 N20 k16
          dsimp only
          walk_at "go2"
          all_goals (try rename IntsAre vl _ => hvl2)
          all_goals (try rename IntsAre ys ds => hA2)
          all_goals (try rename StrsAre ys _ => hA2)
          rename Fr _ _ _ _ => F20
          rename News _ _ _ _ => N22
          have hrl := fun (a b : Value) => rep_len [a, b] i
          simp only [List.length_cons, List.length_nil] at hrl
          refine addL F20 N22 (List.Mem.tail _ (List.Mem.tail _ (List.Mem.head _))) (List.Mem.head _) (by simp only [hrl]; omega) ?_
          intro D21 h21 F21 N23 _
          clear F20 N22
          dsimp only
          walk_at "go2"
          all_goals (try rename IntsAre vl _ => hvl2)
          all_goals (try rename IntsAre ys ds => hA2)
          all_goals (try rename StrsAre ys _ => hA2)
          rename Fr _ _ _ _ => F22
          rename News _ _ _ _ => N24
          refine addL F22 N24 (List.Mem.head _) (List.Mem.tail _ (List.Mem.tail _ (List.Mem.tail _ (List.Mem.head _)))) (by simp only [List.length_append, hrl]; omega) ?_
          intro D22 h22 F23 N25 _
          clear F22 N24
          dsimp only
          walk_at "go2"
          all_goals (try rename IntsAre vl _ => hvl2)
          all_goals (try rename IntsAre ys ds => hA2)
          all_goals (try rename StrsAre ys _ => hA2)
          refine star_seq F23 N25 (List.Mem.head _) rfl rfl (.inl rfl) rfl ?_ ?_
          · simp only [List.size_toArray, sizeLine_eq, List.length_append, hrl]; omega
          intro h23 F24 N26
          clear F23 N25
          dsimp only
          walk_at "go2"
          all_goals (try rename IntsAre vl _ => hvl2)
          all_goals (try rename IntsAre ys ds => hA2)
          all_goals (try rename StrsAre ys _ => hA2)
          rw [List.append_nil]
          refine repl_call (ps := offs i ++ bcks i ++ offs i) (X.keeps F24.keep) (T.keeps F24.keep) hh ?_ (strs_append (strs_append (strs_rep (.cons _ _ (.cons _ _ .nil)) i) (strs_rep (.cons _ _ (.cons _ _ .nil)) i)) (strs_rep (.cons _ _ (.cons _ _ .nil)) i)) (by rw [List.length_append, List.length_append, offs_len, bcks_len]; omega) (ok_three (by omega) i) ?_
          · show A.depth + 1 < 800; omega
          intro t25 h25 tk25 k25
          have F26 := F24.keeps k25
          have N28 : News s.heap L h25 [(h9.objs.size, oI), (dl, listOf vl.toArray nl), (sz, listOf vsz.toArray n), (L + 1, oc')] := fun p hp => (N26.grown k25) p (List.Mem.tail _ (List.Mem.tail _ (List.Mem.tail _ (List.Mem.tail _ (List.Mem.tail _ (List.Mem.tail _ hp))))))
          clear F24 N26 k25
          rw [back_eq hg i]
          dsimp only
          walk_at "go2"
          all_goals (try rename IntsAre vl _ => hvl2)
          all_goals (try rename IntsAre ys ds => hA2)
          all_goals (try rename StrsAre ys _ => hA2)
          refine repl_call (ps := [Str.ofString "r", Str.ofString "!", Str.ofString "u", Str.ofString "r", Str.ofString "!", Str.ofString "u"]) (X.keeps F26.keep) (T.keeps F26.keep) hh ?_ (.cons _ _ (.cons _ _ (.cons _ _ (.cons _ _ (.cons _ _ (.cons _ _ .nil)))))) (by decide) (ok_swap (by omega)) ?_
          · show A.depth + 1 < 800; omega
          intro t26 h26 tk26 k26
          have F27 := F26.keeps k26
          have N29 := N28.grown k26
          clear F26 N28 k26
          have hswl := swap_len hgi
          generalize hsw : repl (outline (clN i ns0) Wn) [Str.ofString "r", Str.ofString "!", Str.ofString "u", Str.ofString "r", Str.ofString "!", Str.ofString "u"] = sw at hswl ⊢
          dsimp only
          walk_at "go2"
          all_goals (try rename IntsAre vl _ => hvl2)
          all_goals (try rename IntsAre ys ds => hA2)
          all_goals (try rename StrsAre ys _ => hA2)
          rename_i h27 oc3 F28 N30 hoc3
          refine comp_range (V := fun (x : Str) v => ∃ t, v = Value.str x t) (f := fun j => some (mirAt sw j)) hh rfl (by decide) rfl (by decide) ?_
          walk_at "go2"
          all_goals (try rename IntsAre vl _ => hvl2)
          all_goals (try rename IntsAre ys ds => hA2)
          all_goals (try rename StrsAre ys _ => hA2)
          rename_i h28 tk28 _ _ _ hr28 F29 N31 k28
          refine ⟨_, _, _, _, _, _, _, sw.length, rfl, hr28, ?_, ?_, by omega, ?_, ?_⟩
          · exact rngm_small sw.length (by omega)
          · exact rngm_size sw.length
          · rintro j v C I oI2 D oD h3 tk3 m3 ⟨hj, t3, rfl⟩ F3 N3
            have hcell := (N31 _ (List.Mem.tail _ (List.Mem.tail _ (List.Mem.tail _ (List.Mem.head _))))).1
            clear F29 N31 k28 hr28
            dsimp only at F3 N3 hcell ⊢
            refine cmS F3 N3 ?_
            intro h4 F4 N4
            clear F3 N3
            refine wpAny_tests_nil ?_
            rw [if_pos rfl]
            dsimp only
            walk_at "go2"
            all_goals (try rename IntsAre vl _ => hvl2)
            all_goals (try rename IntsAre ys ds => hA2)
            all_goals (try rename StrsAre ys _ => hA2)
            exact ⟨⟨_, _, _, rfl, F4, N4⟩, _, rfl, _, rfl⟩
          · intro D h3 tk3 ys k3 kD kD0 hA
            have F30 := F29.keeps k3
            have N32 : News s.heap L h3 _ := news_new F29 N31 k3 kD kD0
            have hA2 := hA.strs
            rw [List.filterMap_eq_map'] at hA2
            clear F29 N31 k3 kD kD0 hA k28 hr28
            dsimp only
            walk_at "go2"
            all_goals (try rename IntsAre vl _ => hvl2)
            all_goals (try rename IntsAre ys ds => hA2)
            all_goals (try rename StrsAre ys _ => hA2)
            refine join_listC ⟨_, (N32 _ (List.Mem.head _)).1, rfl, _, rfl⟩ hA2 (by decide) (mir_fits hswl (by omega)) ?_
            intro t31 k31
            have hm : Txt.join (Str.ofString "") ((List.range sw.length).map (mirAt sw)) = outline (cols (clN i ns0) Wn) ns0.length := by
              have := mir_eq hgi
              rw [hsw] at this
              exact this
            rw [hm]
            dsimp only
            walk_at "go2"
            all_goals (try rename IntsAre vl _ => hvl2)
            rename Fr _ _ _ _ => F31
            rename News _ _ _ _ => N33
            refine cols_call (X.keeps F31.keep) (T.keeps F31.keep) hh ?_ ⟨_, (N33 _ (List.Mem.tail _ (List.Mem.tail _ (List.Mem.head _)))).1, rfl, _, rfl⟩ hvl2 (by have := hgi.1; omega) hgi.2.1 (by omega) ?_
            · show A.depth + 1 < 800; omega
            intro d32 vs32 n32 h32 tk32 k32 g32 g32n hI32
            have F33 := F31.keeps k32
            have N35 := news_new F31 N33 k32 g32 g32n
            clear F31 N33 k32 g32 g32n
            have hcl := cols_len hgi
            dsimp only
            walk_at "go2"
            all_goals (try rename IntsAre vl _ => hvl2)
            all_goals (try rename IntsAre vs32 _ => hI32)
            refine outl_call (X.keeps F33.keep) (T.keeps F33.keep) hh ?_ ⟨_, (N35 _ (List.Mem.head _)).1, rfl, _, rfl⟩ hI32 (by omega) (fun x hx => by have := hcl.2 x hx; omega) (by omega) ?_
            · show A.depth + 1 < 800; omega
            intro t34 h34 tk34 k34
            have F35 := F33.keeps k34
            have N37 : News s.heap L h34 [(h9.objs.size, oI), (dl, listOf vl.toArray nl), (sz, listOf vsz.toArray n), (L + 1, oc3)] := fun p hp => (N35.grown k34) p (List.Mem.tail _ (List.Mem.tail _ hp))
            clear F33 N35 k34
            dsimp only
            walk_at "go2"
            all_goals (try rename IntsAre vl _ => hvl2)
            refine cless_call (X.keeps F35.keep) (T.keeps F35.keep) hh ?_ ⟨_, (N37 _ (List.Mem.tail _ (List.Mem.head _))).1, rfl, _, rfl⟩ hvl2 (by have := hgi.1; omega) hgi.2.1 ?_
            · show A.depth + 1 < 800; omega
            intro d36 vs36 n36 h36 tk36 k36 g36 g36n hI36
            have F37 := F35.keeps k36
            have N39 := news_new F35 N37 k36 g36 g36n
            have hne := news_lt N37 g36n
            have hdL : d36 ≠ L + 1 := Ne.symm (hne _ (List.Mem.tail _ (List.Mem.tail _ (List.Mem.tail _ (List.Mem.head _)))))
            clear F35 N37 k36 g36 g36n
            dsimp only
            walk_at "go2"
            all_goals (try rename IntsAre vl _ => hvl2)
            rename Fr _ _ _ _ => F38
            rename News _ _ _ _ => N40
            refine ⟨_, _, _, [(d36, listOf vs36.toArray n36), (sz, listOf vsz.toArray n), (L + 1, oc3)], rfl, F38, ?_, ?_, _, _, _, _, _, rfl, hI36, hoc3, hdL, rfl, q2, q3, q4⟩
            · intro p hp
              rcases List.mem_cons.mp hp with rfl | hp
              · exact N40 _ (List.Mem.tail _ (List.Mem.head _))
              · rcases List.mem_cons.mp hp with rfl | hp
                · exact N40 _ (List.Mem.head _)
                · exact N40 p (List.Mem.tail _ (List.Mem.tail _ (List.Mem.tail _ hp)))
            · intro p hp
              rcases List.mem_cons.mp hp with rfl | hp
              · exact Ne.symm (hne _ (List.Mem.head _))
              · rcases List.mem_cons.mp hp with rfl | hp
                · exact off _ (List.Mem.tail _ (List.Mem.head _))
                · rw [List.mem_singleton.mp hp]; exact hIL
        · rintro h tk m news ⟨dl, vl, nl, oc', c, rfl, hvl2, hoc, hdl1, q1, q2, q3, q4⟩ F11 N13
          walk_at "go"
          exact hR _ _ _ _ F11
      · exact absurd (sorted_unique (insAll_sorted _) (by assumption) ((insAll_perm _).trans (List.Perm.symm (by assumption)))) (by assumption)
end Mine
end PC2g

section PFIN2
open PySem PySem.W PyProof.Rows PySem.Calls
set_option maxRecDepth 100000
set_option maxHeartbeats 8000000
theorem PySem.Challenge.cw_ph0062_02_holds : PySem.Challenge.rw_ph0062_02.Holds := by
  refine Mine.hd ?_
  k_fill
  intro w s₀ s₁ mg mb G Y fa o pm cd doc dV kV ho hd hcd hD hmg hg args vals as hpre hlay hrd hwl hlo
  have KX := kIn_of Y
  refine Ground.open G ?_
  intro T B D TE TW
  wrow_args hpre hlay hrd hwl hlo
  have hfa : fa = 79 := by
    have e := mg_of KX T.g (n := Str.ofString "law") (v := .ref 79) rfl
    have e2 : some (Value.ref fa) = some (Value.ref 79) := hmg.symm.trans e
    exact Value.ref.inj (Option.some.inj e2)
  subst hfa
  refine wpAny_call (Mine.law_code KX T rfl (by decide) (by decide) (by assumption) (by assumption) (by omega) ?_)
  intro L m h' tk F
  dsimp only
  refine GoodW.toG ?_
  wrow_close
end PFIN2

