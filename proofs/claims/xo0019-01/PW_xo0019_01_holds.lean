import PyProof.Rows.All
import Wide.All
import OpenK.AllK
import Wide.FinOn
import Lean
import PySem.Challenge.RW_xo0019_01
set_option Elab.async false
set_option linter.unusedVariables false
open PySem PySem.W PySem.Calls PyProof.Rows

-- part Hd
namespace Mine
set_option maxRecDepth 100000 in
set_option maxHeartbeats 8000000 in
open_top hd for PySem.Challenge.rw_xo0019_01
end Mine

-- part P1
namespace Mine
open Builtin.Str StrLaws

-- texts as lists of signs
noncomputable abbrev T (l : List Nat) : PySem.Str := ⟨l.toArray⟩
theorem T_len (l : List Nat) : (T l).length = l.length := by simp [PySem.Str.length]
theorem T_app (a b : List Nat) : T a ++ T b = T (a ++ b) := PySem.Str.ext' (by rw [PySem.Str.cps_append]; simp)
theorem T_of (x : PySem.Str) : x = T x.cps.toList := rfl
theorem T_inj {a b : List Nat} (h : T a = T b) : a = b := by
  have := congrArg (fun x : PySem.Str => x.cps.toList) h
  simpa using this

/-- a text cut at a word -/
noncomputable def consHead (c : Nat) : List (List Nat) → List (List Nat)
  | [] => [[c]]
  | h :: t => (c :: h) :: t
noncomputable def spl (p : List Nat) : Nat → List Nat → List (List Nat)
  | _, [] => [[]]
  | k + 1, _ :: r => spl p k r
  | 0, c :: r => if p.isPrefixOf (c :: r) = true then [] :: spl p (p.length - 1) r else consHead c (spl p 0 r)
noncomputable def glue (z : List Nat) : List (List Nat) → List Nat
  | [] => []
  | [p] => p
  | p :: q :: r => p ++ z ++ glue z (q :: r)

theorem spl_ne (p : List Nat) : ∀ k l, spl p k l ≠ []
  | k, [] => by cases k <;> simp [spl]
  | k + 1, _ :: r => by rw [spl]; exact spl_ne p k r
  | 0, c :: r => by
    rw [spl]; split
    · simp
    · cases spl p 0 r <;> simp [consHead]
theorem spl_skip (p : List Nat) : ∀ k l, spl p k l = spl p 0 (l.drop k)
  | 0, _ => rfl
  | k + 1, [] => rfl
  | k + 1, _ :: r => by rw [spl, List.drop_succ_cons]; exact spl_skip p k r

theorem at_iff {l y : List Nat} (hy : y ≠ []) (i : Nat) : At (T l) (T y) (T l).length i ↔ y.isPrefixOf (l.drop i) = true := by
  unfold At
  rw [subAt_eq, T_len, T_len, List.isPrefixOf_iff_prefix, List.prefix_iff_eq_take]
  show i + y.length ≤ l.length ∧ ((l.drop i).take y.length == y) = true ↔ _
  rw [beq_iff_eq]
  constructor
  · rintro ⟨_, h⟩; exact h.symm
  · intro h
    refine ⟨?_, h.symm⟩
    have h1 := congrArg List.length h
    rw [List.length_take, List.length_drop] at h1
    have : 0 < y.length := List.length_pos_iff.mpr hy
    omega

theorem consHead_eq (c : Nat) {p : List (List Nat)} {h t} (e : p = h :: t) : consHead c p = (c :: h) :: t := by subst e; rfl

theorem spl_none {l y : List Nat} (hy : y ≠ []) : ∀ (n a : Nat), l.length - a = n → (∀ k, a ≤ k → ¬ At (T l) (T y) (T l).length k) → spl y 0 (l.drop a) = [l.drop a]
  | 0, a, hn, _ => by rw [List.drop_of_length_le (by omega)]; rfl
  | n + 1, a, hn, h => by
    have hlt : a < l.length := by omega
    have hna := h a (Nat.le_refl _)
    rw [at_iff hy] at hna
    rw [List.drop_eq_getElem_cons hlt] at hna ⊢
    rw [spl, if_neg hna, spl_none hy n (a + 1) (by omega) (fun k hk => h k (by omega))]
    rfl

theorem sub_list (l : List Nat) (i j : Nat) : (strSub (T l) i j).cps.toList = (l.drop i).take (j - i) := strSub_toList _ _ _

theorem spl_cut {l y : List Nat} (hy : y ≠ []) : ∀ (n a c : Nat), c - a = n → a ≤ c → At (T l) (T y) (T l).length c → (∀ k, a ≤ k → k < c → ¬ At (T l) (T y) (T l).length k) →
    spl y 0 (l.drop a) = (l.drop a).take (c - a) :: spl y 0 (l.drop (c + y.length))
  | 0, a, c, hn, hac, hc, _ => by
    obtain rfl : a = c := by omega
    have h1 := hc.1
    rw [T_len, T_len] at h1
    have hlt : a < l.length := by have : 0 < y.length := List.length_pos_iff.mpr hy; omega
    rw [at_iff hy] at hc
    rw [List.drop_eq_getElem_cons hlt] at hc ⊢
    rw [spl, if_pos hc, spl_skip, List.drop_drop, Nat.sub_self, List.take_zero]
    have : 0 < y.length := List.length_pos_iff.mpr hy
    have e : a + 1 + (y.length - 1) = a + y.length := by omega
    rw [e]
  | n + 1, a, c, hn, hac, hc, h => by
    have h1 := hc.1
    rw [T_len, T_len] at h1
    have hlt : a < l.length := by have : 0 < y.length := List.length_pos_iff.mpr hy; omega
    have hna := h a (Nat.le_refl _) (by omega)
    rw [at_iff hy] at hna
    have ih := spl_cut hy n (a + 1) c (by omega) (by omega) hc (fun k hk hk' => h k (by omega) hk')
    rw [List.drop_eq_getElem_cons hlt] at hna ⊢
    rw [spl, if_neg hna, consHead_eq _ ih]
    have e : c - a = (c - (a + 1)) + 1 := by omega
    rw [e, List.take_succ_cons]

theorem parts_spl {l y : List Nat} (hy : y ≠ []) : ∀ (cuts : List Nat) (a f : Nat), ChainG (T l) (T y) (T l).length a cuts f → (∀ k, f ≤ k → ¬ At (T l) (T y) (T l).length k) →
    (partsFrom (T l) (T y).length a cuts).map (fun p => p.cps.toList) = spl y 0 (l.drop a)
  | [], a, f, h, hn => by
    have e : f = a := h
    subst e
    show [(strSub (T l) f (T l).length).cps.toList] = _
    rw [sub_list, T_len, spl_none hy _ f rfl hn, List.take_of_length_le (by simp)]
  | c :: r, a, f, h, hn => by
    have ih := parts_spl hy r (c + (T y).length) f h.2.2.2 hn
    show (strSub (T l) a c).cps.toList :: (partsFrom (T l) (T y).length (c + (T y).length) r).map (fun p => p.cps.toList) = _
    rw [ih, sub_list, T_len, spl_cut hy _ a c rfl h.1 h.2.1 h.2.2.1]

theorem occ_spl {l y : List Nat} (hy : y ≠ []) : (partsBetween (T l) (occurrences (T l) (T y) 0 (T l).length ((T l).length + 1)) (T y).length).map (fun p => p.cps.toList) = spl y 0 l := by
  obtain ⟨f, h, hn⟩ := occ_tight (T l) (T y) (by rw [T_len]; exact List.length_pos_iff.mpr hy)
  rw [partsBetween_eq]
  have := parts_spl hy _ 0 f h hn
  simpa using this

theorem join_glue (z : List Nat) : ∀ ps : List PySem.Str, (PySem.Str.join (T z) ps).cps.toList = glue z (ps.map fun p => p.cps.toList)
  | [] => rfl
  | [_] => rfl
  | p :: q :: r => by
    show (p ++ T z ++ PySem.Str.join (T z) (q :: r)).cps.toList = _
    rw [PySem.Str.cps_append, PySem.Str.cps_append]
    have ih := join_glue z (q :: r)
    simp only [List.map_cons] at ih
    simp only [Array.toList_append, ih, glue, List.map_cons]

theorem occ_empty {l y : List Nat} (hy : y ≠ []) (he : occurrences (T l) (T y) 0 (T l).length ((T l).length + 1) = []) : spl y 0 l = [l] := by
  have := occ_spl (l := l) hy
  rw [he] at this
  rw [← this]
  simp [partsBetween, sub_list, T_len]

theorem T_toList (x : PySem.Str) (l : List Nat) (h : x.cps.toList = l) : x = T l := by subst h; rfl

theorem replace_eq {l y z : List Nat} (hy : y ≠ []) : Txt.replace (T l) (T y) (T z) = T (glue z (spl y 0 l)) := by
  unfold Txt.replace
  split
  · rename_i h
    have hz : ((T y).length == 0) = false := by rw [T_len]; have : 0 < y.length := List.length_pos_iff.mpr hy; simp; omega
    rw [hz] at h
    have h : occurrences (T l) (T y) 0 (T l).length ((T l).length + 1) = [] := by simpa using h
    rw [occ_empty hy h]; rfl
  · refine T_toList _ _ ?_
    rw [glued_eq_join, join_glue, occ_spl hy]

theorem split_eq {l y : List Nat} (hy : y ≠ []) : Txt.split (T l) (T y) = (spl y 0 l).map T := by
  have key : ∀ ps : List PySem.Str, ps = (ps.map fun p => p.cps.toList).map T := fun ps => by
    induction ps with
    | nil => rfl
    | cons p r ih => simp only [List.map_cons]; rw [← ih]
  unfold Txt.split
  split
  · rename_i h
    have : occurrences (T l) (T y) 0 (T l).length ((T l).length + 1) = [] := occ_nil_of_no _ _ _ fun i hi => by
      rcases Bool.or_eq_true_iff.mp h with h | h
      · have := of_decide_eq_true h; omega
      · cases e : subAt (T l) (T y) i
        · rfl
        · have := kind_le _ _ e; have := of_decide_eq_true h; omega
    rw [occ_empty hy this]; rfl
  · split
    · rename_i h
      rw [occ_empty hy (List.isEmpty_iff.mp h)]; rfl
    · rw [← occ_spl hy]; exact key _

theorem has_eq {l y : List Nat} (hy : y ≠ []) : (!(occurrences (T l) (T y) 0 (T l).length 1).isEmpty) = decide (1 < (spl y 0 l).length) := by
  rw [Bool.eq_iff_iff, found_iff, decide_eq_true_eq]
  constructor
  · rintro ⟨i, hi⟩
    obtain ⟨f, h, hn⟩ := occ_tight (T l) (T y) (by rw [T_len]; exact List.length_pos_iff.mpr hy)
    rw [← occ_spl hy, List.length_map]
    cases hc : occurrences (T l) (T y) 0 (T l).length ((T l).length + 1) with
    | nil =>
      rw [hc] at h
      have e : f = 0 := h
      subst e
      exact absurd hi (hn i (Nat.zero_le _))
    | cons c r => rw [partsBetween_eq]; obtain ⟨p, q, e⟩ := partsFrom_ne (T l) (T y).length (c + (T y).length) r; simp [partsFrom, e]
  · intro h
    cases hc : occurrences (T l) (T y) 0 (T l).length ((T l).length + 1) with
    | nil => rw [occ_empty hy hc] at h; simp at h
    | cons c r =>
      obtain ⟨f, h', hn⟩ := occ_tight (T l) (T y) (by rw [T_len]; exact List.length_pos_iff.mpr hy)
      rw [hc] at h'
      exact ⟨c, h'.2.1⟩

theorem count_eq {l y : List Nat} (hy : y ≠ []) : Txt.count (T l) (T y) = (((spl y 0 l).length - 1 : Nat) : Int) := by
  unfold Txt.count
  rw [← occ_spl hy, List.length_map]
  unfold partsBetween
  simp

/-- one sign -/
noncomputable def rep1 (c : Nat) (z : List Nat) (l : List Nat) : List Nat := l.flatMap fun x => if x = c then z else [x]
theorem glue_consHead (z : List Nat) (c : Nat) : ∀ p : List (List Nat), p ≠ [] → glue z (consHead c p) = c :: glue z p
  | [], h => absurd rfl h
  | [_], _ => rfl
  | _ :: _ :: _, _ => rfl
theorem glue_nil (z : List Nat) : ∀ p : List (List Nat), p ≠ [] → glue z ([] :: p) = z ++ glue z p
  | [], h => absurd rfl h
  | _ :: _, _ => rfl
theorem one_pre (c x : Nat) (r : List Nat) : [c].isPrefixOf (x :: r) = decide (x = c) := by
  simp only [List.isPrefixOf, Bool.and_true]
  rw [Bool.eq_iff_iff]
  simp only [beq_iff_eq, decide_eq_true_eq]
  exact eq_comm
theorem glue_one (c : Nat) (z : List Nat) : ∀ l, glue z (spl [c] 0 l) = rep1 c z l
  | [] => rfl
  | x :: r => by
    have ih := glue_one c z r
    rw [spl, one_pre]
    unfold rep1 at ih ⊢
    rw [List.flatMap_cons]
    by_cases h : x = c
    · rw [if_pos (by simpa using h), if_pos h]
      show glue z ([] :: spl [c] 0 r) = _
      rw [glue_nil _ _ (spl_ne _ _ _), ih]
    · rw [if_neg (by simpa using h), if_neg h, glue_consHead _ _ _ (spl_ne _ _ _), ih]; rfl
theorem replace_one' (l z : List Nat) (c : Nat) : Txt.replace (T l) (T [c]) (T z) = T (rep1 c z l) := by rw [replace_eq (by simp), glue_one]

theorem spl_one_len (c : Nat) : ∀ l, (spl [c] 0 l).length = l.count c + 1
  | [] => rfl
  | x :: r => by
    have ih := spl_one_len c r
    rw [spl, one_pre]
    by_cases h : x = c
    · subst h
      rw [if_pos (by simp), List.count_cons_self]
      show ([] :: spl [x] 0 r).length = _
      rw [List.length_cons, ih]
    · rw [if_neg (by simpa using h), List.count_cons_of_ne (by simpa using h)]
      obtain ⟨p, q, e⟩ := List.exists_cons_of_ne_nil (spl_ne [c] 0 r)
      rw [e] at ih ⊢
      simpa [consHead] using ih
theorem has_one (l : List Nat) (c : Nat) : (!(occurrences (T l) (T [c]) 0 (T l).length 1).isEmpty) = decide (c ∈ l) := found_one (T l) c
theorem count_one (l : List Nat) (c : Nat) : Txt.count (T l) (T [c]) = ((l.count c : Nat) : Int) := by
  rw [count_eq (by simp), spl_one_len]; simp

/-- two signs -/
noncomputable def rep2 (a b : Nat) (z : List Nat) : List Nat → List Nat
  | [] => []
  | [x] => [x]
  | x :: y :: r => if x = a ∧ y = b then z ++ rep2 a b z r else x :: rep2 a b z (y :: r)
theorem two_pre (a b x y : Nat) (r : List Nat) : [a, b].isPrefixOf (x :: y :: r) = decide (x = a ∧ y = b) := by
  simp only [List.isPrefixOf, Bool.and_true]
  rw [Bool.eq_iff_iff]
  simp only [Bool.and_eq_true, beq_iff_eq, decide_eq_true_eq]
  exact ⟨fun h => ⟨h.1.symm, h.2.symm⟩, fun h => ⟨h.1.symm, h.2.symm⟩⟩
theorem glue_two (a b : Nat) (z : List Nat) : ∀ l, glue z (spl [a, b] 0 l) = rep2 a b z l
  | [] => rfl
  | [x] => by
    rw [spl, if_neg (by simp [List.isPrefixOf])]; rfl
  | x :: y :: r => by
    rw [spl, two_pre, rep2]
    by_cases h : x = a ∧ y = b
    · rw [if_pos (by simpa using h), if_pos h]
      show glue z ([] :: spl [a, b] 1 (y :: r)) = _
      rw [glue_nil _ _ (spl_ne _ _ _)]
      show z ++ glue z (spl [a, b] 0 r) = _
      rw [glue_two a b z r]
    · rw [if_neg (by simpa using h), if_neg h, glue_consHead _ _ _ (spl_ne _ _ _), glue_two a b z (y :: r)]
theorem replace_two (l z : List Nat) (a b : Nat) : Txt.replace (T l) (T [a, b]) (T z) = T (rep2 a b z l) := by rw [replace_eq (by simp), glue_two]

noncomputable def has2 (a b : Nat) : List Nat → Bool
  | [] => false
  | [_] => false
  | x :: y :: r => decide (x = a ∧ y = b) || has2 a b (y :: r)
theorem spl_two_len (a b : Nat) : ∀ l, decide (1 < (spl [a, b] 0 l).length) = has2 a b l
  | [] => rfl
  | [x] => by rw [spl, if_neg (by simp [List.isPrefixOf])]; rfl
  | x :: y :: r => by
    have ih := spl_two_len a b (y :: r)
    rw [spl, two_pre, has2]
    by_cases h : x = a ∧ y = b
    · rw [if_pos (by simpa using h), decide_eq_true h, Bool.true_or]
      have := List.length_pos_iff.mpr (spl_ne [a, b] ([a, b].length - 1) (y :: r))
      simp only [List.length_cons, decide_eq_true_eq] at this ⊢; omega
    · rw [if_neg (by simpa using h), decide_eq_false h, Bool.false_or, ← ih]
      obtain ⟨p, q, e⟩ := List.exists_cons_of_ne_nil (spl_ne [a, b] 0 (y :: r))
      rw [e]; rfl
theorem has_two (l : List Nat) (a b : Nat) : (!(occurrences (T l) (T [a, b]) 0 (T l).length 1).isEmpty) = has2 a b l := by rw [has_eq (by simp), spl_two_len]

/-- the first place -/
theorem index_one (l : List Nat) (c : Nat) (h : c ∈ l) : ∃ r, occurrences (T l) (T [c]) 0 (T l).length 1 = (l.takeWhile (fun x => x != c)).length :: r := by
  rcases occ_head (T l) (T [c]) 1 (Nat.le_refl _) with ⟨h0, _⟩ | ⟨i, r, e, hi, hn⟩
  · have := has_one l c
    rw [h0] at this
    simp [h] at this
  · refine ⟨r, ?_⟩
    rw [e]
    have e2 : i = (l.takeWhile (fun x => x != c)).length := by
      have key : ∀ (l : List Nat) (i : Nat), [c].isPrefixOf (l.drop i) = true → (∀ k, k < i → ¬ [c].isPrefixOf (l.drop k) = true) → i = (l.takeWhile (fun x => x != c)).length := by
        intro l
        induction l with
        | nil => intro i h; simp at h
        | cons x r ih =>
          intro i h1 h2
          by_cases hx : x = c
          · subst hx
            cases i with
            | zero => simp
            | succ i => exact absurd (by rw [List.drop_zero, one_pre]; simp) (h2 0 (Nat.succ_pos _))
          · cases i with
            | zero => rw [List.drop_zero, one_pre] at h1; exact absurd (of_decide_eq_true h1) hx
            | succ i =>
              rw [List.takeWhile_cons_of_pos (by simpa using hx), List.length_cons]
              rw [← ih i (by simpa using h1) (fun k hk => by have := h2 (k + 1) (by omega); simpa using this)]
      refine key l i ((at_iff (by simp) i).mp hi) fun k hk hk' => hn k hk ((at_iff (by simp) k).mpr hk')
    rw [e2]

theorem join_empty (ps : List (List Nat)) : PySem.Str.join PySem.Str.empty (ps.map T) = T ps.flatten := by
  have key : ∀ ps : List (List Nat), glue [] ps = ps.flatten := by
    intro ps
    induction ps with
    | nil => rfl
    | cons p r ih =>
      cases r with
      | nil => simp [glue]
      | cons q r => rw [glue, ih]; simp
  refine T_toList _ _ ?_
  have := join_glue [] (ps.map T)
  rw [show (T [] : PySem.Str) = PySem.Str.empty from rfl] at this
  rw [this, ← key ps, List.map_map]
  congr 1
  exact List.map_id'' (fun _ => rfl) ps
end Mine

-- part B1
set_option maxRecDepth 100000
namespace Mine

noncomputable abbrev PW : Program := PySem.Challenge.pw_xo0019_01
noncomputable abbrev KK (w : World) : Frag := hd.heap_39 w.params
noncomputable abbrev LooseX : List PySem.Str := looseW hd.view_39 []

/-- what holds of every heap of the call -/
structure Bs (w : World) (h : Heap) : Prop where
  k : (KK w).In h
  t : ∃ mg mb, TopRead hd.view_39 LooseX mg mb h

theorem Bs.keeps {w : World} {h h' : Heap} (x : Bs w h) (hk : ∀ b o, h.get? b = some o → h'.get? b = some o) : Bs w h' :=
  ⟨x.k.keeps hk, let ⟨mg, mb, t⟩ := x.t; ⟨mg, mb, t.keeps hk⟩⟩
theorem Bs.lim {w : World} {h : Heap} (x : Bs w h) : h.NoLimit := let ⟨_, _, t⟩ := x.t; t.nolimit

/-- room for the calls -/
noncomputable def OkA (k : Nat) (A : Around) : Prop := A.handled = none ∧ A.depth + k ≤ 500 ∧ A.units + 10 * k ≤ 5000
theorem OkA.handled {k : Nat} {A : Around} (h : OkA k A) : A.handled = none := h.1
theorem OkA.room {k : Nat} {A : Around} (h : OkA k A) : A.depth < recursionLimit := by
  have := h.2.1; simp only [recursionLimit]; omega
theorem OkA.deeper {k : Nat} {A : Around} (h : OkA (k + 1) A) (env : Env) : OkA k (A.deeper env) :=
  ⟨h.1, by have := h.2.1; show A.depth + 1 + k ≤ 500; omega, by have := h.2.2; show A.units + 3 + 10 * k ≤ 5000; omega⟩
theorem OkA.in1 {k : Nat} {A : Around} (h : OkA (k + 1) A) : OkA k A.in1 :=
  ⟨h.1, by have := h.2.1; show A.depth + k ≤ 500; omega, by have := h.2.2; show A.units + 1 + 10 * k ≤ 5000; omega⟩
theorem OkA.mono {k j : Nat} {A : Around} (h : OkA k A) (hj : j ≤ k) : OkA j A := ⟨h.1, by have := h.2.1; omega, by have := h.2.2; omega⟩
theorem OkA.units {k : Nat} {A : Around} (h : OkA k A) : A.units < cLine := by have := h.2.2; simp only [cLine]; omega
theorem OkA.mark {k : Nat} {A : Around} (_ : OkA k A) : A.mark none = A := by
  unfold Around.mark; rfl

noncomputable abbrev NoE : Value → Shared → Prop := fun _ _ => False
noncomputable abbrev Wp {α : Type} (w : World) (A : Around) (t : Sem α) (Q : α → Shared → Prop) (s : Shared) : Prop := wpAny (model PW w) A t Q NoE s

/-- the state of a frame: what stood at its start (b), its names, its own objects -/
structure Now (w : World) (b : Shared) (L : Addr) (m : PySem.Str → Option Value) (ns : List (Addr × Obj)) (G : Array GenState) (s : Shared) : Prop where
  B : Bs w b.heap
  F : Fr b.heap L s.heap m
  N : News b.heap L s.heap ns
  os : (s.os, s.drawn) = (b.os, b.drawn)
  toks : b.toks ≤ s.toks
  pos : 0 < b.toks
  gens : s.gens = G

noncomputable def upd (m : PySem.Str → Option Value) (x : PySem.Str) (v : Value) : PySem.Str → Option Value := fun y => if y = x then some v else m y

section
variable {w : World} {A : Around} {b s : Shared} {L : Addr} {m : PySem.Str → Option Value} {ns : List (Addr × Obj)} {G : Array GenState}

theorem Now.bs (H : Now w b L m ns G s) : Bs w s.heap := H.B.keeps H.F.keep
theorem Now.spos (H : Now w b L m ns G s) : 0 < s.toks := Nat.lt_of_lt_of_le H.pos H.toks

theorem Now.tok (H : Now w b L m ns G s) {k : Nat} (hk : s.toks ≤ k) : Now w b L m ns G { s with toks := k } :=
  ⟨H.B, H.F, H.N, H.os, Nat.le_trans H.toks hk, H.pos, H.gens⟩

/-- only new objects -/
noncomputable def Grown (h h' : Heap) : Prop := ∀ a o, h.get? a = some o → h'.get? a = some o

theorem Now.grown (H : Now w b L m ns G s) {s' : Shared} (hk : Grown s.heap s'.heap) (ho : (s'.os, s'.drawn) = (s.os, s.drawn)) (ht : s.toks ≤ s'.toks) : Now w b L m ns s'.gens s' := by
  obtain ⟨oL, es, ep, hL, r⟩ := H.F.ns
  exact ⟨H.B, ⟨⟨oL, es, ep, hk _ _ hL, r⟩, fun c o e => hk _ _ (H.F.keep c o e), H.F.above⟩, fun p hp => ⟨hk _ _ (H.N p hp).1, (H.N p hp).2⟩, ho.trans H.os, Nat.le_trans H.toks ht, H.pos, rfl⟩

theorem Now.drop (H : Now w b L m ns G s) {ns' : List (Addr × Obj)} (hs : ∀ p ∈ ns', p ∈ ns) : Now w b L m ns' G s :=
  ⟨H.B, H.F, fun p hp => H.N p (hs p hp), H.os, H.toks, H.pos, H.gens⟩
end

section
variable {w : World} {A : Around} {b s : Shared} {m : PySem.Str → Option Value} {ns : List (Addr × Obj)} {G : Array GenState} {env : Env}

theorem r_local {x : PySem.Str} {pos : Pos} {v : Value} {Q : Value → Shared → Prop} (H : Now w b env.locals m ns G s)
    (hk : env.scope.kind = .function) (hl : env.kindOf x = some .local) (hd : (x == ("__debug__" : PySem.Str)) = false) (hv : m x = some v) (h : Q v s) : Wp w A (eval (.Name x pos) env) Q s :=
  wpAny_Name (wpAny_loadName_local hk hl H.F.ns hv h) hd

theorem r_load {x : PySem.Str} {v : Value} {Q : Value → Shared → Prop} (H : Now w b env.locals m ns G s)
    (hk : env.scope.kind = .function) (hl : env.kindOf x = some .local) (hv : m x = some v) (h : Q v s) : Wp w A (loadName env x) Q s :=
  wpAny_loadName_local hk hl H.F.ns hv h

theorem r_store {x : PySem.Str} {v : Value} {Q : Unit → Shared → Prop} (H : Now w b env.locals m ns G s)
    (hk : env.scope.kind = .function) (hl : env.kindOf x = some .local)
    (h : ∀ s', Now w b env.locals (upd m x v) ns G s' → s.toks ≤ s'.toks → Q () s') : Wp w A (storeName env x v) Q s :=
  wpAny_storeName_local hl H.F.ns (fun h' hn hs => h _ ⟨H.B, H.F.set hn hs, H.N.set hs, H.os, Nat.le_trans H.toks (Nat.le_succ _), H.pos, H.gens⟩ (Nat.le_succ _)) (by rw [hk]; rfl)

theorem r_global {x : PySem.Str} {pos : Pos} {v : Value} {Q : Value → Shared → Prop} (H : Now w b env.locals m ns G s)
    (hg : env.globals = mainGlobals) (hk : env.scope.kind = .function) (hl : env.kindOf x = some .globalImplicit) (hd : (x == ("__debug__" : PySem.Str)) = false)
    (hv : nsIn (KK w) mainGlobals x = some (some v)) (h : Q v s) : Wp w A (eval (.Name x pos) env) Q s := by
  obtain ⟨mg, mb, t⟩ := H.bs.t
  exact Name_function_global hk hl (loadGlobal_global (env := env) (by rw [hg]; exact t.g) (mg_of H.bs.k t.g hv) h) hd

theorem r_builtin {x : PySem.Str} {pos : Pos} {v : Value} {Q : Value → Shared → Prop} (H : Now w b env.locals m ns G s)
    (hg : env.globals = mainGlobals) (hbn : env.builtins = builtinsNs) (hk : env.scope.kind = .function) (hl : env.kindOf x = some .globalImplicit) (hd : (x == ("__debug__" : PySem.Str)) = false)
    (hn : nsIn (KK w) mainGlobals x = some none) (hv : bootBuiltins x = some v) (hx : x ≠ "__name__") (h : Q v s) : Wp w A (eval (.Name x pos) env) Q s := by
  obtain ⟨mg, mb, t⟩ := H.bs.t
  exact Name_function_global hk hl (loadGlobal_builtin (env := env) (by rw [hg]; exact t.g) (mg_none_of H.bs.k t.g hn) (by rw [hbn]; exact t.b) ((t.builtins x hx).trans hv) h) hd

theorem r_str {x : PySem.Str} {k : Nat} {pos : Pos} {Q : Value → Shared → Prop} (H : Now w b env.locals m ns G s)
    (h : ∀ (t : Nat) s', Now w b env.locals m ns G s' → s.toks ≤ t → t < s'.toks → Q (.str x t) s') : Wp w A (eval (.Constant (.str x) k pos) env) Q s :=
  Constant_str (h _ _ (H.tok (Nat.le_succ _)) (Nat.le_refl _) (Nat.lt_succ_self _))
theorem r_int {x : Int} {k : Nat} {pos : Pos} {Q : Value → Shared → Prop} (H : Now w b env.locals m ns G s)
    (h : ∀ (t : Nat) s', Now w b env.locals m ns G s' → s.toks ≤ s'.toks → Q (.int x t) s') : Wp w A (eval (.Constant (.int x) k pos) env) Q s :=
  wpAny_Constant_int (h _ _ (H.tok (Nat.le_succ _)) (Nat.le_succ _))

/-- what stands behind a statement -/
noncomputable def thenDo (w : World) (A : Around) (rest : List Stmt) (env : Env) (Q : Flow → Shared → Prop) (f : Flow) (s' : Shared) : Prop :=
  match f with | .next => Wp w A (execs rest env) Q s' | f => Q f s'
theorem r_nil {Q : Flow → Shared → Prop} (h : Q .next s) : Wp w A (execs [] env) Q s := wpAny_execs_nil h
theorem r_cons {st : Stmt} {rest : List Stmt} {Q : Flow → Shared → Prop} (h : Wp w A (exec st env) (thenDo w A rest env Q) s) : Wp w A (execs (st :: rest) env) Q s :=
  wpAny_execs_cons (wpAny_mono h (fun f s' x => by cases f <;> exact x) fun _ _ x => x)
theorem thenDo_next {rest : List Stmt} {Q : Flow → Shared → Prop} (h : Wp w A (execs rest env) Q s) : thenDo w A rest env Q .next s := h
theorem thenDo_ret {rest : List Stmt} {Q : Flow → Shared → Prop} {v : Value} (h : Q (.ret v) s) : thenDo w A rest env Q (.ret v) s := h
theorem thenDo_brk {rest : List Stmt} {Q : Flow → Shared → Prop} (h : Q .brk s) : thenDo w A rest env Q .brk s := h
theorem thenDo_cont {rest : List Stmt} {Q : Flow → Shared → Prop} (h : Q .cont s) : thenDo w A rest env Q .cont s := h

theorem r_assign {x : PySem.Str} {p : Pos} {val : Expr} {pos : Pos} {rest : List Stmt} {Q : Flow → Shared → Prop}
    (h : Wp w A (eval val env) (fun v s₁ => Wp w A (storeName env x v) (fun _ s₂ => Wp w A (execs rest env) Q s₂) s₁) s)
    (hs : swapsWith val (some (.Name x p)) pos.line env = pure false := by rfl) : Wp w A (execs (.Assign [.Name x p] val pos :: rest) env) Q s :=
  r_cons (wpAny_Assign_Name h hs)
theorem r_aug {x : PySem.Str} {p : Pos} {op : Operator} {val : Expr} {pos : Pos} {rest : List Stmt} {Q : Flow → Shared → Prop}
    (h : Wp w A (loadName env x) (fun old s₁ => Wp w A (eval val env) (fun v s₂ => Wp w A (inplaceOp op old v)
      (fun r s₃ => Wp w A (storeName env x r) (fun _ s₄ => Wp w A (execs rest env) Q s₄) s₃) s₂) s₁) s) : Wp w A (execs (.AugAssign (.Name x p) op val pos :: rest) env) Q s :=
  r_cons (wpAny_AugAssign_Name h)
theorem r_ret {e : Expr} {pos : Pos} {rest : List Stmt} {Q : Flow → Shared → Prop} (h : Wp w A (eval e env) (fun v s' => Q (.ret v) s') s) : Wp w A (execs (.Return (some e) pos :: rest) env) Q s :=
  r_cons (wpAny_Return_some h)
theorem r_brk {pos : Pos} {rest : List Stmt} {Q : Flow → Shared → Prop} (h : Q .brk s) : Wp w A (execs (.Break pos :: rest) env) Q s :=
  r_cons (wpAny_bind (wpAny_standAt (wpAny_pure h)))
theorem r_if {test : Expr} {body orelse : List Stmt} {pos : Pos} {rest : List Stmt} {Q : Flow → Shared → Prop}
    (h : Wp w A (isTrue test env (eval test env)) (fun c s₂ => if c = true then Wp w A (execs body env) (thenDo w A rest env Q) s₂ else Wp w A (execs orelse env) (thenDo w A rest env Q) s₂) s) :
    Wp w A (execs (.If test body orelse pos :: rest) env) Q s :=
  r_cons (wpAny_If h)
theorem r_cmp {l r : Expr} {op : CmpOp} {pos : Pos} {whole : Sem Value} {Q : Bool → Shared → Prop}
    (h : Wp w A (eval l env) (fun a s₁ => Wp w A (eval r env) (fun b s₂ => Wp w A (compareOp op a b) (fun c s₃ => Wp w A (truthy c) Q s₃) s₂) s₁) s)
    (hm : behindInMarks op r = false := by with_unfolding_all rfl) : Wp w A (isTrue (.Compare l [op] [r] pos) env whole) Q s := wpAny_isTrue_Compare1 h hm
theorem r_bin {l r : Expr} {op : Operator} {pos : Pos} {Q : Value → Shared → Prop}
    (h : Wp w A (eval l env) (fun a s₁ => Wp w A (eval r env) (fun b s₂ => Wp w A (binaryOp op a b) Q s₂) s₁) s) : Wp w A (eval (.BinOp l op r pos) env) Q s := wpAny_BinOp h
theorem r_tb {c : Bool} {Q : Bool → Shared → Prop} (h : Q c s) : Wp w A (truthy (.bool c)) Q s := wpAny_truthy_bool h

theorem r_add {x y : PySem.Str} {t u : Tok} {Q : Value → Shared → Prop} (H : Now w b L m ns G s) (hb : x.length + y.length ≤ 16777216)
    (h : ∀ (t : Nat) s', Now w b L m ns G s' → s.toks ≤ s'.toks → Q (.str (x ++ y) t) s') : Wp w A (binaryOp .Add (.str x t) (.str y u)) Q s := by
  refine P.add_str ?_
  have e : (2 : Nat) ^ 24 = 16777216 := by decide
  split
  · rename_i h0
    have : x = PySem.Str.empty := by obtain ⟨⟨l⟩⟩ := x; cases l with | nil => rfl | cons a r => simp [PySem.Str.length] at h0
    subst this
    rw [PySem.Str.empty_append] at h
    exact h u s H (Nat.le_refl _)
  · split
    · rename_i h0
      have : y = PySem.Str.empty := by obtain ⟨⟨l⟩⟩ := y; cases l with | nil => rfl | cons a r => simp [PySem.Str.length] at h0
      subst this
      rw [PySem.Str.append_empty] at h
      exact h t s H (Nat.le_refl _)
    · exact ⟨by rw [PySem.Str.length_append]; unfold sizeLine; omega, h _ _ (H.tok (Nat.le_succ _)) (Nat.le_succ _)⟩
theorem r_iadd {x y : PySem.Str} {t u : Tok} {Q : Value → Shared → Prop} (H : Now w b L m ns G s) (hb : x.length + y.length ≤ 16777216)
    (h : ∀ (t : Nat) s', Now w b L m ns G s' → s.toks ≤ s'.toks → Q (.str (x ++ y) t) s') : Wp w A (inplaceOp .Add (.str x t) (.str y u)) Q s := by
  refine P.iadd_str ?_
  have e : (2 : Nat) ^ 24 = 16777216 := by decide
  split
  · rename_i h0
    have : x = PySem.Str.empty := by obtain ⟨⟨l⟩⟩ := x; cases l with | nil => rfl | cons a r => simp [PySem.Str.length] at h0
    subst this
    rw [PySem.Str.empty_append] at h
    exact h u s H (Nat.le_refl _)
  · split
    · rename_i h0
      have : y = PySem.Str.empty := by obtain ⟨⟨l⟩⟩ := y; cases l with | nil => rfl | cons a r => simp [PySem.Str.length] at h0
      subst this
      rw [PySem.Str.append_empty] at h
      exact h t s H (Nat.le_refl _)
    · exact ⟨by rw [PySem.Str.length_append]; unfold sizeLine; omega, h _ _ (H.tok (Nat.le_succ _)) (Nat.le_succ _)⟩

theorem r_replace {x y z : PySem.Str} {t u v : Nat} {Q : Value → Shared → Prop} (H : Now w b L m ns G s) (hu : 0 < u) (huv : u < v) (hyz : (y == z) = false) (hx : x.length ≤ 1048576) (hz : z.length ≤ 14)
    (h : ∀ (t : Nat) s', Now w b L m ns G s' → s.toks ≤ s'.toks → Q (.str (Txt.replace x y z) t) s') : Wp w A (call (.builtin "str.replace") [.str x t, .str y u, .str z v]) Q s :=
  wpAny_with_toks (Nat.le_refl s.toks) (wpAny_mono (SC.replaceW (Q := fun v s' => s.toks ≤ s'.toks → Q v s') (Nat.ne_of_gt hu) (Nat.ne_of_gt (Nat.lt_trans hu huv)) (Nat.ne_of_lt huv) hyz hx hz fun t' k hk => h _ _ (H.tok hk) hk) (fun _ _ x => x) fun _ _ x => False.elim x)
end
end Mine

-- part B2
set_option maxRecDepth 100000
namespace Mine

noncomputable def retOf : Flow → Value | .ret v => v | _ => .none

/-- a step that only makes new objects -/
structure Step (s s' : Shared) : Prop where
  keep : Grown s.heap s'.heap
  os : (s'.os, s'.drawn) = (s.os, s.drawn)
  gens : s'.gens = s.gens
  toks : s.toks ≤ s'.toks
structure Aft (s s' : Shared) : Prop where
  keep : Grown s.heap s'.heap
  os : (s'.os, s'.drawn) = (s.os, s.drawn)
  toks : s.toks ≤ s'.toks
  gens : AllBare s.gens → AllBare s'.gens
theorem Aft.refl (s : Shared) : Aft s s := ⟨fun _ _ e => e, rfl, Nat.le_refl _, id⟩
theorem Aft.trans {s s' s'' : Shared} (x : Aft s s') (y : Aft s' s'') : Aft s s'' :=
  ⟨fun a o e => y.keep a o (x.keep a o e), y.os.trans x.os, Nat.le_trans x.toks y.toks, fun g => y.gens (x.gens g)⟩

section
variable {w : World} {A : Around} {b s s' : Shared} {L : Addr} {m : PySem.Str → Option Value} {ns : List (Addr × Obj)} {G : Array GenState} {env : Env}
theorem Step.aft (x : Step s s') : Aft s s' := ⟨x.keep, x.os, x.toks, fun g => by rw [x.gens]; exact g⟩
theorem Now.end (H : Now w b L m ns b.gens s) : Step b s := ⟨H.F.keep, H.os, H.gens, H.toks⟩
theorem Now.step (H : Now w b L m ns G s) (x : Step s s') : Now w b L m ns G s' := by
  have := H.grown x.keep x.os x.toks
  rwa [x.gens, H.gens] at this
theorem Now.aft (H : Now w b L m ns G s) (x : Aft s s') : Now w b L m ns s'.gens s' := H.grown x.keep x.os x.toks

theorem upd_same {x : PySem.Str} {v : Value} : upd m x v x = some v := if_pos rfl
theorem upd_ne {x y : PySem.Str} {v : Value} {r : Option Value} (h : decide (y = x) = false) (e : m y = r) : upd m x v y = r := (if_neg (of_decide_eq_false h)).trans e
noncomputable def noN : PySem.Str → Option Value := fun _ => none

noncomputable def fnAt (w : World) (a : Addr) : Option FuncData := match (KK w).lookup a with | some ⟨_, _, .func f, _⟩ => some f | _ => none
theorem fnAt_get {a : Addr} {fd : FuncData} (B : Bs w s.heap) (h : fnAt w a = some fd) : ∃ o, s.heap.get? a = some o ∧ o.data = .func fd := by
  unfold fnAt at h
  split at h
  · rename_i e; cases h; exact ⟨_, B.k _ _ e, rfl⟩
  · cases h

theorem call_fn {k : Nat} {a : Addr} {fd : FuncData} {body : List Stmt} {vs : List Value} {binds : List (PySem.Str × Value)} {m₀ : PySem.Str → Option Value} {Q : Value → Shared → Prop} (B : Bs w s.heap) (hp : 0 < s.toks) (hA : OkA (k + 1) A)
    (hf : fnAt w a = some fd) (hbody : fd.body = .stmts body) (hb : bindArgs fd ⟨vs, []⟩ = pure binds) (hcd : codeIn (KK w) fd.code fd.qualname = true)
    (hcell : (fd.scope.names.all fun x => x.2 != .cell) = true) (hloc : (binds.all fun x => fd.scope.names.lookup x.1 == some .local) = true)
    (hco : fd.scope.isCoroutine = false) (hgen : fd.scope.isGenerator = false) (hk : fd.scope.kind = .function) (hm : (fun x => binds.reverse.lookup x) = m₀)
    (h : ∀ (A' : Around) L s', Now w s (callEnv fd L a).locals m₀ [] s.gens s' → OkA k A' → Wp w A' (execs body (callEnv fd L a)) (fun f s'' => Q (retOf f) s'') s') :
    Wp w A (call (.ref a) vs) Q s := by
  obtain ⟨o, ho, hd⟩ := fnAt_get B hf
  refine wpAny_call (codeAny_call_def hA.room ho hd B.lim (codeRec_of B.k hcd) hbody (BindsTo.of_eq hb) (fun x hx => ?_) (fun x hx => ?_) (fun h₀ hn hk₀ => ?_) hco hgen hk)
  · have := List.all_eq_true.mp hcell x hx; simpa using this
  · have := List.all_eq_true.mp hloc x hx; simpa using this
  · rw [hm] at hn
    have F : Fr s.heap s.heap.objs.size h₀ m₀ := ⟨hn, hk₀, Nat.le_refl _⟩
    exact wpAny_mono (h _ s.heap.objs.size { s with heap := h₀, toks := s.toks + binds.length } ⟨B, F, News.nil, rfl, Nat.le_add_right _ _, hp, rfl⟩ (hA.deeper _))
      (fun f s'' x => by cases f <;> exact x) fun _ _ x => False.elim x

theorem binds1 {x : PySem.Str} {v : Value} : (fun y => [(x, v)].reverse.lookup y) = upd noN x v := by
  funext y
  show List.lookup y [(x, v)] = _
  unfold upd
  by_cases h : y = x
  · subst h; simp [List.lookup]
  · have : (y == x) = false := by simpa using h
    simp [List.lookup, this, h, noN]
theorem binds2 {x x' : PySem.Str} {v v' : Value} : (fun y => [(x, v), (x', v')].reverse.lookup y) = upd (upd noN x v) x' v' := by
  funext y
  show List.lookup y [(x', v'), (x, v)] = _
  unfold upd
  by_cases h : y = x'
  · subst h; simp [List.lookup]
  · have h1 : (y == x') = false := by simpa using h
    by_cases h2 : y = x
    · subst h2; simp [List.lookup, h1, h]
    · have h3 : (y == x) = false := by simpa using h2
      simp [List.lookup, h1, h, h3, h2, noN]

theorem r_call1 {f : PySem.Str} {a : Addr} {p pos : Pos} {e : Expr} {Q : Value → Shared → Prop} (H : Now w b env.locals m ns G s)
    (hg : env.globals = mainGlobals) (hk : env.scope.kind = .function) (hl : env.kindOf f = some .globalImplicit) (hd : (f == ("__debug__" : PySem.Str)) = false)
    (hv : nsIn (KK w) mainGlobals f = some (some (.ref a))) (hkp : keepIn (KK w) (.ref a) = true) (he : starEach [e] env = (false, eval e env) :: starEach [] env)
    (h : Wp w A (eval e env) (fun v s₁ => Bs w s₁.heap ∧ Wp w A (call (.ref a) [v]) Q s₁) s) : Wp w A (eval (.Call (.Name f p) [e] [] pos) env) Q s :=
  Call_ (r_global H hg hk hl hd hv (callWith_K (K := KK w) H.bs.k hkp (by
    refine args_cons (wpAny_mono h (fun v s₁ h₁ => args_nil ⟨h₁.1.k, ?_⟩) fun _ _ x => x) he
    exact h₁.2) he rfl)) rfl
theorem r_call2 {f : PySem.Str} {a : Addr} {p pos : Pos} {e e' : Expr} {Q : Value → Shared → Prop} (H : Now w b env.locals m ns G s)
    (hg : env.globals = mainGlobals) (hk : env.scope.kind = .function) (hl : env.kindOf f = some .globalImplicit) (hd : (f == ("__debug__" : PySem.Str)) = false)
    (hv : nsIn (KK w) mainGlobals f = some (some (.ref a))) (hkp : keepIn (KK w) (.ref a) = true) (he : starEach [e, e'] env = (false, eval e env) :: starEach [e'] env) (he' : starEach [e'] env = (false, eval e' env) :: starEach [] env)
    (h : Wp w A (eval e env) (fun v s₁ => Wp w A (eval e' env) (fun v' s₂ => Bs w s₂.heap ∧ Wp w A (call (.ref a) [v, v']) Q s₂) s₁) s) : Wp w A (eval (.Call (.Name f p) [e, e'] [] pos) env) Q s :=
  Call_ (r_global H hg hk hl hd hv (callWith_K (K := KK w) H.bs.k hkp (by
    refine args_cons (wpAny_mono h (fun v s₁ h₁ => args_cons (wpAny_mono h₁ (fun v' s₂ h₂ => args_nil ⟨h₂.1.k, ?_⟩) fun _ _ x => x) he') fun _ _ x => x) he
    exact h₂.2) he (by rw [he']; rfl))) rfl
end

noncomputable def fdAt (w : World) (a : Addr) : FuncData := ((fnAt w a).getD default)
noncomputable def topStmt (n : Nat) : Stmt := match PySem.Challenge.pw_xo0019_01.main.body.drop n with | x :: _ => x | [] => .Pass default
noncomputable def topBody (n : Nat) : List Stmt := match topStmt n with | .FunctionDef _ _ b _ _ _ _ _ _ _ => b | _ => []
end Mine

-- part B3
set_option maxRecDepth 100000
namespace Mine
open Builtin.Str StrLaws
section
variable {w : World} {A : Around} {b s : Shared} {m : PySem.Str → Option Value} {ns : List (Addr × Obj)} {G : Array GenState} {env : Env} {L : Addr}

/-- a written text -/
theorem r_lit {x : PySem.Str} {k : Nat} {pos : Pos} {Q : Value → Shared → Prop} (l : List Nat) (hx : x = T l) (H : Now w b env.locals m ns G s)
    (h : ∀ (t : Nat) s', Now w b env.locals m ns G s' → s.toks ≤ t → t < s'.toks → 0 < t → Q (.str (T l) t) s') : Wp w A (eval (.Constant (.str x) k pos) env) Q s := by
  subst hx
  exact r_str H fun t s' H' a b => h t s' H' a b (Nat.lt_of_lt_of_le H.spos a)

theorem r_addT {x y : List Nat} {t u : Tok} {Q : Value → Shared → Prop} (H : Now w b L m ns G s) (hb : x.length + y.length ≤ 1000000)
    (h : ∀ (t : Nat) s', Now w b L m ns G s' → s.toks ≤ s'.toks → Q (.str (T (x ++ y)) t) s') : Wp w A (binaryOp .Add (.str (T x) t) (.str (T y) u)) Q s :=
  r_add H (by rw [T_len, T_len]; omega) fun t s' H' a => by rw [T_app]; exact h t s' H' a
theorem r_iaddT {x y : List Nat} {t u : Tok} {Q : Value → Shared → Prop} (H : Now w b L m ns G s) (hb : x.length + y.length ≤ 1000000)
    (h : ∀ (t : Nat) s', Now w b L m ns G s' → s.toks ≤ s'.toks → Q (.str (T (x ++ y)) t) s') : Wp w A (inplaceOp .Add (.str (T x) t) (.str (T y) u)) Q s :=
  r_iadd H (by rw [T_len, T_len]; omega) fun t s' H' a => by rw [T_app]; exact h t s' H' a
theorem T_ne {y z : List Nat} (h : y ≠ z) : (T y == T z) = false := by
  cases e : (T y == T z)
  · rfl
  · exact absurd (T_inj (eq_of_beq e)) h
theorem r_rep1 {x z : List Nat} {c : Nat} {t u v : Nat} {Q : Value → Shared → Prop} (H : Now w b L m ns G s) (hu : 0 < u) (huv : u < v) (hyz : [c] ≠ z) (hx : x.length ≤ 1000000) (hz : z.length ≤ 14)
    (h : ∀ (t : Nat) s', Now w b L m ns G s' → s.toks ≤ s'.toks → Q (.str (T (rep1 c z x)) t) s') : Wp w A (call (.builtin "str.replace") [.str (T x) t, .str (T [c]) u, .str (T z) v]) Q s :=
  r_replace H hu huv (T_ne hyz) (by rw [T_len]; omega) (by rw [T_len]; exact hz) fun t s' H' a => by rw [replace_one']; exact h t s' H' a
theorem r_rep2 {x z : List Nat} {c d : Nat} {t u v : Nat} {Q : Value → Shared → Prop} (H : Now w b L m ns G s) (hu : 0 < u) (huv : u < v) (hyz : [c, d] ≠ z) (hx : x.length ≤ 1000000) (hz : z.length ≤ 14)
    (h : ∀ (t : Nat) s', Now w b L m ns G s' → s.toks ≤ s'.toks → Q (.str (T (rep2 c d z x)) t) s') : Wp w A (call (.builtin "str.replace") [.str (T x) t, .str (T [c, d]) u, .str (T z) v]) Q s :=
  r_replace H hu huv (T_ne hyz) (by rw [T_len]; omega) (by rw [T_len]; exact hz) fun t s' H' a => by rw [replace_two]; exact h t s' H' a
theorem T_beq (x y : List Nat) : ((T x).cps.toList == (T y).cps.toList) = decide (x = y) := by
  rw [Bool.eq_iff_iff]; simp
theorem r_eqT {x y : List Nat} {t u : Tok} {Q : Value → Shared → Prop} (h : Q (.bool (decide (x = y))) s) : Wp w A (compareOp .Eq (.str (T x) t) (.str (T y) u)) Q s :=
  P.eq_str (by rw [T_beq]; exact h)
theorem r_neT {x y : List Nat} {t u : Tok} {Q : Value → Shared → Prop} (h : Q (.bool (!decide (x = y))) s) : Wp w A (compareOp .NotEq (.str (T x) t) (.str (T y) u)) Q s :=
  P.ne_str (by show Q (.bool (!((T x).cps.toList == (T y).cps.toList))) s; rw [T_beq]; exact h)
theorem r_in1 {x : List Nat} {c : Nat} {t u : Tok} {Q : Value → Shared → Prop} (h : Q (.bool (decide (c ∈ x))) s) : Wp w A (compareOp .In (.str (T [c]) u) (.str (T x) t)) Q s :=
  P.in_str (by rw [has_one]; exact h)
theorem r_notIn1 {x : List Nat} {c : Nat} {t u : Tok} {Q : Value → Shared → Prop} (h : Q (.bool (!decide (c ∈ x))) s) : Wp w A (compareOp .NotIn (.str (T [c]) u) (.str (T x) t)) Q s :=
  P.notIn_str (by rw [has_one]; exact h)
theorem r_in2 {x : List Nat} {c d : Nat} {t u : Tok} {Q : Value → Shared → Prop} (h : Q (.bool (has2 c d x)) s) : Wp w A (compareOp .In (.str (T [c, d]) u) (.str (T x) t)) Q s :=
  P.in_str (by rw [has_two]; exact h)
theorem r_lenT {x : List Nat} {t : Tok} {Q : Value → Shared → Prop} (H : Now w b L m ns G s) (hx : x.length ≤ 1000000)
    (h : ∀ (t : Nat) s', Now w b L m ns G s' → s.toks ≤ s'.toks → Q (.int x.length t) s') : Wp w A (call (.builtin "len") [.str (T x) t]) Q s := by
  have e : ((T x).length : Int) = (x.length : Int) := by rw [T_len]
  refine P.len_str (by rw [e]; omega) ?_
  rw [e]
  exact h _ _ (H.tok (by omega)) (by show s.toks ≤ s.toks + 1 + 1; omega)

theorem r_countT {x : List Nat} {c : Nat} {t u : Tok} {Q : Value → Shared → Prop} (H : Now w b L m ns G s) (h : ∀ (t : Nat) s', Now w b L m ns G s' → s.toks ≤ s'.toks → Q (.int (x.count c : Nat) t) s') : Wp w A (call (.builtin "str.count") [.str (T x) t, .str (T [c]) u]) Q s :=
  SC.count (by rw [count_one]; exact h _ _ (H.tok (Nat.le_succ _)) (Nat.le_succ _))
theorem r_indexT {x : List Nat} {c : Nat} {t u : Tok} {Q : Value → Shared → Prop} (H : Now w b L m ns G s) (hc : c ∈ x) (h : ∀ (t : Nat) s', Now w b L m ns G s' → s.toks ≤ s'.toks → Q (.int ((x.takeWhile (fun y => y != c)).length : Nat) t) s') : Wp w A (call (.builtin "str.index") [.str (T x) t, .str (T [c]) u]) Q s := by
  obtain ⟨r, hr⟩ := index_one x c hc
  exact SC.index hr (h _ _ (H.tok (Nat.le_succ _)) (Nat.le_succ _))

noncomputable def StrThen (ov : Value) (K : PySem.Str → Tok → Prop) : Prop := match ov with | .str x t => K x t | _ => False
theorem strThen {x : PySem.Str} {t : Tok} {K : PySem.Str → Tok → Prop} (h : K x t) : StrThen (.str x t) K := h
theorem strThen_inv {ov : Value} {K : PySem.Str → Tok → Prop} (h : StrThen ov K) : ∃ x t, ov = .str x t ∧ K x t := by
  unfold StrThen at h
  split at h
  · exact ⟨_, _, rfl, h⟩
  · exact h.elim
structure GMs (name : PySem.Str) (id : String) : Prop where
  go : ∀ {prog : Program} {w : World} {A : Around} {E : Value → Shared → Prop} {s : Shared} {x : PySem.Str} {t : Tok} {pl : Sem Bool} {Q : Value × List Value → Shared → Prop}, Q (.builtin id, [.str x t]) s → wpAny (model prog w) A (getMethod (.str x t) name pl) Q E s
theorem r_m1 {o e : Expr} {name : PySem.Str} {id : String} {apos pos : Pos} {Q : Value → Shared → Prop} (hg : GMs name id) (he : eval (.Call (.Attribute o name apos) [e] [] pos) env = (do
      let ov ← eval o env
      standAt apos.atName
      let (f, first) ← holding [ov] (getMethod ov name (do let i ← importBound o env; pure (i.getD true)))
      callWith pos f first (backTo pos (starEach [e] env)) []))
    (h1 : starEach [e] env = (false, eval e env) :: starEach [] env)
    (h : Wp w A (eval o env) (fun ov s₁ => StrThen ov fun x t => Wp w A (eval e env) (fun v s₂ => Wp w A (call (.builtin id) [.str x t, v]) Q s₂) s₁) s) :
    Wp w A (eval (.Call (.Attribute o name apos) [e] [] pos) env) Q s := by
  with_reducible refine MethodCall_ (wpAny_mono h (fun ov s₁ h₁ => ?_) fun _ _ x => x) he
  obtain ⟨x, t, rfl, h₁⟩ := strThen_inv h₁
  with_reducible refine hg.go ?_
  show wpAny (model PW w) A (callWith pos (.builtin id) [.str x t] _ []) Q NoE s₁
  with_reducible refine callWith_method1 ?_ h1 (by with_unfolding_all rfl)
  exact args_cons (wpAny_mono h₁ (fun v s₂ h₂ => args_nil h₂) fun _ _ x => x) h1
theorem r_m2 {o e e' : Expr} {name : PySem.Str} {id : String} {apos pos : Pos} {Q : Value → Shared → Prop} (hg : GMs name id) (he : eval (.Call (.Attribute o name apos) [e, e'] [] pos) env = (do
      let ov ← eval o env
      standAt apos.atName
      let (f, first) ← holding [ov] (getMethod ov name (do let i ← importBound o env; pure (i.getD true)))
      callWith pos f first (backTo pos (starEach [e, e'] env)) []))
    (h1 : starEach [e, e'] env = (false, eval e env) :: starEach [e'] env) (h2 : starEach [e'] env = (false, eval e' env) :: starEach [] env)
    (h : Wp w A (eval o env) (fun ov s₁ => StrThen ov fun x t => Wp w A (eval e env) (fun v s₂ => Wp w A (eval e' env) (fun v' s₃ => Wp w A (call (.builtin id) [.str x t, v, v']) Q s₃) s₂) s₁) s) :
    Wp w A (eval (.Call (.Attribute o name apos) [e, e'] [] pos) env) Q s := by
  with_reducible refine MethodCall_ (wpAny_mono h (fun ov s₁ h₁ => ?_) fun _ _ x => x) he
  obtain ⟨x, t, rfl, h₁⟩ := strThen_inv h₁
  with_reducible refine hg.go ?_
  show wpAny (model PW w) A (callWith pos (.builtin id) [.str x t] _ []) Q NoE s₁
  with_reducible refine callWith_method1 ?_ h1 (by rw [h2]; with_unfolding_all rfl)
  exact args_cons (wpAny_mono h₁ (fun v s₂ h₂ => args_cons (wpAny_mono h₂ (fun v' s₃ h₃ => args_nil h₃) fun _ _ x => x) h2) fun _ _ x => x) h1
theorem gm_replace : GMs "replace" "str.replace" := ⟨by
  intro _ _ _ _ _ _ _ _ _ h
  with_reducible exact GM.replace h⟩
theorem gm_join : GMs "join" "str.join" := ⟨by
  intro _ _ _ _ _ _ _ _ _ h
  with_reducible exact GM.join h⟩
theorem gm_split : GMs "split" "str.split" := ⟨by
  intro _ _ _ _ _ _ _ _ _ h
  with_reducible exact GM.split h⟩
theorem gm_count : GMs "count" "str.count" := ⟨by
  intro _ _ _ _ _ _ _ _ _ h
  with_reducible exact GM.count h⟩
theorem gm_index : GMs "index" "str.index" := ⟨by
  intro _ _ _ _ _ _ _ _ _ h
  with_reducible exact GM.index h⟩

theorem r_truePlain {e : Expr} {whole : Sem Value} {Q : Bool → Shared → Prop} (he : isTrue e env whole = (do let v ← whole; standAt e.pos; holding [v] (truthy v)))
    (h : Wp w A whole (fun v s₁ => Wp w A (truthy v) Q s₁) s) : Wp w A (isTrue e env whole) Q s := isTrue_plain h he
end
end Mine

-- part B4
set_option maxRecDepth 100000
namespace Mine
open Builtin.Str StrLaws
noncomputable def IntThen (v : Value) (K : Int → Tok → Prop) : Prop := match v with | .int i t => K i t | _ => False
theorem intThen {i : Int} {t : Tok} {K : Int → Tok → Prop} (h : K i t) : IntThen (.int i t) K := h
theorem intThen_inv {v : Value} {K : Int → Tok → Prop} (h : IntThen v K) : ∃ i t, v = .int i t ∧ K i t := by
  unfold IntThen at h
  split at h
  · exact ⟨_, _, rfl, h⟩
  · exact h.elim
noncomputable def cut (a b : Nat) (l : List Nat) : List Nat := (l.drop a).take (b - a)
theorem cut_len (a b : Nat) (l : List Nat) : (cut a b l).length ≤ l.length := by unfold cut; simp; omega
theorem slice_ss {l : List Nat} {a b : Nat} (hab : a ≤ b) (hb : b ≤ l.length) : Txt.slice (T l) (some (a : Int)) (some (b : Int)) = T (cut a b l) := sliceText_nat (T l) hab (by rw [T_len]; exact hb)
theorem slice_ns {l : List Nat} {b : Nat} (hb : b ≤ l.length) : Txt.slice (T l) none (some (b : Int)) = T (cut 0 b l) := by
  have := sliceText_to (x := T l) (j := (b : Int)) ⟨by omega, by simpa using hb⟩
  refine this.trans ?_
  simp [cut]
theorem slice_sn {l : List Nat} {a : Nat} (ha : a ≤ l.length) : Txt.slice (T l) (some (a : Int)) none = T (l.drop a) := by
  have := sliceText_from (x := T l) (i := (a : Int)) ⟨by omega, by simpa using ha⟩
  refine this.trans ?_
  congr 2
  show ((l.drop (a : Int).toNat).take _) = _
  rw [Int.toNat_natCast]
  exact List.take_of_length_le (by simp <;> omega)

theorem slice_sn' {l : List Nat} {a : Nat} : Txt.slice (T l) (some (a : Int)) none = T (l.drop a) := by
  by_cases h : a ≤ l.length
  · exact slice_sn h
  · have h := Nat.le_of_not_le h
    rw [slice_beyond (by rw [T_len]; exact Int.ofNat_le.mpr h), List.drop_of_length_le h]; rfl

section
variable {w : World} {A : Around} {b s s' : Shared} {m : PySem.Str → Option Value} {ns : List (Addr × Obj)} {G : Array GenState} {env : Env} {L : Addr}

theorem r_addI {i j : Int} {t u : Tok} {Q : Value → Shared → Prop} (H : Now w b L m ns G s) (h : ∀ (t : Nat) s', Now w b L m ns G s' → s.toks ≤ s'.toks → Q (.int (i + j) t) s') : Wp w A (binaryOp .Add (.int i t) (.int j u)) Q s :=
  P.add_int (h _ _ (H.tok (Nat.le_succ _)) (Nat.le_succ _))
theorem r_iaddI {i j : Int} {t u : Tok} {Q : Value → Shared → Prop} (H : Now w b L m ns G s) (h : ∀ (t : Nat) s', Now w b L m ns G s' → s.toks ≤ s'.toks → Q (.int (i + j) t) s') : Wp w A (inplaceOp .Add (.int i t) (.int j u)) Q s :=
  P.iadd_int (h _ _ (H.tok (Nat.le_succ _)) (Nat.le_succ _))
theorem r_isubI {i j : Int} {t u : Tok} {Q : Value → Shared → Prop} (H : Now w b L m ns G s) (h : ∀ (t : Nat) s', Now w b L m ns G s' → s.toks ≤ s'.toks → Q (.int (i - j) t) s') : Wp w A (inplaceOp .Sub (.int i t) (.int j u)) Q s :=
  P.isub_int (h _ _ (H.tok (Nat.le_succ _)) (Nat.le_succ _))
theorem r_modI {i j : Int} {t u : Tok} {Q : Value → Shared → Prop} (H : Now w b L m ns G s) (hj : 0 < j) (h : ∀ (t : Nat) s', Now w b L m ns G s' → s.toks ≤ s'.toks → Q (.int (i % j) t) s') : Wp w A (binaryOp .Mod (.int i t) (.int j u)) Q s := by
  refine mod_int' (by omega) ?_
  rw [Int.fmod_eq_emod_of_nonneg i (by omega)]
  exact h _ _ (H.tok (Nat.le_succ _)) (Nat.le_succ _)
theorem r_divI {i j : Int} {t u : Tok} {Q : Value → Shared → Prop} (H : Now w b L m ns G s) (hj : 0 < j) (hi : 0 ≤ i) (hi' : i < 10 ^ 9) (hj' : j < 10 ^ 9) (h : ∀ (t : Nat) s', Now w b L m ns G s' → s.toks ≤ s'.toks → Q (.int (i / j) t) s') : Wp w A (binaryOp .FloorDiv (.int i t) (.int j u)) Q s := by
  refine floordiv_int (by omega) ?_ (Or.inl (PyProof.noPylong_small (by omega)))
  rw [Int.fdiv_eq_ediv_of_nonneg i (by omega)]
  exact h _ _ (H.tok (Nat.le_succ _)) (Nat.le_succ _)
theorem r_ltI {i j : Int} {t u : Tok} {Q : Value → Shared → Prop} (h : Q (.bool (decide (i < j))) s) : Wp w A (compareOp .Lt (.int i t) (.int j u)) Q s := P.lt_int h
theorem r_gtI {i j : Int} {t u : Tok} {Q : Value → Shared → Prop} (h : Q (.bool (decide (j < i))) s) : Wp w A (compareOp .Gt (.int i t) (.int j u)) Q s := P.gt_int h
theorem r_geI {i j : Int} {t u : Tok} {Q : Value → Shared → Prop} (h : Q (.bool (decide (j ≤ i))) s) : Wp w A (compareOp .GtE (.int i t) (.int j u)) Q s := P.ge_int h
theorem r_eqI {i j : Int} {t u : Tok} {Q : Value → Shared → Prop} (h : Q (.bool (decide (i = j))) s) : Wp w A (compareOp .Eq (.int i t) (.int j u)) Q s := by
  refine P.eq_int ?_
  have : (i == j) = decide (i = j) := by rw [Bool.eq_iff_iff]; simp
  rw [this]; exact h
theorem r_neI {i j : Int} {t u : Tok} {Q : Value → Shared → Prop} (h : Q (.bool (!decide (i = j))) s) : Wp w A (compareOp .NotEq (.int i t) (.int j u)) Q s := by
  refine P.ne_int ?_
  have : (i != j) = !decide (i = j) := by rw [Bool.eq_iff_iff]; simp
  rw [this]; exact h

/-- the piece of a text -/
noncomputable def Cut (w : World) (A : Around) (x : PySem.Str) (lo hi : Option Int) (Q : Value → Shared → Prop) (s : Shared) : Prop :=
  x.length ≤ 1000000 ∧ ∀ (t : Nat) s', Step s s' → Q (.str (Txt.slice x lo hi) t) s'
theorem cutStep {x : PySem.Str} {t : Tok} {k : Nat} (o : Obj) : Step s { s with heap := s.heap.push o, toks := s.toks + k } := ⟨fun a o' e => Heap.get?_push_of_some _ e, rfl, rfl, Nat.le_add_right _ _⟩

theorem r_cutAny {value : Expr} {lo hi : Option Expr} {p pos : Pos} {Q : Value → Shared → Prop}
    (ht : ∀ o r, letTemporaryGo value o r = pure ())
    (h : Wp w A (eval value env) (fun o s₁ => StrThen o fun x t => Wp w A (evalPart lo env) (fun l s₂ => Wp w A (evalPart hi env) (fun u s₃ =>
      ∃ lp up, l = partValue lp ∧ u = partValue up ∧ Cut w A x (lp.map (·.1)) (up.map (·.1)) Q s₃) s₂) s₁) s) : Wp w A (eval (.Subscript value (.Slice lo hi none p) pos) env) Q s := by
  refine wpAny_Subscript_Slice (T := "str") (F.slot_str_getitem.lookup) (wpAny_mono h (fun o s₁ h₁ => ?_) fun _ _ x => x) ht
  obtain ⟨x, t, rfl, h₁⟩ := strThen_inv h₁
  refine wpAny_Slice (wpAny_mono h₁ (fun l s₂ h₂ => wpAny_mono h₂ (fun u s₃ h₃ => evalPart_none_step ?_) fun _ _ x => x) fun _ _ x => x)
  obtain ⟨lp, up, rfl, rfl, hx, hq⟩ := h₃
  refine ⟨typeIs_str _ _ _, ?_⟩
  have e : (2 : Nat) ^ 24 = 16777216 := by decide
  refine wpAny_with_toks (Nat.le_refl s₃.toks) (wpAny_mono (wpAny_getItem_str_slice (Q := fun v s' => s₃.toks ≤ s'.toks → Q v s') (l := lp) (u := up) (st := none) ⟨_, Heap.get?_push_size _ rfl, rfl, rfl⟩ rfl
    (post_val_or_str ⟨Nat.le_trans (Txt.slice_le x _ _) (by unfold sizeLine; omega), fun t' k hk => ?_⟩)) (fun _ _ x => x) fun _ _ x => False.elim x)
  exact hq t' _ ⟨fun a o' e => Heap.get?_push_of_some _ e, rfl, rfl, hk⟩
theorem cut_ss {l : List Nat} {i j : Int} {ti tj : Tok} {a c : Nat} {Q : Value → Shared → Prop} (H : Now w b L m ns G s) (hi : i = (a : Int)) (hj : j = (c : Int)) (hac : a ≤ c) (hc : c ≤ l.length) (hl : l.length ≤ 1000000)
    (h : ∀ (t : Nat) s', Now w b L m ns G s' → s.toks ≤ s'.toks → Q (.str (T (cut a c l)) t) s') :
    ∃ lp up, Value.int i ti = partValue lp ∧ Value.int j tj = partValue up ∧ Cut w A (T l) (lp.map (·.1)) (up.map (·.1)) Q s :=
  ⟨some (i, ti), some (j, tj), rfl, rfl, by rw [T_len]; exact hl, fun t s' st => by
    subst hi hj
    show Q (.str (Txt.slice (T l) (some (a : Int)) (some (c : Int))) t) s'
    rw [slice_ss hac hc]; exact h t s' (H.step st) st.toks⟩
theorem cut_ns {l : List Nat} {j : Int} {tj : Tok} {c : Nat} {Q : Value → Shared → Prop} (H : Now w b L m ns G s) (hj : j = (c : Int)) (hc : c ≤ l.length) (hl : l.length ≤ 1000000)
    (h : ∀ (t : Nat) s', Now w b L m ns G s' → s.toks ≤ s'.toks → Q (.str (T (cut 0 c l)) t) s') :
    ∃ lp up, Value.none = partValue lp ∧ Value.int j tj = partValue up ∧ Cut w A (T l) (lp.map (·.1)) (up.map (·.1)) Q s :=
  ⟨none, some (j, tj), rfl, rfl, by rw [T_len]; exact hl, fun t s' st => by
    subst hj
    show Q (.str (Txt.slice (T l) none (some (c : Int))) t) s'
    rw [slice_ns hc]; exact h t s' (H.step st) st.toks⟩
theorem cut_sn {l : List Nat} {i : Int} {ti : Tok} {a : Nat} {Q : Value → Shared → Prop} (H : Now w b L m ns G s) (hi : i = (a : Int)) (ha : a ≤ l.length) (hl : l.length ≤ 1000000)
    (h : ∀ (t : Nat) s', Now w b L m ns G s' → s.toks ≤ s'.toks → Q (.str (T (l.drop a)) t) s') :
    ∃ lp up, Value.int i ti = partValue lp ∧ Value.none = partValue up ∧ Cut w A (T l) (lp.map (·.1)) (up.map (·.1)) Q s :=
  ⟨some (i, ti), none, rfl, rfl, by rw [T_len]; exact hl, fun t s' st => by
    subst hi
    show Q (.str (Txt.slice (T l) (some (a : Int)) none) t) s'
    rw [slice_sn ha]; exact h t s' (H.step st) st.toks⟩
theorem cut_sn' {l : List Nat} {i : Int} {ti : Tok} {a : Nat} {Q : Value → Shared → Prop} (H : Now w b L m ns G s) (hi : i = (a : Int)) (hl : l.length ≤ 1000000)
    (h : ∀ (t : Nat) s', Now w b L m ns G s' → s.toks ≤ s'.toks → Q (.str (T (l.drop a)) t) s') :
    ∃ lp up, Value.int i ti = partValue lp ∧ Value.none = partValue up ∧ Cut w A (T l) (lp.map (·.1)) (up.map (·.1)) Q s :=
  ⟨some (i, ti), none, rfl, rfl, by rw [T_len]; exact hl, fun t s' st => by
    subst hi
    show Q (.str (Txt.slice (T l) (some (a : Int)) none) t) s'
    rw [slice_sn']; exact h t s' (H.step st) st.toks⟩
theorem r_pNone {Q : Value → Shared → Prop} (h : Q .none s) : Wp w A (evalPart none env) Q s := evalPart_none_step h
theorem r_pSome {e : Expr} {Q : Value → Shared → Prop} (h : Wp w A (eval e env) Q s) : Wp w A (evalPart (some e) env) Q s := evalPart_some_step h

theorem r_or {x : Expr} {rest : List Expr} {pos : Pos} {whole : Sem Value} {Q : Bool → Shared → Prop}
    (h : Wp w A (isTrue x env (eval x env)) (fun c s' => if c = true then Q true s' else Wp w A (isTrue (.BoolOp .Or rest pos) env whole) Q s') s) : Wp w A (isTrue (.BoolOp .Or (x :: rest) pos) env whole) Q s := isTrue_or h
theorem r_or0 {pos : Pos} {whole : Sem Value} {Q : Bool → Shared → Prop} (h : Q false s) : Wp w A (isTrue (.BoolOp .Or [] pos) env whole) Q s := isTrue_or_nil h
theorem r_and {x : Expr} {rest : List Expr} {pos : Pos} {whole : Sem Value} {Q : Bool → Shared → Prop}
    (h : Wp w A (isTrue x env (eval x env)) (fun c s' => if c = true then Wp w A (isTrue (.BoolOp .And rest pos) env whole) Q s' else Q false s') s) : Wp w A (isTrue (.BoolOp .And (x :: rest) pos) env whole) Q s := isTrue_and h
theorem r_and0 {pos : Pos} {whole : Sem Value} {Q : Bool → Shared → Prop} (h : Q true s) : Wp w A (isTrue (.BoolOp .And [] pos) env whole) Q s := isTrue_and_nil h
theorem r_ifexp {test body orelse : Expr} {pos : Pos} {Q : Value → Shared → Prop}
    (h : Wp w A (isTrue test env (eval test env)) (fun c s₂ => if c = true then Wp w A (eval body env) Q s₂ else Wp w A (eval orelse env) Q s₂) s) : Wp w A (eval (.IfExp test body orelse pos) env) Q s := by
  show wpAny (model PW w) A (do if ← isTrue test env (eval test env) then eval body env else eval orelse env) Q NoE s
  refine wpAny_bind (wpAny_mono h (fun c s₂ h₂ => ?_) fun _ _ x => x)
  cases c <;> exact h₂
theorem r_bool {c : Bool} {k : Nat} {pos : Pos} {Q : Value → Shared → Prop} (h : Q (.bool c) s) : Wp w A (eval (.Constant (.bool c) k pos) env) Q s := Constant_bool h
theorem r_none {k : Nat} {pos : Pos} {Q : Value → Shared → Prop} (h : Q .none s) : Wp w A (eval (.Constant .none k pos) env) Q s := Constant_none h

/-- the end of a turn -/
noncomputable def loopEnd (I : Nat → Shared → Prop) (n : Nat) (w : World) (A : Around) (rest : List Stmt) (env : Env) (Q : Flow → Shared → Prop) (f : Flow) (s : Shared) : Prop :=
  match f with
  | .next | .cont => ∃ m, m < n ∧ I m s
  | .brk => Wp w A (execs rest env) Q s
  | .ret v => Q (.ret v) s
theorem loopEnd_next {I : Nat → Shared → Prop} {n : Nat} {rest : List Stmt} {Q : Flow → Shared → Prop} (h : ∃ m, m < n ∧ I m s) : loopEnd I n w A rest env Q .next s := h
theorem loopEnd_brk {I : Nat → Shared → Prop} {n : Nat} {rest : List Stmt} {Q : Flow → Shared → Prop} (h : Wp w A (execs rest env) Q s) : loopEnd I n w A rest env Q .brk s := h
theorem loopEnd_ret {I : Nat → Shared → Prop} {n : Nat} {rest : List Stmt} {Q : Flow → Shared → Prop} {v : Value} (h : Q (.ret v) s) : loopEnd I n w A rest env Q (.ret v) s := h

theorem r_while {test : Expr} {body rest : List Stmt} {pos : Pos} {Q : Flow → Shared → Prop} (I : Nat → Shared → Prop)
    (turn : ∀ n s, I n s → Wp w A (isTrue test env (eval test env)) (fun c s₂ => if c = true then Wp w A (execs body env) (loopEnd I n w A rest env Q) s₂ else Wp w A (execs rest env) Q s₂) s)
    (n : Nat) (h : I n s) : Wp w A (execs (.While test body [] pos :: rest) env) Q s := by
  refine r_cons (wpAny_While ?_)
  refine codeAny_mono (codeAny_whileLoop (R := fun r s' => match r with | .ok f => thenDo w A rest env Q f s' | .error _ => False) I (fun n s hI => ?_) n h) (fun r s' hr => ?_)
  · refine wpAny_mono (turn n s hI) (fun c s₂ h₂ => ?_) fun _ _ x => False.elim x
    cases c with
    | true =>
      simp only [if_true] at h₂ ⊢
      refine wpAny_mono h₂ (fun f s₃ h₃ => ?_) fun _ _ x => False.elim x
      cases f <;> exact h₃
    | false =>
      simp only [Bool.false_eq_true, if_false] at h₂ ⊢
      exact r_nil (w := w) (env := env) h₂
  · cases r with
    | ok f => exact hr
    | error e => exact hr.elim

/-- built-ins by their names -/
theorem r_callB1 {f : PySem.Str} {id : String} {p pos : Pos} {e : Expr} {Q : Value → Shared → Prop} (H : Now w b env.locals m ns G s)
    (hg : env.globals = mainGlobals) (hbn : env.builtins = builtinsNs) (hk : env.scope.kind = .function) (hl : env.kindOf f = some .globalImplicit) (hd : (f == ("__debug__" : PySem.Str)) = false)
    (hn : nsIn (KK w) mainGlobals f = some none) (hv : bootBuiltins f = some (.builtin id)) (hx : f ≠ "__name__") (he : starEach [e] env = (false, eval e env) :: starEach [] env)
    (h : Wp w A (eval e env) (fun v s₁ => Wp w A (call (.builtin id) [v]) Q s₁) s) : Wp w A (eval (.Call (.Name f p) [e] [] pos) env) Q s :=
  Call_ (r_builtin H hg hbn hk hl hd hn hv hx (PyProof.Rows.callWith_builtin1 (args_cons (wpAny_mono h (fun v s₁ h₁ => args_nil h₁) fun _ _ x => x) he) he rfl)) rfl
theorem r_callT1 {f : PySem.Str} {id : String} {p pos : Pos} {e : Expr} {Q : Value → Shared → Prop} (H : Now w b env.locals m ns G s)
    (hg : env.globals = mainGlobals) (hbn : env.builtins = builtinsNs) (hk : env.scope.kind = .function) (hl : env.kindOf f = some .globalImplicit) (hd : (f == ("__debug__" : PySem.Str)) = false)
    (hn : nsIn (KK w) mainGlobals f = some none) (hv : bootBuiltins f = some (.type id)) (hx : f ≠ "__name__") (he : starEach [e] env = (false, eval e env) :: starEach [] env)
    (h : Wp w A (eval e env) (fun v s₁ => Wp w A (call (.type id) [v]) Q s₁) s) : Wp w A (eval (.Call (.Name f p) [e] [] pos) env) Q s :=
  Call_ (r_builtin H hg hbn hk hl hd hn hv hx (PyProof.Rows.callWith_type1 (args_cons (wpAny_mono h (fun v s₁ h₁ => args_nil h₁) fun _ _ x => x) he) he rfl)) rfl
end
end Mine

-- part B5
set_option maxRecDepth 100000
namespace Mine
open Builtin.Str StrLaws PySem.Spec
noncomputable def evens {α : Type} : List α → List α
  | [] => []
  | [a] => [a]
  | a :: _ :: r => a :: evens r
theorem evens_pick {α : Type} : ∀ (n : Nat) (vs : List α), vs.length ≤ n → ((List.range ((vs.length + 1) / 2)).filterMap fun k => vs[2 * k]?) = evens vs
  | _, [], _ => by simp [evens]
  | _, [a], _ => by simp [evens]
  | n + 1, a :: b :: r, h => by
    have ih := evens_pick n r (by simp at h; omega)
    rw [show ((a :: b :: r).length + 1) / 2 = (r.length + 1) / 2 + 1 from Nat.add_div_right (z := 2) (r.length + 1) (by decide), List.range_succ_eq_map, List.filterMap_cons, evens, ← ih, List.filterMap_map]
    simp only [Nat.mul_zero, List.getElem?_cons_zero]
    congr 1
  | 0, a :: b :: r, h => by simp at h
theorem pick_from {vs : List Value} {a : Nat} (h : sliceBounds (if a = 0 then none else some (a : Int)) none (some 2) vs.length = ((a : Int), (vs.length : Int), 2)) (ha : a ≤ vs.length) :
    (slicePick vs.toArray (if a = 0 then none else some (a : Int)) none (some 2)).toList = evens (vs.drop a) := by
  unfold slicePick
  rw [List.size_toArray, h]
  simp only []
  rw [← evens_pick _ (vs.drop a) (Nat.le_refl _)]
  unfold sliceRange
  simp only [show (2 : Int) > 0 by decide, if_true]
  rw [show (if (a : Int) < vs.length then ((vs.length : Int) - a + 2 - 1) / 2 else 0).toNat = ((vs.drop a).length + 1) / 2 by
    rw [List.length_drop]
    split
    · rw [← Int.ofNat_sub ha]
      have e : ((vs.length - a : Nat) : Int) + 2 - 1 = ((vs.length - a + 1 : Nat) : Int) := by omega
      rw [e]; rfl
    · rename_i hc
      rw [Nat.sub_eq_zero_of_le (Int.ofNat_le.mp (Int.not_lt.mp hc))]; rfl]
  rw [List.filterMap_map]
  congr 1
  funext k
  simp only [Function.comp, List.getElem?_drop]
  rw [show ((a : Int) + 2 * (k : Int)).toNat = a + 2 * k from rfl]
  simp
theorem pick_even (vs : List Value) : (slicePick vs.toArray none none (some 2)).toList = evens vs := by
  have := pick_from (vs := vs) (a := 0) (by simp [sliceBounds]) (by omega)
  simpa using this
theorem pick_odd (vs : List Value) (h : vs ≠ []) : (slicePick vs.toArray (some 1) none (some 2)).toList = evens (vs.drop 1) := by
  have hl : 1 ≤ vs.length := List.length_pos_iff.mpr h
  have := pick_from (vs := vs) (a := 1) (by simp [sliceBounds]; omega) hl
  simpa using this
theorem evens_len {α : Type} : ∀ (n : Nat) (l : List α), l.length ≤ n → (evens l).length ≤ l.length
  | _, [], _ => by simp [evens]
  | _, [a], _ => by simp [evens]
  | n + 1, a :: b :: r, h => by have := evens_len n r (by simp at h; omega); simp [evens]; omega
  | 0, a :: b :: r, h => by simp at h
theorem evens_strs : ∀ (n : Nat) {vs : List Value} {ys : List PySem.Str}, vs.length ≤ n → StrsAre vs ys → StrsAre (evens vs) (evens ys) := by
  intro n
  induction n with
  | zero =>
    intro vs ys h hs
    cases hs with
    | nil => exact .nil
    | cons => simp at h
  | succ n ih =>
    intro vs ys h hs
    cases hs with
    | nil => exact .nil
    | cons y t r =>
      cases r with
      | nil => exact .cons y t .nil
      | cons z u r => exact .cons y t (ih (by simp at h; omega) r)
theorem evens_map {α β : Type} (f : α → β) : ∀ (n : Nat) (l : List α), l.length ≤ n → evens (l.map f) = (evens l).map f
  | _, [], _ => rfl
  | _, [a], _ => rfl
  | n + 1, a :: b :: r, h => by have := evens_map f n r (by simp at h; omega); simp [evens, this]
  | 0, a :: b :: r, h => by simp at h

/-- a list of texts -/
noncomputable def TLo (ls : List (List Nat)) (o : Obj) : Prop := ∃ (vs : List Value) (n : Nat), o = listOf vs.toArray n ∧ StrsAre vs (ls.map T)
theorem TLo.cls {ls : List (List Nat)} {o : Obj} (X : TLo ls o) : o.cls = .type "list" := let ⟨_, _, e, _⟩ := X; by rw [e]
theorem TLo.len {ls : List (List Nat)} {vs : List Value} (h : StrsAre vs (ls.map T)) : vs.length = ls.length := by rw [h.len_eq, List.length_map]
noncomputable def TL (h : Heap) (l : Addr) (ls : List (List Nat)) : Prop := ∃ o, h.get? l = some o ∧ TLo ls o
theorem TL.list {h : Heap} {l : Addr} {ls : List (List Nat)} (X : TL h l ls) : ∃ vs, h.IsList l (List.toArray vs) ∧ StrsAre vs (ls.map T) :=
  let ⟨_, ho, vs, n, e, hs⟩ := X; ⟨vs, ⟨_, ho, by rw [e], n, by rw [e]⟩, hs⟩
theorem TL.grown {h h' : Heap} {l : Addr} {ls : List (List Nat)} (X : TL h l ls) (g : Grown h h') : TL h' l ls := let ⟨o, ho, r⟩ := X; ⟨o, g _ _ ho, r⟩

section
variable {w : World} {A : Around} {b s s' : Shared} {m : PySem.Str → Option Value} {ns : List (Addr × Obj)} {G : Array GenState} {env : Env} {L l : Addr} {o o' : Obj} {ls : List (List Nat)}

theorem Now.get (H : Now w b L m ns G s) (hm : (l, o) ∈ ns) : s.heap.get? l = some o := H.N.get hm
theorem Now.tl (H : Now w b L m ns G s) (hm : (l, o) ∈ ns) (X : TLo ls o) : TL s.heap l ls := ⟨o, H.get hm, X⟩
/-- another object of this frame -/
theorem Now.add (H : Now w b L m ns G s) (ho : s'.heap.get? l = some o) (hn : s.heap.get? l = none) (x : Step s s') : Now w b L m ((l, o) :: ns) G s' := by
  have H' := H.step x
  refine ⟨H'.B, H'.F, fun p hp => ?_, H'.os, H'.toks, H'.pos, H'.gens⟩
  rcases List.mem_cons.mp hp with rfl | hp
  · refine ⟨ho, ?_, ?_⟩
    · rintro rfl
      obtain ⟨oL, _, _, hL, _⟩ := H.F.ns
      rw [hn] at hL; cases hL
    · cases e : b.heap.get? l with
      | none => rfl
      | some o₀ => rw [H.F.keep _ _ e] at hn; cases hn
  · exact H'.N p hp
/-- an object of this frame is changed -/
theorem Now.change {h' : Heap} (H : Now w b L m ((l, o) :: ns) G s) (ha : ∀ p ∈ ns, p.1 ≠ l) (hs : Heap.SameBut l s.heap h') (ho : h'.get? l = some o') : Now w b L m ((l, o') :: ns) G { s with heap := h' } :=
  ⟨H.B, H.F.change hs (H.N _ (.head _)).2.1 (H.N _ (.head _)).2.2, H.N.setHead ha hs ho, H.os, H.toks, H.pos, H.gens⟩
theorem Now.apart (H : Now w b L m ((l, o) :: ns) G s) (hk : ∀ p ∈ ns, p.2 ≠ o) : ∀ p ∈ ns, p.1 ≠ l := by
  intro p hp e
  have h1 := (H.N p (.tail _ hp)).1
  have h2 := (H.N (l, o) (.head _)).1
  rw [e] at h1
  exact hk p hp (Option.some.inj (h1.symm.trans h2))
theorem Now.base (H : Now w b L m ns G s) (X : TL b.heap l ls) : TL s.heap l ls := X.grown H.F.keep
theorem Now.lt (H : Now w b L m ns G s) (hm : (l, o) ∈ ns) : l < s.heap.objs.size := Heap.lt_size (H.get hm)

theorem r_newList {vs : List Value} {Q : Value → Shared → Prop} (H : Now w b L m ns G s) (hn : vs.length ≤ 1000000)
    (h : ∀ l s', Now w b L m ((l, listOf vs.toArray 0) :: ns) G s' → s.toks ≤ s'.toks → (∀ p ∈ ns, p.1 ≠ l) → Q (.ref l) s') : Wp w A (newList vs) Q s := by
  have e : (2 : Nat) ^ 24 = 16777216 := by decide
  exact newList_K H.F H.N (fun l h' F' N' hl => h l _ ⟨H.B, F', N', H.os, H.toks, H.pos, H.gens⟩ (Nat.le_refl _) fun p hp => Nat.ne_of_lt (hl p hp)) (by unfold sizeLine; omega)
theorem r_listE {elts : List Expr} {pos : Pos} {Q : Value → Shared → Prop} (h : Wp w A (spliced (backTo pos (starEach elts env))) (fun vs s₁ => Wp w A (newList vs) Q s₁) s) : Wp w A (eval (.List elts pos) env) Q s := List_ h
theorem tlo_nil {n : Nat} : TLo [] (listOf (List.toArray []) n) := ⟨[], n, rfl, .nil⟩
theorem tlo_one {x : List Nat} {t n : Nat} : TLo [x] (listOf (List.toArray [.str (T x) t]) n) := ⟨_, n, rfl, .cons _ _ .nil⟩

theorem r_splitT {x y : List Nat} {t u : Tok} {Q : Value → Shared → Prop} (H : Now w b L m ns G s) (hy : y ≠ []) (hx : x.length ≤ 1000000)
    (h : ∀ l o s', Now w b L m ((l, o) :: ns) G s' → TLo (spl y 0 x) o → s.toks ≤ s'.toks → (∀ p ∈ ns, p.1 ≠ l) → Q (.ref l) s') : Wp w A (call (.builtin "str.split") [.str (T x) t, .str (T y) u]) Q s := by
  have e : (2 : Nat) ^ 24 = 16777216 := by decide
  refine wpAny_with_toks (Nat.le_refl s.toks) (wpAny_mono (splitN1 (Q := fun v s' => s.toks ≤ s'.toks → Q v s') H.F H.N ?_ (fun l h' k hl F' N' ht => ?_) (by rw [T_len]; unfold sizeLine; omega)) (fun _ _ x => x) fun _ _ x => False.elim x)
  · rw [T_len]; simpa using fun e : y.length = 0 => hy (List.length_eq_zero_iff.mp e)
  · rw [split_eq hy] at hl
    exact h _ _ _ ⟨H.B, F', N', H.os, Nat.le_trans H.toks ht, H.pos, H.gens⟩ ⟨_, _, rfl, hl ▸ strsAre_of_values l⟩ ht fun p hp => Nat.ne_of_lt (Heap.lt_size (H.N p hp).1)
theorem T_nil : T [] = PySem.Str.empty := rfl
theorem sum_map_T (ls : List (List Nat)) : ((ls.map T).map (·.length)).sum = (ls.map List.length).sum := by
  rw [List.map_map]; congr 1
theorem txt_join (x : PySem.Str) (ys : List PySem.Str) : Txt.join x ys = PySem.Str.join x ys := by
  first | rfl | exact glued_eq_join _ _
theorem r_joinT {t : Tok} {Q : Value → Shared → Prop} (H : Now w b L m ns G s) (X : TL s.heap l ls) (hx : (ls.map List.length).sum ≤ 1000000)
    (h : ∀ (t : Nat) s', Now w b L m ns G s' → s.toks ≤ s'.toks → Q (.str (T ls.flatten) t) s') : Wp w A (call (.builtin "str.join") [.str (T []) t, .ref l]) Q s := by
  obtain ⟨vs, hl, hs⟩ := X.list
  refine wpAny_with_toks (Nat.le_refl s.toks) (wpAny_mono (join_list (Q := fun v s' => s.toks ≤ s'.toks → Q v s') hl hs (by rw [sum_map_T, T_len]; simp; omega) (fun t' k ht => ?_)) (fun _ _ x => x) fun _ _ x => False.elim x)
  rw [txt_join, T_nil, join_empty]
  exact h _ _ (H.tok ht) ht
theorem r_lenL {Q : Value → Shared → Prop} (H : Now w b L m ns G s) (X : TL s.heap l ls) (hx : ls.length ≤ 1000000)
    (h : ∀ (t : Nat) s', Now w b L m ns G s' → s.toks ≤ s'.toks → Q (.int ls.length t) s') : Wp w A (call (.builtin "len") [.ref l]) Q s := by
  obtain ⟨vs, hl, hs⟩ := X.list
  have e : (ls.map T).length = ls.length := List.length_map ..
  refine len_strsA hl hs (by rw [e]; omega) ?_
  rw [e]
  exact h _ _ (H.tok (by omega)) (by show s.toks ≤ s.toks + 1 + 1; omega)

/-- an item or a piece -/
noncomputable def SubGo (w : World) (A : Around) (slice : Expr) (o i : Value) (Q : Value → Shared → Prop) (s : Shared) : Prop :=
  ∃ T id ops, s.TypeIs o T ∧ typeLookup (.type T) "__getitem__" = pure (some (.builtin id)) ∧ subscripted slice false o i = operate ops (getItem o i) ∧ Wp w A (getItem o i) Q s
theorem r_sub {value slice : Expr} {pos : Pos} {Q : Value → Shared → Prop} (h : Wp w A (eval value env) (fun o s₁ => Wp w A (eval slice env) (fun i s₂ => SubGo w A slice o i Q s₂) s₁) s) :
    Wp w A (eval (.Subscript value slice pos) env) Q s := by
  refine Subscript_ (wpAny_mono h (fun o s₁ h₁ => wpAny_mono h₁ (fun i s₂ h₂ => ?_) fun _ _ x => x) fun _ _ x => x)
  obtain ⟨T, id, ops, hT, hl, hs, hg⟩ := h₂
  unfold subscriptTail
  refine wpAny_bind ?_
  rw [getitemInPython_of_ne hT.not_modules]
  refine wpAny_bind (wpAny_specialOf hT hl ?_)
  have fin : wpAny (model PW w) A (subscripted slice false o i) (fun r s₃ => wpAny (model PW w) A (letTemporaryGo value o r >>= fun _ => pure r) Q NoE s₃) NoE s₂ := by
    rw [hs]
    exact wpAny_operating (wpAny_mono hg (fun r s₃ h₃ => wpAny_bind (wpAny_letTemporaryGo (wpAny_pure h₃))) fun _ _ x => x)
  first
    | exact wpAny_pure (wpAny_bind fin)
    | exact wpAny_bind (wpAny_pure (wpAny_bind fin))
    | exact wpAny_bind fin
theorem getL {i : Int} {u : Tok} {k : Nat} {Q : Value → Shared → Prop} (X : TL s.heap l ls) (hi : i = (k : Int)) (hk : k < ls.length) (hk2 : k ≤ 1000000) (h : ∀ t : Nat, Q (.str (T ls[k]) t) s) : Wp w A (getItem (.ref l) (.int i u)) Q s := by
  obtain ⟨vs, hl, hs⟩ := X.list
  obtain ⟨t, ht⟩ := hs.at (j := k) (y := T ls[k]) (by simp [hk])
  subst hi
  exact wpAny_getItem_list hl (by omega) (by omega) (by simpa using ht) (h t)
theorem ar_last {n : Nat} (h : 0 < n) : (-1 : Int) + (n : Int) = ((n - 1 : Nat) : Int) := by rw [Int.ofNat_sub h, Int.add_comm]; rfl
theorem getLneg {u : Tok} {Q : Value → Shared → Prop} (X : TL s.heap l ls) (hn : ls ≠ []) (h : ∀ t : Nat, Q (.str (T (ls.getLast hn)) t) s) : Wp w A (getItem (.ref l) (.int (-1) u)) Q s := by
  obtain ⟨vs, hl, hs⟩ := X.list
  have hp : 0 < ls.length := List.length_pos_iff.mpr hn
  obtain ⟨t, ht⟩ := hs.at (j := ls.length - 1) (y := T (ls.getLast hn)) (by simp [List.getLast_eq_getElem])
  have e : vs.toArray.size = ls.length := by rw [List.size_toArray]; exact TLo.len hs
  refine wpAny_getItem_list_neg hl (by omega) (by omega) (by omega) ?_ (h t)
  rw [e, ar_last hp, Int.toNat_natCast]
  simpa using ht
theorem sub_item {slice : Expr} {i : Int} {u : Tok} {k : Nat} {Q : Value → Shared → Prop} (X : TL s.heap l ls) (hi : i = (k : Int)) (hk : k < ls.length) (hk2 : k ≤ 1000000) (hs : subscripted slice false (.ref l) (.int i u) = operate [.ref l, .int i u] (getItem (.ref l) (.int i u)))
    (h : ∀ t : Nat, Q (.str (T ls[k]) t) s) : SubGo w A slice (.ref l) (.int i u) Q s :=
  ⟨"list", _, _, let ⟨_, hl, _⟩ := X.list; hl.typeIs, slot_list_getitem.lookup, hs, getL X hi hk hk2 h⟩
theorem sub_last {slice : Expr} {u : Tok} {Q : Value → Shared → Prop} (X : TL s.heap l ls) (hn : ls ≠ []) (hs : subscripted slice false (.ref l) (.int (-1) u) = operate [.ref l, .int (-1) u] (getItem (.ref l) (.int (-1) u)))
    (h : ∀ t : Nat, Q (.str (T (ls.getLast hn)) t) s) : SubGo w A slice (.ref l) (.int (-1) u) Q s :=
  ⟨"list", _, _, let ⟨_, hl, _⟩ := X.list; hl.typeIs, slot_list_getitem.lookup, hs, getLneg X hn h⟩

theorem sub_at {x : List Nat} {slice : Expr} {t u : Tok} {i : Int} {k : Nat} {Q : Value → Shared → Prop} (H : Now w b L m ns G s) (hi : i = (k : Int)) (hk : k < x.length) (hk2 : k ≤ 1000000)
    (hs : subscripted slice false (.str (T x) t) (.int i u) = operate [.str (T x) t, .int i u] (getItem (.str (T x) t) (.int i u)))
    (h : ∀ (t : Nat) s', Now w b L m ns G s' → s.toks ≤ s'.toks → Q (.str (T [x[k]]) t) s') : SubGo w A slice (.str (T x) t) (.int i u) Q s := by
  subst hi
  refine ⟨"str", _, _, typeIs_str s _ _, F.slot_str_getitem.lookup, hs, ?_⟩
  refine P.getItem_str (c := x[k]) ?_ (at_nonneg (by omega) (by simpa using hk)) (h _ _ (H.tok (Nat.le_succ _)) (Nat.le_succ _))
  simp only [Bool.or_eq_false_iff, decide_eq_false_iff_not]
  omega

theorem r_slice {lo hi st : Option Expr} {p : Pos} {Q : Value → Shared → Prop} (h : Wp w A (evalPart lo env) (fun l s₁ => Wp w A (evalPart hi env) (fun u s₂ => Wp w A (evalPart st env) (fun k s₃ =>
      Q (.ref s₃.heap.objs.size) { s₃ with heap := s₃.heap.push { cls := .type "slice", data := .fields #[l, u, k] } }) s₂) s₁) s) : Wp w A (eval (.Slice lo hi st p) env) Q s := wpAny_Slice h
theorem sub_slice {slice : Expr} {vl vu vk : Value} {lo hi st : Option Int} {vs : List Value} {ops : List Value} {Q : Value → Shared → Prop} (H : Now w b L m ns G s) (hl : s.heap.IsList l vs.toArray) (hvs : vs.length ≤ 1000000)
    (pl : IsPart vl lo) (pu : IsPart vu hi) (pk : IsPart vk st) (h0 : st ≠ some 0)
    (hs : subscripted slice false (.ref l) (.ref s.heap.objs.size) = operate ops (getItem (.ref l) (.ref s.heap.objs.size)))
    (h : ∀ l' s', Now w b L m ((l', listOf (slicePick vs.toArray lo hi st) 0) :: ns) G s' → s.toks ≤ s'.toks → (∀ p ∈ ns, p.1 ≠ l') → Q (.ref l') s') :
    SubGo w A slice (.ref l) (.ref s.heap.objs.size) Q { s with heap := s.heap.push { cls := .type "slice", data := .fields #[vl, vu, vk] } } := by
  have hsz : vs.toArray.size ≤ sizeLine := by have e : (2 : Nat) ^ 24 = 16777216 := by decide
                                              rw [List.size_toArray]; unfold sizeLine; omega
  refine ⟨"list", _, _, Heap.IsList.typeIs (s := { s with heap := s.heap.push { cls := .type "slice", data := .fields #[vl, vu, vk] } }) (hl.push _), slot_list_getitem.lookup, hs,
    wpAny_getItem_list_slice (hl.push _) (Heap.IsSliceOf.new ..) pl pu pk h0 ?_ hsz⟩
  have N1 := News.push (H.F.push { cls := .type "slice", data := .fields #[vl, vu, vk] }) (fun p hp => ⟨Heap.get?_push_of_some _ (H.N p hp).1, (H.N p hp).2⟩ : News b.heap L (s.heap.push { cls := .type "slice", data := .fields #[vl, vu, vk] }) ns) (listOf (slicePick vs.toArray lo hi st) 0)
  exact h _ _ ⟨H.B, (H.F.push _).push _, N1, H.os, H.toks, H.pos, H.gens⟩ (Nat.le_refl _) fun p hp => by
    have := Heap.lt_size (H.N p hp).1
    refine Nat.ne_of_lt ?_
    rw [Heap.size_push]
    exact Nat.lt_succ_of_lt this
theorem sub_evens {slice : Expr} {u : Tok} {Q : Value → Shared → Prop} (H : Now w b L m ns G s) (X : TL s.heap l ls) (hx : ls.length ≤ 1000000)
    (hs : subscripted slice false (.ref l) (.ref s.heap.objs.size) = operate [.ref l, .ref s.heap.objs.size] (getItem (.ref l) (.ref s.heap.objs.size)))
    (h : ∀ l' o s', Now w b L m ((l', o) :: ns) G s' → TLo (evens ls) o → s.toks ≤ s'.toks → (∀ p ∈ ns, p.1 ≠ l') → Q (.ref l') s') :
    SubGo w A slice (.ref l) (.ref s.heap.objs.size) Q { s with heap := s.heap.push { cls := .type "slice", data := .fields #[.none, .none, .int 2 u] } } := by
  obtain ⟨vs, hl, hvs⟩ := X.list
  have hlen := TLo.len hvs
  refine sub_slice H hl (by omega) .none .none (.int 2 u) (by decide) hs fun l' s' H' ht ha => h l' _ s' H' ⟨evens vs, 0, ?_, ?_⟩ ht ha
  · rw [← pick_even vs]
  · rw [← evens_map T _ ls (Nat.le_refl _)]; exact evens_strs _ (Nat.le_refl _) hvs
theorem sub_odds {slice : Expr} {u t : Tok} {Q : Value → Shared → Prop} (H : Now w b L m ns G s) (X : TL s.heap l ls) (hx : ls.length ≤ 1000000) (hn : ls ≠ [])
    (hs : subscripted slice false (.ref l) (.ref s.heap.objs.size) = operate [.ref l, .ref s.heap.objs.size] (getItem (.ref l) (.ref s.heap.objs.size)))
    (h : ∀ l' o s', Now w b L m ((l', o) :: ns) G s' → TLo (evens (ls.drop 1)) o → s.toks ≤ s'.toks → (∀ p ∈ ns, p.1 ≠ l') → Q (.ref l') s') :
    SubGo w A slice (.ref l) (.ref s.heap.objs.size) Q { s with heap := s.heap.push { cls := .type "slice", data := .fields #[.int 1 t, .none, .int 2 u] } } := by
  obtain ⟨vs, hl, hvs⟩ := X.list
  have hlen := TLo.len hvs
  have hv : vs ≠ [] := by intro e; subst e; simp at hlen; exact hn (List.length_eq_zero_iff.mp hlen.symm)
  refine sub_slice H hl (by omega) (.int 1 t) .none (.int 2 u) (by decide) hs fun l' s' H' ht ha => h l' _ s' H' ⟨evens (vs.drop 1), 0, ?_, ?_⟩ ht ha
  · rw [← pick_odd vs hv]
  · rw [← evens_map T _ (ls.drop 1) (Nat.le_refl _), List.map_drop]; exact evens_strs _ (Nat.le_refl _) (hvs.drop' 1)

theorem tlo_push {n : Nat} {x : List Nat} {t : Nat} {vs : List Value} (h : StrsAre vs (ls.map T)) : TLo (ls ++ [x]) (listOf (vs.toArray.push (.str (T x) t)) n) :=
  ⟨vs ++ [.str (T x) t], n, by simp, by rw [List.map_append]; exact h.append' (.cons _ _ .nil)⟩
theorem r_appendT {x : List Nat} {t : Nat} {Q : Value → Shared → Prop} (H : Now w b L m ((l, o) :: ns) G s) (X : TLo ls o) (ha : ∀ p ∈ ns, p.1 ≠ l) (hx : ls.length ≤ 1000000)
    (h : ∀ o' s', Now w b L m ((l, o') :: ns) G s' → TLo (ls ++ [x]) o' → s.toks ≤ s'.toks → Q .none s') : Wp w A (call (.builtin "list.append") [.ref l, .str (T x) t]) Q s := by
  obtain ⟨vs, n, rfl, hs⟩ := X
  have hlen := TLo.len hs
  have e : (2 : Nat) ^ 24 = 16777216 := by decide
  exact append_at (H.get (.head _)) (fun h' hs' ho' => h _ _ (H.change ha hs' ho') (tlo_push hs) (Nat.le_refl _)) (by rw [List.size_toArray]; unfold sizeLine; omega)
theorem all_eq : ∀ (n : Nat) (ls ms : List (List Nat)), ls.length = n → ms.length = n → ((List.range n).all fun j => (T (ls.getD j []) == T (ms.getD j []))) = decide (ls = ms)
  | 0, [], [], _, _ => by simp
  | n + 1, a :: r, b :: t, h, h' => by
    have ih := all_eq n r t (by simpa using h) (by simpa using h')
    rw [List.range_succ_eq_map, List.all_cons, List.all_map]
    show (T a == T b && (List.range n).all fun j => T (r.getD j []) == T (t.getD j [])) = _
    rw [ih]
    by_cases e : a = b
    · subst e; by_cases e' : r = t <;> simp [e']
    · rw [T_ne e]; simp [e]
theorem items_eq {vs us : List Value} {ls ms : List (List Nat)} (hv : StrsAre vs (ls.map T)) (hu : StrsAre us (ms.map T)) : ∀ j (h1 : j < vs.toArray.size) (h2 : j < us.toArray.size), SeqAt.EqAt A s (vs.toArray[j]) (us.toArray[j]) (T (ls.getD j []) == T (ms.getD j [])) := by
  intro j h1 h2
  have l1 := TLo.len hv
  have l2 := TLo.len hu
  have k1 : j < ls.length := by simpa [← l1] using h1
  have k2 : j < ms.length := by simpa [← l2] using h2
  obtain ⟨t, ht⟩ := hv.at (j := j) (y := T ls[j]) (by simp [k1])
  obtain ⟨u, hu⟩ := hu.at (j := j) (y := T ms[j]) (by simp [k2])
  have e1 : vs.toArray[j] = .str (T ls[j]) t := by
    have : vs[j]? = some vs.toArray[j] := by simp at h1 ⊢
    rw [ht] at this; exact (Option.some.inj this).symm
  have e2 : us.toArray[j] = .str (T ms[j]) u := by
    have : us[j]? = some us.toArray[j] := by simp at h2 ⊢
    rw [hu] at this; exact (Option.some.inj this).symm
  rw [e1, e2, show ls.getD j [] = ls[j] by simp [List.getD, k1], show ms.getD j [] = ms[j] by simp [List.getD, k2]]
  exact SeqAt.EqAt.str_str _ _ _ _
theorem OkA.u64 {k : Nat} {A : Around} (h : OkA k A) : A.units < cLine := h.units
theorem r_eqL {k : Nat} {l' : Addr} {ms : List (List Nat)} {Q : Value → Shared → Prop} (hA : OkA k A) (X : TL s.heap l ls) (Y : TL s.heap l' ms) (h : Q (.bool (decide (ls = ms))) s) : Wp w A (compareOp .Eq (.ref l) (.ref l')) Q s := by
  obtain ⟨vs, hl, hv⟩ := X.list
  obtain ⟨us, hl', hu⟩ := Y.list
  have l1 := TLo.len hv
  have l2 := TLo.len hu
  by_cases e : vs.length = us.length
  · refine SeqAt.RcAt.lists hl hl' (by simpa using e) hA.units (items_eq hv hu) _ _ _ _ ?_
    rw [List.size_toArray, all_eq _ ls ms l1.symm (by omega)]
    exact h
  · refine SeqAt.RcAt.lists_lengths hl hl' (by simpa using e) hA.units _ _ _ _ ?_
    rw [decide_eq_false (by rintro rfl; omega)] at h
    exact h
theorem r_neL {k : Nat} {l' : Addr} {ms : List (List Nat)} {Q : Value → Shared → Prop} (hA : OkA k A) (X : TL s.heap l ls) (Y : TL s.heap l' ms) (h : Q (.bool (!decide (ls = ms))) s) : Wp w A (compareOp .NotEq (.ref l) (.ref l')) Q s := by
  obtain ⟨vs, hl, hv⟩ := X.list
  obtain ⟨us, hl', hu⟩ := Y.list
  have l1 := TLo.len hv
  have l2 := TLo.len hu
  by_cases e : vs.length = us.length
  · refine SeqAt.RcNeAt.lists hl hl' (by simpa using e) hA.units (items_eq hv hu) _ _ _ _ ?_
    rw [List.size_toArray, all_eq _ ls ms l1.symm (by omega)]
    exact h
  · refine SeqAt.RcNeAt.lists_lengths hl hl' (by simpa using e) hA.units _ _ _ _ ?_
    rw [decide_eq_false (by rintro rfl; omega)] at h
    exact h
end
end Mine

-- part B6
set_option maxRecDepth 100000
namespace Mine
open Builtin.Str StrLaws PySem.Spec
noncomputable def RefThen (v : Value) (K : Addr → Prop) : Prop := match v with | .ref l => K l | _ => False
theorem refThen {l : Addr} {K : Addr → Prop} (h : K l) : RefThen (.ref l) K := h
theorem refThen_inv {v : Value} {K : Addr → Prop} (h : RefThen v K) : ∃ l, v = .ref l ∧ K l := by
  unfold RefThen at h
  split at h
  · exact ⟨_, rfl, h⟩
  · exact h.elim
theorem set_last {α : Type} (x : α) : ∀ vs : List α, 0 < vs.length → vs.set (vs.length - 1) x = vs.dropLast ++ [x]
  | [], h => by simp at h
  | [a], _ => rfl
  | a :: b :: r, _ => by
    have := set_last x (b :: r) (by simp)
    simp only [List.length_cons, Nat.add_sub_cancel] at this ⊢
    rw [List.set_cons_succ, this]; rfl
theorem erase_pop {α : Type} (xs : Array α) : xs.eraseIdxIfInBounds (xs.size - 1) = xs.pop := by
  obtain ⟨l⟩ := xs
  by_cases h : l = []
  · subst h; rfl
  · have : 0 < l.length := List.length_pos_iff.mpr h
    simp only [Array.eraseIdxIfInBounds, List.size_toArray]
    rw [dif_pos (by omega)]
    simp [List.eraseIdx_length_sub_one]

section
variable {w : World} {A : Around} {b s s' : Shared} {m : PySem.Str → Option Value} {ns : List (Addr × Obj)} {G : Array GenState} {env : Env} {L l : Addr} {o o' : Obj} {ls : List (List Nat)}

theorem r_neg {x : Expr} {pos : Pos} {Q : Value → Shared → Prop} (h : Wp w A (eval x env) (fun v s₁ => IntThen v fun i _ => ∀ (t : Nat) s', Step s₁ s' → Q (.int (-i) t) s') s) : Wp w A (eval (.UnaryOp .USub x pos) env) Q s := by
  refine UnaryOp_ (wpAny_mono h (fun v s₁ h₁ => ?_) fun _ _ x => x)
  obtain ⟨i, t, rfl, h₁⟩ := intThen_inv h₁
  exact P.neg_int (h₁ _ _ ⟨fun _ _ e => e, rfl, rfl, Nat.le_succ _⟩)
theorem r_cmpE {l r : Expr} {op : CmpOp} {pos : Pos} {Q : Value → Shared → Prop}
    (h : Wp w A (eval l env) (fun a s₁ => Wp w A (eval r env) (fun b s₂ => Wp w A (compareOp op a b) Q s₂) s₁) s) (hm : behindInMarks op r = false) : Wp w A (eval (.Compare l [op] [r] pos) env) Q s := wpAny_Compare1 h hm
theorem r_not {x : Expr} {pos : Pos} {whole : Sem Value} {Q : Bool → Shared → Prop} (h : Wp w A (isTrue x env (eval x env)) (fun c s₁ => Q (!c) s₁) s) : Wp w A (isTrue (.UnaryOp .Not x pos) env whole) Q s := isTrue_not h
theorem r_expr {e : Expr} {pos : Pos} {rest : List Stmt} {Q : Flow → Shared → Prop} (h : Wp w A (eval e env) (fun _ s' => Wp w A (execs rest env) Q s') s) (hi : interactive env = false) (hs : swapsWith e none pos.line env = pure false) :
    Wp w A (execs (.Expr e pos :: rest) env) Q s := r_cons (wpAny_Expr_any h hi hs)

theorem r_ap {e a : Expr} {apos pos : Pos} {Q : Value → Shared → Prop} (he : eval (.Call (.Attribute e "append" apos) [a] [] pos) env = (do
      let ov ← eval e env
      standAt apos.atName
      let (f, first) ← holding [ov] (getMethod ov "append" (do let i ← importBound e env; pure (i.getD true)))
      callWith pos f first (backTo pos (starEach [a] env)) []))
    (h1 : starEach [a] env = (false, eval a env) :: starEach [] env)
    (h : Wp w A (eval e env) (fun ov s₁ => RefThen ov fun l => (∃ ls, TL s₁.heap l ls) ∧ Wp w A (eval a env) (fun v s₂ => Wp w A (call (.builtin "list.append") [.ref l, v]) Q s₂) s₁) s) :
    Wp w A (eval (.Call (.Attribute e "append" apos) [a] [] pos) env) Q s := by
  with_reducible refine MethodCall_ (wpAny_mono h (fun ov s₁ h₁ => ?_) fun _ _ x => x) he
  obtain ⟨l, rfl, ⟨ls, o, ho, vs, n, rfl, _⟩, h₁⟩ := refThen_inv h₁
  refine getMethod_list_append ho rfl rfl ?_
  show wpAny (model PW w) A (callWith pos (.builtin "list.append") [.ref l] _ []) Q NoE s₁
  with_reducible refine callWith_method1 ?_ h1 (by with_unfolding_all rfl)
  exact args_cons (wpAny_mono h₁ (fun v s₂ h₂ => args_nil h₂) fun _ _ x => x) h1

theorem r_pop {e : Expr} {apos pos : Pos} {Q : Value → Shared → Prop} (he : eval (.Call (.Attribute e "pop" apos) [] [] pos) env = (do
      let ov ← eval e env
      standAt apos.atName
      let (f, first) ← holding [ov] (getMethod ov "pop" (do let i ← importBound e env; pure (i.getD true)))
      callWith pos f first (backTo pos (starEach [] env)) []))
    (h : Wp w A (eval e env) (fun ov s₁ => ∃ l ls o n G m ns L b, ov = .ref l ∧ Now w b L m ((l, o) :: ns) G s₁ ∧ TLo ls o ∧ (∀ p ∈ ns, p.1 ≠ l) ∧ ls.length ≤ 1000000 ∧ ls.length = n + 1 ∧
      ∀ v o' s', Now w b L m ((l, o') :: ns) G s' → TLo ls.dropLast o' → s₁.toks ≤ s'.toks → Q v s') s) :
    Wp w A (eval (.Call (.Attribute e "pop" apos) [] [] pos) env) Q s := by
  with_reducible refine MethodCall_ (wpAny_mono h (fun ov s₁ h₁ => ?_) fun _ _ x => x) he
  obtain ⟨l, ls, o, n, G, m, ns, L, b, rfl, H, ⟨vs, k, rfl, hs⟩, ha, hx, hl, hq⟩ := h₁
  have ho := H.get (.head _)
  have hlen := TLo.len hs
  have e24 : (2 : Nat) ^ 24 = 16777216 := by decide
  have hsz : vs.toArray.size ≤ sizeLine := by rw [List.size_toArray]; unfold sizeLine; omega
  refine getMethod_list_of PySem.F.slot_list_pop (by rfl) (IsL.isList ho) ⟨_, ho, rfl⟩ ?_
  show wpAny (model PW w) A (callWith pos (.builtin "list.pop") [.ref l] [] []) Q NoE s₁
  refine P.pop_list (y := vs[vs.length - 1]'(by omega)) ho (by simp) ?_ hsz
  have e1 : vs.toArray.eraseIdxIfInBounds (vs.toArray.size - 1) = vs.dropLast.toArray := (erase_pop _).trans (by simp)
  refine hq _ _ _ (H.change ha (Heap.SameBut.update ..) (IsL.update ho _)) ?_ (Nat.le_refl _)
  simp only [e1]
  exact ⟨vs.dropLast, _, rfl, by rw [List.map_dropLast]; exact strsAre_dropLast hs⟩

theorem setLneg {x : List Nat} {t u : Nat} {Q : Unit → Shared → Prop} (H : Now w b L m ((l, o) :: ns) G s) (X : TLo ls o) (ha : ∀ p ∈ ns, p.1 ≠ l) (hn : ls ≠ [])
    (h : ∀ o' s', Now w b L m ((l, o') :: ns) G s' → TLo (ls.dropLast ++ [x]) o' → s.toks ≤ s'.toks → Q () s') : Wp w A (setItem (.ref l) (.int (-1) u) (.str (T x) t)) Q s := by
  obtain ⟨vs, n, rfl, hs⟩ := X
  have ho := H.get (.head _)
  have hlen := TLo.len hs
  have hp : 0 < ls.length := List.length_pos_iff.mpr hn
  have hz : vs.toArray.size = vs.length := List.size_toArray ..
  have e0 : ((-1 : Int) + (vs.toArray.size : Int)).toNat = vs.length - 1 := by rw [hz, ar_last (by rw [hlen]; exact hp)]; rfl
  have e1 : vs.toArray.setIfInBounds (vs.length - 1) (Value.str (T x) t) = (vs.dropLast ++ [Value.str (T x) t]).toArray := by
    rw [List.setIfInBounds_toArray]; congr 1; exact set_last _ _ (by omega)
  refine ki_setBack ho (by decide) (by omega) (by decide) ?_
  rw [e0]
  refine h _ _ (H.change ha (Heap.SameBut.update ..) (IsL.update ho _)) ?_ (Nat.le_refl _)
  simp only [e1]
  exact ⟨vs.dropLast ++ [.str (T x) t], _, rfl, by rw [List.map_append, List.map_dropLast]; exact (strsAre_dropLast hs).append' (.cons _ _ .nil)⟩

theorem r_augSub {e i : Expr} {pos' : Pos} {op : Operator} {value : Expr} {pos : Pos} {rest : List Stmt} {Q : Flow → Shared → Prop}
    (h : Wp w A (eval e env) (fun ov s₁ => Wp w A (eval i env) (fun iv s₂ => Wp w A (getItem ov iv) (fun old s₃ => Wp w A (eval value env) (fun v s₄ => Wp w A (inplaceOp op old v) (fun new s₅ =>
        Wp w A (setItem ov iv new) (fun _ s₆ => Wp w A (execs rest env) Q s₆) s₅) s₄) s₃) s₂) s₁) s)
    (ha : ∀ ov iv new, augStore i ov iv new = (do holding [new, ov, iv] (setItem ov iv new); release [new, ov, iv] []; pure .next)) :
    Wp w A (execs (.AugAssign (.Subscript e i pos') op value pos :: rest) env) Q s := r_cons (wpAny_AugAssign_Subscript_any h ha)
end
theorem lit34 : Str.ofString "\"" = T [34] := by kernel_rfl!
theorem lit92 : Str.ofString "\\" = T [92] := by kernel_rfl!
theorem lit40 : Str.ofString "(" = T [40] := by kernel_rfl!
theorem lit41 : Str.ofString ")" = T [41] := by kernel_rfl!
theorem litNil : Str.ofString "" = T [] := by kernel_rfl!
theorem lit38 : Str.ofString "&" = T [38] := by kernel_rfl!
theorem lit60 : Str.ofString "<" = T [60] := by kernel_rfl!
theorem lit62 : Str.ofString ">" = T [62] := by kernel_rfl!
theorem lit13 : Str.ofString "\r" = T [13] := by kernel_rfl!
theorem lit9 : Str.ofString "\t" = T [9] := by kernel_rfl!
theorem lit10 : Str.ofString "\n" = T [10] := by kernel_rfl!
theorem lit34x34 : Str.ofString "\"\"" = T [34, 34] := by kernel_rfl!
theorem lit92x92 : Str.ofString "\\\\" = T [92, 92] := by kernel_rfl!
theorem lit92x34 : Str.ofString "\\\"" = T [92, 34] := by kernel_rfl!
theorem lit92x40 : Str.ofString "\\(" = T [92, 40] := by kernel_rfl!
theorem lit92x41 : Str.ofString "\\)" = T [92, 41] := by kernel_rfl!
theorem lit40x41 : Str.ofString "()" = T [40, 41] := by kernel_rfl!
theorem lit1 : Str.ofString "\x01" = T [1] := by kernel_rfl!
theorem lit2 : Str.ofString "\x02" = T [2] := by kernel_rfl!
theorem lit98 : Str.ofString "b" = T [98] := by kernel_rfl!
theorem lit97 : Str.ofString "a" = T [97] := by kernel_rfl!
theorem lit32 : Str.ofString " " = T [32] := by kernel_rfl!
theorem litamp : Str.ofString "&amp;" = T [38, 97, 109, 112, 59] := by kernel_rfl!
theorem litlt : Str.ofString "&lt;" = T [38, 108, 116, 59] := by kernel_rfl!
theorem litgt : Str.ofString "&gt;" = T [38, 103, 116, 59] := by kernel_rfl!
theorem litquot : Str.ofString "&quot;" = T [38, 113, 117, 111, 116, 59] := by kernel_rfl!
theorem litxD : Str.ofString "&#xD;" = T [38, 35, 120, 68, 59] := by kernel_rfl!
theorem litx9 : Str.ofString "&#x9;" = T [38, 35, 120, 57, 59] := by kernel_rfl!
theorem litxA : Str.ofString "&#xA;" = T [38, 35, 120, 65, 59] := by kernel_rfl!
theorem lit257 : Str.ofString "257" = T [50, 53, 55] := by kernel_rfl!
theorem lit257x : Str.ofString "257 " = T [50, 53, 55, 32] := by kernel_rfl!
theorem lit32x34 : Str.ofString " \"" = T [32, 34] := by kernel_rfl!
theorem litPair : Str.ofString "('', '')" = T [40, 39, 39, 44, 32, 39, 39, 41] := by kernel_rfl!
end Mine

-- part P2
namespace Mine
theorem rep2_len (a b : Nat) (z : List Nat) (hz : z.length ≤ 2) : ∀ (n : Nat) (l : List Nat), l.length ≤ n → (rep2 a b z l).length ≤ l.length
  | _, [], _ => by simp [rep2]
  | _, [x], _ => by simp [rep2]
  | n + 1, x :: y :: r, h => by
    have h1 := rep2_len a b z hz n r (by simp at h; omega)
    have h2 := rep2_len a b z hz n (y :: r) (by simp at h ⊢; omega)
    simp only [rep2]
    split <;> simp at h1 h2 ⊢ <;> omega
  | 0, x :: y :: r, h => by simp at h
theorem glue_nil' : ∀ ps : List (List Nat), glue [] ps = ps.flatten
  | [] => rfl
  | [p] => by simp [glue]
  | p :: q :: r => by simp [glue, glue_nil' (q :: r)]
theorem spl_flat (c : Nat) (l : List Nat) : (spl [c] 0 l).flatten = rep1 c [] l := by rw [← glue_nil', glue_one]
theorem rep1_nil_len (c : Nat) (l : List Nat) : (rep1 c [] l).length ≤ l.length := by
  induction l with
  | nil => simp [rep1]
  | cons a r ih =>
    unfold rep1 at ih ⊢
    rw [List.flatMap_cons, List.length_append, List.length_cons]
    split <;> simp only [List.length_nil, List.length_singleton] <;> omega
theorem spl_sum (c : Nat) (l : List Nat) : ((spl [c] 0 l).map List.length).sum ≤ l.length := by
  rw [← List.length_flatten, spl_flat]; exact rep1_nil_len c l
theorem spl_num (c : Nat) (l : List Nat) : (spl [c] 0 l).length ≤ l.length + 1 := by
  rw [spl_one_len]; have := List.count_le_length (a := c) (l := l); omega
theorem evens_sum : ∀ (n : Nat) (ls : List (List Nat)), ls.length ≤ n → ((evens ls).map List.length).sum ≤ (ls.map List.length).sum
  | _, [], _ => by simp [evens]
  | _, [a], _ => by simp [evens]
  | n + 1, a :: b :: r, h => by have := evens_sum n r (by simp at h; omega); simp [evens]; omega
  | 0, a :: b :: r, h => by simp at h
theorem mem_sum {a : List Nat} : ∀ {ls : List (List Nat)}, a ∈ ls → a.length ≤ (ls.map List.length).sum
  | b :: r, h => by
    rcases List.mem_cons.mp h with rfl | h
    · simp
    · have := mem_sum h; simp; omega
end Mine

-- part B7
set_option maxRecDepth 100000
namespace Mine
open Builtin.Str StrLaws PySem.Spec
theorem Step.refl (s : Shared) : Step s s := ⟨fun _ _ e => e, rfl, rfl, Nat.le_refl _⟩
theorem Step.trans {s s' s'' : Shared} (x : Step s s') (y : Step s' s'') : Step s s'' := ⟨fun a o e => y.keep a o (x.keep a o e), y.os.trans x.os, y.gens.trans x.gens, Nat.le_trans x.toks y.toks⟩
theorem Step.tok {s : Shared} {k : Nat} (h : s.toks ≤ k) : Step s { s with toks := k } := ⟨fun _ _ e => e, rfl, rfl, h⟩
theorem Step.keeps {s s' : Shared} (x : Step s s') : Keeps s s' := by
  refine ⟨s'.heap, s'.toks, ?_, x.keep⟩
  obtain ⟨k, o, g, t⟩ := x
  cases s; cases s'
  simp only [Prod.mk.injEq] at o g ⊢
  obtain ⟨rfl, rfl⟩ := o
  subst g
  rfl

/-- within a comp: the turn's start and now -/
structure Co (w : World) (C : Addr) (m : PySem.Str → Option Value) (s₃ s : Shared) : Prop where
  ns : s₃.heap.Ns C m
  bs : Bs w s₃.heap
  pos : 0 < s₃.toks
  st : Step s₃ s
theorem Co.step {w : World} {C : Addr} {m : PySem.Str → Option Value} {s₃ s s' : Shared} (X : Co w C m s₃ s) (x : Step s s') : Co w C m s₃ s' := ⟨X.ns, X.bs, X.pos, X.st.trans x⟩
theorem Co.tok {w : World} {C : Addr} {m : PySem.Str → Option Value} {s₃ s : Shared} {k : Nat} (X : Co w C m s₃ s) (h : s.toks ≤ k) : Co w C m s₃ { s with toks := k } := X.step (.tok h)

section
variable {w : World} {A : Around} {b s s' s₃ : Shared} {m : PySem.Str → Option Value} {ns : List (Addr × Obj)} {G : Array GenState} {env : Env} {L l C : Addr} {o o' : Obj} {ls : List (List Nat)}
theorem c_local {x : PySem.Str} {pos : Pos} {v : Value} {Q : Value → Shared → Prop} (X : Co w env.locals m s₃ s)
    (hk : env.scope.kind = .function) (hl : env.kindOf x = some .local) (hd : (x == ("__debug__" : PySem.Str)) = false) (hv : m x = some v) (h : Q v s) : Wp w A (eval (.Name x pos) env) Q s :=
  wpAny_Name (wpAny_loadName_local hk hl (X.ns.keeps X.st.keep) hv h) hd
theorem c_cell {x : PySem.Str} {pos : Pos} {c : Addr} {v : Value} {Q : Value → Shared → Prop} (X : Co w L m s₃ s)
    (hk : env.scope.kind = .function) (hl : env.kindOf x = some .cell) (hc : env.cells.lookup x = some c) (hd : (x == ("__debug__" : PySem.Str)) = false) (hv : s₃.heap.IsCell c (some v)) (h : Q v s) : Wp w A (eval (.Name x pos) env) Q s :=
  wpAny_Name (wpAny_loadName_cell hk hl hc (hv.keeps X.st.keep) h) hd
theorem c_int {x : Int} {k : Nat} {pos : Pos} {Q : Value → Shared → Prop} (X : Co w L m s₃ s) (h : ∀ (t : Nat) s', Co w L m s₃ s' → Q (.int x t) s') : Wp w A (eval (.Constant (.int x) k pos) env) Q s :=
  wpAny_Constant_int (h _ _ (X.tok (Nat.le_succ _)))
theorem c_lit {x : PySem.Str} {k : Nat} {pos : Pos} {Q : Value → Shared → Prop} (l : List Nat) (hx : x = T l) (X : Co w L m s₃ s)
    (h : ∀ (t : Nat) s', Co w L m s₃ s' → s.toks ≤ t → t < s'.toks → 0 < t → Q (.str (T l) t) s') : Wp w A (eval (.Constant (.str x) k pos) env) Q s := by
  subst hx
  exact Constant_str (h _ _ (X.tok (Nat.le_succ _)) (Nat.le_refl _) (Nat.lt_succ_self _) (Nat.lt_of_lt_of_le X.pos X.st.toks))
theorem c_modI {i j : Int} {t u : Tok} {Q : Value → Shared → Prop} (X : Co w L m s₃ s) (hj : 0 < j) (h : ∀ (t : Nat) s', Co w L m s₃ s' → Q (.int (i % j) t) s') : Wp w A (binaryOp .Mod (.int i t) (.int j u)) Q s := by
  refine mod_int' (by omega) ?_
  rw [Int.fmod_eq_emod_of_nonneg i (by omega)]
  exact h _ _ (X.tok (Nat.le_succ _))
theorem c_pow {t u : Tok} {Q : Value → Shared → Prop} (X : Co w L m s₃ s) (h : ∀ (t : Nat) s', Co w L m s₃ s' → Q (.int 1000000000 t) s') : Wp w A (binaryOp .Pow (.int 10 t) (.int 9 u)) Q s :=
  pow_int_small (by decide) (by decide) (by decide) (h _ _ (X.tok (Nat.le_succ _)))
theorem c_addT {x y : List Nat} {t u : Tok} {Q : Value → Shared → Prop} (X : Co w L m s₃ s) (hb : x.length + y.length ≤ 1000000)
    (h : ∀ (t : Nat) s', Co w L m s₃ s' → s.toks ≤ s'.toks → Q (.str (T (x ++ y)) t) s') : Wp w A (binaryOp .Add (.str (T x) t) (.str (T y) u)) Q s := by
  have e : (2 : Nat) ^ 24 = 16777216 := by decide
  rw [← T_app] at h
  refine P.add_str ?_
  split
  · rename_i h0
    have : x = [] := by rw [T_len] at h0; exact List.length_eq_zero_iff.mp (by simpa using h0)
    subst this
    rw [T_nil, PySem.Str.empty_append] at h
    exact h u s X (Nat.le_refl _)
  · split
    · rename_i h0
      have : y = [] := by rw [T_len] at h0; exact List.length_eq_zero_iff.mp (by simpa using h0)
      subst this
      rw [T_nil, PySem.Str.append_empty] at h
      exact h t s X (Nat.le_refl _)
    · exact ⟨by rw [PySem.Str.length_append, T_len, T_len]; unfold sizeLine; omega, h _ _ (X.tok (Nat.le_succ _)) (Nat.le_succ _)⟩
theorem c_rep2 {x z : List Nat} {c d : Nat} {t u v : Nat} {Q : Value → Shared → Prop} (X : Co w L m s₃ s) (hu : 0 < u) (huv : u < v) (hyz : [c, d] ≠ z) (hx : x.length ≤ 1000000) (hz : z.length ≤ 14)
    (h : ∀ (t : Nat) s', Co w L m s₃ s' → s.toks ≤ s'.toks → Q (.str (T (rep2 c d z x)) t) s') : Wp w A (call (.builtin "str.replace") [.str (T x) t, .str (T [c, d]) u, .str (T z) v]) Q s :=
  wpAny_with_toks (Nat.le_refl s.toks) (wpAny_mono (SC.replaceW (Q := fun v s' => s.toks ≤ s'.toks → Q v s') (Nat.ne_of_gt hu) (Nat.ne_of_gt (Nat.lt_trans hu huv)) (Nat.ne_of_lt huv) (T_ne hyz) (by rw [T_len]; omega) (by rw [T_len]; exact hz)
    fun t' k hk => by rw [replace_two]; exact h _ _ (X.tok hk) hk) (fun _ _ x => x) fun _ _ x => False.elim x)
theorem c_call1 {f : PySem.Str} {a : Addr} {p pos : Pos} {e : Expr} {Q : Value → Shared → Prop} (X : Co w L m s₃ s)
    (hg : env.globals = mainGlobals) (hk : env.scope.kind = .function) (hl : env.kindOf f = some .globalImplicit) (hd : (f == ("__debug__" : PySem.Str)) = false)
    (hv : nsIn (KK w) mainGlobals f = some (some (.ref a))) (hkp : keepIn (KK w) (.ref a) = true) (he : starEach [e] env = (false, eval e env) :: starEach [] env)
    (h : Wp w A (eval e env) (fun v s₁ => Bs w s₁.heap ∧ Wp w A (call (.ref a) [v]) Q s₁) s) : Wp w A (eval (.Call (.Name f p) [e] [] pos) env) Q s := by
  have B : Bs w s.heap := X.bs.keeps X.st.keep
  obtain ⟨mg, mb, t⟩ := B.t
  refine Call_ (Name_function_global hk hl (loadGlobal_global (env := env) (by rw [hg]; exact t.g) (mg_of B.k t.g hv) (callWith_K (K := KK w) B.k hkp (by
    refine args_cons (wpAny_mono h (fun v s₁ h₁ => args_nil ⟨h₁.1.k, ?_⟩) fun _ _ x => x) he
    exact h₁.2) he rfl)) hd) rfl
theorem Co.bs' (X : Co w L m s₃ s) : Bs w s.heap := X.bs.keeps X.st.keep
theorem Co.spos (X : Co w L m s₃ s) : 0 < s.toks := Nat.lt_of_lt_of_le X.pos X.st.toks

theorem cur {P : Prop} (H : Now w b L m ns G s) (f : Now w b L m ns G s → P) : P := f H
/-- what a comp runs over -/
noncomputable def Source (w : World) (A : Around) (s₁ : Shared) (xv : Value) {α : Type} (src : List α) (enc : α → Value → Prop) : Prop :=
  ∀ (Q : Value → Shared → Prop), (∀ (o : Obj) (fp : List Addr) (St : Nat → Heap → Prop), 
    Walks PW w A s₁.heap.objs.size fp [s₁.heap.objs.size] src.length (fun j v => ∃ a, src[j]? = some a ∧ enc a v) St → St 0 (s₁.heap.push o) → (∀ b ∈ fp, b ≤ s₁.heap.objs.size) →
      Q (.ref s₁.heap.objs.size) { s₁ with heap := s₁.heap.push o }) → Wp w A (pyIter xv) Q s₁
theorem walks_mono {prog : Program} {I : Addr} {fp wr : List Addr} {n : Nat} {P P' : Nat → Value → Prop} {St : Nat → Heap → Prop} (W : Walks prog w A I fp wr n P St) (h : ∀ j v, j < n → P j v → P' j v) : Walks prog w A I fp wr n P' St :=
  { sub := W.sub, frame := W.frame, done := W.done, self := W.self, item := fun i s Q E hi st hQ => W.item i s Q E hi st fun v h' tk hP => hQ v h' tk (h i v hi hP) }
theorem src_text {x : List Nat} {t : Tok} (hh : A.handled = none) : Source w A s (.str (T x) t) x (fun c v => ∃ u : Nat, v = .str (T [c]) u) := fun Q h =>
  wpAny_pyIter_str fun o St W st => h o _ St (by
    have W := walks_mono (P' := fun j v => ∃ a, x[j]? = some a ∧ ∃ u : Nat, v = .str (T [a]) u) (W A hh) (fun j v _ ⟨c, u, hc, hv⟩ => ⟨c, by simpa using hc, u, hv⟩)
    have e : (T x).cps.size = x.length := by simp
    rw [e] at W
    exact W) st (by simp)
theorem src_list {a : Addr} {vs : List Value} {α : Type} {src : List α} {enc : α → Value → Prop} (hh : A.handled = none) (hl : s.heap.IsList a vs.toArray) (hn : vs.length = src.length)
    (he : ∀ (j : Nat) (v : Value), vs[j]? = some v → ∃ x, src[j]? = some x ∧ enc x v) : Source w A s (.ref a) src enc := fun Q h => by
  have ha : a < s.heap.objs.size := let ⟨_, ho, _⟩ := hl; Heap.lt_size ho
  have W := walks_mono (P' := fun j v => ∃ x, src[j]? = some x ∧ enc x v) (Walks.list (prog := PW) (w := w) (A := A) hh s.heap.objs.size a (Nat.ne_of_lt ha) vs.toArray) (fun j v _ hv => he j v (by simpa using hv))
  have e : vs.toArray.size = src.length := by rw [List.size_toArray, hn]
  rw [e] at W
  refine wpAny_pyIter_list hl (h _ [s.heap.objs.size, a] _ W ⟨⟨_, Heap.get?_push_size _ rfl, rfl, rfl⟩, hl.push _⟩ ?_)
  intro b hb
  rcases List.mem_cons.mp hb with rfl | hb
  · exact Nat.le_refl _
  · rcases List.mem_cons.mp hb with rfl | hb
    · exact Nat.le_of_lt ha
    · cases hb
theorem src_range {a : Addr} {n : Nat} {t u v : Tok} (hh : A.handled = none) (hr : IsRange s.heap a 0 (n : Int) 1 t u v) (hn : n ≤ 1000000) : Source w A s (.ref a) (List.range n) (fun k v => ∃ t : Nat, v = .int (k : Int) t) := fun Q h => by
  have hsz : Builtin.Range.rangeSize 0 (n : Int) 1 = (n : Int) := by rw [rangeSize_one]; split <;> omega
  refine wpAny_pyIter_range hr ?_ (h _ [s.heap.objs.size] (fun i h => IsRangeIter h s.heap.objs.size (0 + (i : Nat) * 1) ((n : Int) - (i : Nat)) 1) (by
    have W := walks_mono (P' := fun j v => ∃ a, (List.range n)[j]? = some a ∧ ∃ t : Nat, v = .int (a : Int) t) (LCg.range_walks (prog := PW) (w := w) (A := A) (I := s.heap.objs.size) hh 0 n) (fun j v hj ⟨t, hv⟩ => ⟨j, by simp [hj], t, by rw [hv]; simp⟩)
    rw [List.length_range]
    exact W) ?_ (by simp))
  · unfold Builtin.Range.small
    rw [hsz]
    simp [Builtin.Range.rangeFitsLong]
    omega
  · rw [hsz]
    have := Heap.get?_push_size s.heap (o := { cls := .type "range_iterator", data := .fields #[rawInt 0, rawInt (n : Int), rawInt 1] }) rfl
    simpa [IsRangeIter] using this

/-- two rows side by side -/
inductive All2 {β : Type} (R : β → Value → Prop) : List β → List Value → Prop
  | nil : All2 R [] []
  | cons {y v ys vs} : R y v → All2 R ys vs → All2 R (y :: ys) (v :: vs)
theorem All2.texts {ys : List (List Nat)} {vs : List Value} (h : All2 (fun y v => ∃ u : Nat, v = .str (T y) u) ys vs) : StrsAre vs (ys.map T) := by
  induction h with
  | nil => exact .nil
  | cons h _ ih => obtain ⟨u, rfl⟩ := h; exact .cons _ _ ih
theorem All2.ints {ys : List Int} {vs : List Value} (h : All2 (fun (y : Int) v => ∃ u : Nat, v = .int y u) ys vs) : IntsAre vs ys := by
  induction h with
  | nil => exact .nil
  | cons h _ ih => obtain ⟨u, rfl⟩ := h; exact .cons _ _ ih

structure Kept (s₁ s₃ : Shared) : Prop where
  keep : Grown s₁.heap s₃.heap
  toks : s₁.toks ≤ s₃.toks
/-- the end of a comp -/
structure Cend (s s₁ s' : Shared) : Prop where
  keep : Grown s₁.heap s'.heap
  os : (s'.os, s'.drawn) = (s₁.os, s₁.drawn)
  gens : s'.gens = s₁.gens
  toks : s.toks ≤ s'.toks
theorem Now.cend {s₁ : Shared} {m₁ : PySem.Str → Option Value} {ns₁ : List (Addr × Obj)} (H : Now w b L m₁ ns₁ G s) (H₁ : Now w b L m ns G s₁) (x : Cend s s₁ s') (ho : s'.heap.get? l = some o) (hn : s₁.heap.get? l = none) : Now w b L m ((l, o) :: ns) G s' := by
  have H2 : Now w b L m ((l, o) :: ns) G { s' with toks := s₁.toks + s'.toks } := H₁.add (s' := { s' with toks := s₁.toks + s'.toks }) ho hn ⟨x.keep, x.os, x.gens, Nat.le_add_right _ _⟩
  exact ⟨H2.B, H2.F, H2.N, H2.os, Nat.le_trans H.toks x.toks, H2.pos, H2.gens⟩
theorem paired_all2 {α β : Type} (p : α → Bool) (f : α → β) (dec : Value → α) (enc : α → Value → Prop) (out : β → Value → Prop) (hdec : ∀ a v, enc a v → dec v = a) {F : Value → Value → Prop} (hF : ∀ v y, F v y → out (f (dec v)) y) :
    ∀ (src : List α) (vs ys : List Value), vs.length = src.length → (∀ (j : Nat) (v : Value), vs[j]? = some v → ∃ a, src[j]? = some a ∧ enc a v) → Paired F (vs.filter fun v => p (dec v)) ys → All2 out ((src.filter p).map f) ys
  | [], [], ys, _, _, h => by cases h; exact .nil
  | a :: r, v :: vs, ys, hl, hP, h => by
    obtain ⟨a', ha, he⟩ := hP 0 v rfl
    have ha : a = a' := by simpa using ha
    subst ha
    have hv := hdec _ _ he
    have ih := fun ys h => paired_all2 p f dec enc out hdec hF r vs ys (by simpa using hl) (fun j v hj => hP (j + 1) v (by simpa using hj)) h
    by_cases hp : p a = true
    · rw [List.filter_cons_of_pos (by rw [hv]; exact hp)] at h
      rw [List.filter_cons_of_pos hp, List.map_cons]
      cases h with
      | cons h1 h2 => exact .cons (by have := hF _ _ h1; rwa [hv] at this) (ih _ h2)
    · rw [List.filter_cons_of_neg (by rw [hv]; exact hp)] at h
      rw [List.filter_cons_of_neg hp]
      exact ih _ h

theorem r_comp {α β : Type} {elt iter : Expr} {x : PySem.Str} {px : Pos} {ifs : List Expr} {scope : Scope} {cl : List (PySem.Str × Addr)} {pos : Pos} {Q : Value → Shared → Prop} (src : List α) (p : α → Bool) (f : α → β) (dec : Value → α) (enc : α → Value → Prop) (out : β → Value → Prop)
    (hdec : ∀ a v, enc a v → dec v = a) (hclos : closureFor scope env = pure cl) (hcellB : (scope.names.all fun y => y.2 != .cell) = true) (hkind : scope.kind = .function)
    (hnamesB : (scope.names.all fun y => y.2 != .local || scope.names.lookup y.1 == some .local) = true) (hx : scope.names.lookup x = some .local)
    (h : Wp w A (eval iter env) (fun xv s₁ => Source w A s₁ xv src enc ∧ src.length ≤ 1000000 ∧
      (∀ C s₃ m₃ a v, Kept s₁ s₃ → s₃.heap.Ns C m₃ → a ∈ src → enc a v → m₃ x = some v →
        Wp w A (forIn ifs true fun c r => if r = true then do let ok ← isTrue c (compEnvC scope cl C env) (eval c (compEnvC scope cl C env)); pure (ForInStep.yield ok) else pure (ForInStep.yield r)) (fun ok s₄ => ok = p a ∧ Step s₃ s₄) s₃) ∧
      (∀ C s₃ m₃ a v, Kept s₁ s₃ → s₃.heap.Ns C m₃ → a ∈ src → enc a v → m₃ x = some v → p a = true → Wp w A (eval elt (compEnvC scope cl C env)) (fun y s₄ => out (f a) y ∧ Step s₃ s₄) s₃) ∧
      (∀ l ys n s', Cend s s₁ s' → s'.heap.get? l = some (listOf (List.toArray ys) n) → s₁.heap.get? l = none → All2 out ((src.filter p).map f) ys → Q (.ref l) s')) s)
    (hs : ∀ x, foldedSetIterable iter env x = pure x) : Wp w A (eval (.ListComp elt [⟨.Name x px, iter, ifs, 0⟩] scope pos) env) Q s := by
  have hcell : ∀ y ∈ scope.names, y.2 ≠ .cell := fun y hy => by have := List.all_eq_true.mp hcellB y hy; simpa using this
  have hnames : ∀ y ∈ scope.names, y.2 = .local → scope.names.lookup y.1 = some .local := fun y hy hl => by
    have := List.all_eq_true.mp hnamesB y hy
    simp only [Bool.or_eq_true, bne_iff_ne, ne_eq, beq_iff_eq] at this
    exact this.resolve_left (fun h => h hl)
  refine wpAny_with_toks (Nat.le_refl s.toks) (wpAny_mono (Q := fun v s' => s.toks ≤ s'.toks → Q v s') ?_ (fun _ _ x => x) fun _ _ x => False.elim x)
  refine wpAny_ListComp_free (fun v => p (dec v)) (fun v y => out (f (dec v)) y) hclos hcell hkind hnames hx (wpAny_mono h (fun xv s₁ h₁ => ?_) fun _ _ e => e) hs
  obtain ⟨S, hsz, ht, he, hq⟩ := h₁
  refine S _ fun o fp St W st hfp => ?_
  have e24 : (2 : Nat) ^ 24 = 16777216 := by decide
  have grown : ∀ s₃ : Shared, (∀ b o', b ∉ [s₁.heap.objs.size] → (s₁.heap.push o).get? b = some o' → s₃.heap.get? b = some o') → Grown s₁.heap s₃.heap := fun s₃ hk b o' e =>
    hk b o' (fun hm => by rw [List.mem_singleton.mp hm] at e; exact absurd (Heap.lt_size e) (Nat.lt_irrefl _)) (Heap.get?_push_of_some _ e)
  refine ⟨s₁.heap.objs.size, fp, [s₁.heap.objs.size], src.length, _, St, rfl, W, by unfold sizeLine; omega, st, ?_, ⟨?_, ?_⟩, ?_⟩
  · intro b hb
    show b < (s₁.heap.push o).objs.size
    rw [Heap.size_push]
    exact Nat.lt_succ_of_le (hfp b hb)
  · rintro C i v s₃ m₃ E' _ ⟨a, ha, hav⟩ hn hm hk htk
    refine wpAny_mono (ht C s₃ m₃ a v ⟨grown s₃ hk, htk⟩ hn (List.mem_of_getElem? ha) hav hm) (fun ok s₄ h₄ => ⟨?_, h₄.2.keeps⟩) fun _ _ x => False.elim x
    rw [hdec a v hav]; exact h₄.1
  · rintro C i v s₃ m₃ E' _ ⟨a, ha, hav⟩ hp hn hm hk htk
    have hd := hdec a v hav
    refine wpAny_mono (he C s₃ m₃ a v ⟨grown s₃ hk, htk⟩ hn (List.mem_of_getElem? ha) hav hm (by rw [← hd]; exact hp)) (fun y s₄ h₄ => ⟨?_, h₄.2.keeps⟩) fun _ _ x => False.elim x
    rw [hd]; exact h₄.1
  · intro D h' tk ys vs hD hl hpl hlen hP hF hk
    intro htk
    obtain ⟨n, hpl⟩ := hpl
    refine hq D ys.toList n _ ⟨grown { s₁ with heap := h', toks := tk } hk, rfl, rfl, htk⟩ (by simpa using hpl) ?_ (paired_all2 p f dec enc out hdec (fun v y h => h) src vs ys.toList hlen hP hF)
    cases e : s₁.heap.get? D with
    | none => rfl
    | some o' =>
      have hD : (s₁.heap.push o).get? D = none := hD
      rw [Heap.get?_push_of_some _ e] at hD; cases hD
end
end Mine

-- part B8
set_option maxRecDepth 100000
namespace Mine
open Builtin.Str StrLaws PySem.Spec
/-- a table: sign -> text -/
inductive TbAre : List (PySem.Str × Value) → List (Nat × List Nat) → Prop
  | nil : TbAre [] []
  | cons (c : Nat) (y : List Nat) (u : Nat) {kvs tb} : TbAre kvs tb → TbAre ((T [c], .str (T y) u) :: kvs) ((c, y) :: tb)
theorem TbAre.look {kvs : List (PySem.Str × Value)} {tb : List (Nat × List Nat)} (h : TbAre kvs tb) (c : Nat) :
    (tb.lookup c = none ∧ valueAt kvs (T [c]) = none) ∨ ∃ (y : List Nat) (u : Nat), tb.lookup c = some y ∧ valueAt kvs (T [c]) = some (.str (T y) u) := by
  induction h with
  | nil => exact .inl ⟨rfl, rfl⟩
  | cons d y u _ ih =>
    by_cases e : c = d
    · subst e
      exact .inr ⟨y, u, by simp, by simp [valueAt]⟩
    · have e1 : (c == d) = false := by simpa using e
      have e2 : ¬ (T [d] = T [c]) := fun h => e (by have := T_inj h; simpa using this.symm)
      have e3 : ∀ kvs, valueAt ((T [d], Value.str (T y) u) :: kvs) (T [c]) = valueAt kvs (T [c]) := fun kvs => by simp [valueAt, e2]
      rw [e3, List.lookup_cons, e1]
      exact ih
noncomputable def Tb (w : World) (h : Heap) (d : Addr) (tb : List (Nat × List Nat)) : Prop := (d == sysModules) = false ∧ ∃ kvs, h.DictOf (PySem.strKind PW w) d kvs ∧ TbAre kvs tb
theorem Tb.grown {w : World} {h h' : Heap} {d : Addr} {tb : List (Nat × List Nat)} (X : Tb w h d tb) (g : Grown h h') : Tb w h' d tb := let ⟨a, kvs, hd, r⟩ := X; ⟨a, kvs, hd.keep g, r⟩
noncomputable def look (tb : List (Nat × List Nat)) (c : Nat) : List Nat := (tb.lookup c).getD [c]
section
variable {w : World} {A : Around} {b s s' s₃ : Shared} {m : PySem.Str → Option Value} {ns : List (Addr × Obj)} {G : Array GenState} {env : Env} {L l C d : Addr} {o o' : Obj} {tb : List (Nat × List Nat)}
theorem r_get2 {c : Nat} {t t' : Nat} {Q : Value → Shared → Prop} (X : Tb w s.heap d tb) (h : ∀ (u : Nat) s', Step s s' → Q (.str (T (look tb c)) u) s') : Wp w A (call (.builtin "dict.get") [.ref d, .str (T [c]) t, .str (T [c]) t']) Q s := by
  obtain ⟨lo, kvs, hD, hT⟩ := X
  have st : Step s { s with toks := s.toks + 1 } := .tok (Nat.le_succ _)
  refine call_meetsIn PySem.F.slot_dict_get hD.typeIs PySem.F.entry_dict_get (PySem.F.args_dict_get_3 _ _ _) (meets_dict_get_default (PySem.strKind PW w) d (k := T [c]) (by simp [PySem.strKind, Value.isStrOf]) lo _) ⟨_, hD.mapOf, ?_⟩
  rcases hT.look c with ⟨e1, e2⟩ | ⟨y, u, e1, e2⟩
  · rw [e2]
    have := h t' _ st
    rw [look, e1] at this
    exact this
  · rw [e2]
    have := h u _ st
    rw [look, e1] at this
    exact this
theorem getM_dict {pl : Sem Bool} {Q : Value × List Value → Shared → Prop} (X : Tb w s.heap d tb) (h : Q (.builtin "dict.get", [.ref d]) s) : Wp w A (getMethod (.ref d) "get" pl) Q s :=
  let ⟨_, _, hD, _⟩ := X
  getMethod_builtin hD.typeIs PySem.F.plainAttrs_dict PySem.F.slot_dict_get PySem.F.type_dict_get hD.mapOf.noDict h
theorem r_mg {e a a' : Expr} {apos pos : Pos} {Q : Value → Shared → Prop} (he : eval (.Call (.Attribute e "get" apos) [a, a'] [] pos) env = (do
      let ov ← eval e env
      standAt apos.atName
      let (f, first) ← holding [ov] (getMethod ov "get" (do let i ← importBound e env; pure (i.getD true)))
      callWith pos f first (backTo pos (starEach [a, a'] env)) []))
    (h1 : starEach [a, a'] env = (false, eval a env) :: starEach [a'] env) (h2 : starEach [a'] env = (false, eval a' env) :: starEach [] env)
    (h : Wp w A (eval e env) (fun ov s₁ => RefThen ov fun d => (∃ tb, Tb w s₁.heap d tb) ∧ Wp w A (eval a env) (fun v s₂ => Wp w A (eval a' env) (fun v' s₃ => Wp w A (call (.builtin "dict.get") [.ref d, v, v']) Q s₃) s₂) s₁) s) :
    Wp w A (eval (.Call (.Attribute e "get" apos) [a, a'] [] pos) env) Q s := by
  with_reducible refine MethodCall_ (wpAny_mono h (fun ov s₁ h₁ => ?_) fun _ _ x => x) he
  obtain ⟨d, rfl, ⟨tb, X⟩, h₁⟩ := refThen_inv h₁
  refine getM_dict X ?_
  show wpAny (model PW w) A (callWith pos (.builtin "dict.get") [.ref d] _ []) Q NoE s₁
  with_reducible refine callWith_method1 ?_ h1 (by rw [h2]; with_unfolding_all rfl)
  exact args_cons (wpAny_mono h₁ (fun v s₂ h₂ => args_cons (wpAny_mono h₂ (fun v' s₃ h₃ => args_nil h₃) fun _ _ x => x) h2) fun _ _ x => x) h1
theorem look_some (X : TbAre kvs tb) (c : Nat) : (valueAt kvs (T [c])).isSome = (tb.lookup c).isSome := by
  rcases X.look c with ⟨e1, e2⟩ | ⟨y, u, e1, e2⟩ <;> rw [e1, e2] <;> rfl
theorem r_inTb {c : Nat} {t : Nat} {Q : Value → Shared → Prop} (X : Tb w s.heap d tb) (h : ∀ s', Step s s' → Q (.bool (tb.lookup c).isSome) s') : Wp w A (compareOp .In (.str (T [c]) t) (.ref d)) Q s := by
  obtain ⟨lo, kvs, hD, hT⟩ := X
  refine wpAny_in_of (knd := PySem.strKind PW w) (k := T [c]) (by simp [PySem.strKind, Value.isStrOf]) lo hD.mapOf ?_
  rw [look_some hT]
  exact h _ (.tok (Nat.le_succ _))
theorem r_notInTb {c : Nat} {t : Nat} {Q : Value → Shared → Prop} (X : Tb w s.heap d tb) (h : ∀ s', Step s s' → Q (.bool (!(tb.lookup c).isSome)) s') : Wp w A (compareOp .NotIn (.str (T [c]) t) (.ref d)) Q s := by
  obtain ⟨lo, kvs, hD, hT⟩ := X
  refine wpAny_notIn_of (knd := PySem.strKind PW w) (k := T [c]) (by simp [PySem.strKind, Value.isStrOf]) lo hD.mapOf ?_
  rw [look_some hT]
  exact h _ (.tok (Nat.le_succ _))

/-- a written table -/
noncomputable def PairsT : List (Value × Value) → List (Nat × List Nat) → Prop
  | [], [] => True
  | (k, v) :: r, (c, y) :: t => (∃ u : Nat, k = .str (T [c]) u) ∧ (∃ u : Nat, v = .str (T y) u) ∧ PairsT r t
  | _, _ => False
theorem pairsT_carries : ∀ {vs : List (Value × Value)} {tb : List (Nat × List Nat)}, PairsT vs tb → ∃ kvs, Carries (PySem.strKind PW w) vs kvs ∧ TbAre kvs tb
  | [], [], _ => ⟨[], by constructor, .nil⟩
  | (k, v) :: r, (c, y) :: t, h => by
    obtain ⟨⟨u, rfl⟩, ⟨u', rfl⟩, h⟩ := h
    obtain ⟨kvs, hc, ht⟩ := pairsT_carries h
    exact ⟨(T [c], .str (T y) u') :: kvs, ⟨by simp [PySem.strKind, Value.isStrOf], rfl, hc⟩, .cons c y u' ht⟩
theorem merged_new : ∀ (acc more : List (PySem.Str × Value)), ((acc ++ more).map (·.1)).Nodup → merged acc more = acc ++ more
  | acc, [], _ => by simp [merged]
  | acc, kv :: r, h => by
    have hn : acc.any (fun x => x.1 = kv.1) = false := by
      rw [List.any_eq_false]
      intro x hx
      simp only [decide_eq_true_eq]
      intro e
      rw [List.map_append, List.nodup_append] at h
      exact h.2.2 x.1 (List.mem_map_of_mem hx) kv.1 (by simp) e
    have e : stored acc kv.1 kv.2 = acc ++ [kv] := by unfold stored; rw [hn]; rfl
    have ih := merged_new (acc ++ [kv]) r (by simpa using h)
    show merged (stored acc kv.1 kv.2) r = _
    rw [e, ih]; simp
theorem tbAre_keys {kvs : List (PySem.Str × Value)} {tb : List (Nat × List Nat)} (h : TbAre kvs tb) : kvs.map (·.1) = tb.map fun p => T [p.1] := by
  induction h with
  | nil => rfl
  | cons c y u _ ih => simp [ih]
theorem nodup_keys {tb : List (Nat × List Nat)} (h : (tb.map (·.1)).Nodup) : (tb.map fun p => T [p.1]).Nodup := by
  have : (tb.map fun p => T [p.1]) = (tb.map (·.1)).map fun c => T [c] := by rw [List.map_map]; rfl
  rw [this]
  exact List.Pairwise.map _ (fun a b hab e => hab (by have := T_inj e; simpa using this)) h
theorem r_dict {keys : List (Option Expr)} {values : List Expr} {pos : Pos} {Q : Value → Shared → Prop} (tb : List (Nat × List Nat)) (H : Now w b L m ns G s)
    (hall : keys.all (·.isSome) = true) (hl : keys.length = values.length) (h0 : keys ≠ []) (hlen : keys.length ≤ 15) (hnd : (tb.map (·.1)).Nodup)
    (h : ∀ s₀, Now w b L m ns G s₀ → Wp w A (evalPairs (pairTrees keys values env pos)) (fun vs s₁ => Now w b L m ns G s₁ ∧ Grown s₀.heap s₁.heap ∧ PairsT vs tb ∧
      ∀ d o s', Now w b L m ((d, o) :: ns) G s' → Tb w s'.heap d tb → (∀ p ∈ ns, p.1 ≠ d) → Q (.ref d) s') s₀) : Wp w A (eval (.Dict keys values pos) env) Q s := by
  have st0 : Step s { s with heap := s.heap.push { cls := .type "dict", data := .dict #[] } } := ⟨fun a o e => Heap.get?_push_of_some _ e, rfl, rfl, Nat.le_refl _⟩
  refine wpAny_Dict_walk (knd := PySem.strKind PW w) hall hl h0 hlen (wpAny_mono (h _ (H.step st0)) (fun vs s₁ h₁ => ?_) fun _ _ x => x)
  obtain ⟨H₁, g, hp, hq⟩ := h₁
  obtain ⟨kvs, hc, ht⟩ := pairsT_carries (w := w) hp
  refine ⟨kvs, hc, (Heap.DictOf.new (knd := PySem.strKind PW w) s.heap).keep g, fun h' hd hs => ?_⟩
  rw [merged_new [] kvs (by simpa [tbAre_keys ht] using nodup_keys hnd), List.nil_append] at hd
  have hnone : ∀ a o, s.heap.get? a = some o → a ≠ s.heap.objs.size := fun a o e => Nat.ne_of_lt (Heap.lt_size e)
  obtain ⟨o, es, ep, ho, _⟩ := id hd
  have keep : Grown s.heap h' := fun a o' e => (hs.2 a (hnone a o' e)).trans (g _ _ (Heap.get?_push_of_some _ e))
  have H2 : Now w b L m ((s.heap.objs.size, o) :: ns) G { s₁ with heap := h', toks := s₁.toks + vs.length } := by
    have hb : b.heap.get? s.heap.objs.size = none := by
      cases e : b.heap.get? s.heap.objs.size with
      | none => rfl
      | some o₀ => exact absurd rfl (hnone _ _ (H.F.keep _ _ e))
    have hL : s.heap.objs.size ≠ L := by
      obtain ⟨oL, _, _, hL, _⟩ := H.F.ns
      exact (hnone _ _ hL).symm
    refine ⟨H.B, H₁.F.change hs hL hb, fun p hp => ?_, H₁.os, Nat.le_trans H₁.toks (Nat.le_add_right _ _), H₁.pos, H₁.gens⟩
    rcases List.mem_cons.mp hp with rfl | hp
    · exact ⟨ho, hL, hb⟩
    · exact ⟨keep _ _ (H.N p hp).1, (H.N p hp).2⟩
  refine hq _ o _ H2 ⟨?_, kvs, hd, ht⟩ fun p hp => hnone _ _ (H.N p hp).1
  have := modules_low H.bs.lim
  exact beq_eq_false_iff_ne.mpr (Nat.ne_of_gt this)

theorem call_fnC {k : Nat} {a : Addr} {fd : FuncData} {body : List Stmt} {vs : List Value} {binds : List (PySem.Str × Value)} {m₀ : PySem.Str → Option Value} {cv : Option Value} {y : PySem.Str} {Q : Value → Shared → Prop} (B : Bs w s.heap) (hp : 0 < s.toks) (hA : OkA (k + 1) A)
    (hf : fnAt w a = some fd) (hbody : fd.body = .stmts body) (hb : bindArgs fd ⟨vs, []⟩ = pure binds) (hcd : codeIn (KK w) fd.code fd.qualname = true) (hclo : fd.closure = [])
    (hkind : ∀ L, (binds.all fun x => fd.scope.names.lookup x.1 == some .local || (fd.scope.names.lookup x.1 == some .cell && ((cellsFrom (L + 1) fd.scope.names []).lookup x.1).isSome)) = true)
    (hcell : ∀ L, cellsFrom (L + 1) fd.scope.names [] = [(y, L + 1)])
    (hm : ∀ L, bindL (callEnvC fd L a).kindOf binds (fun _ => none) = m₀) (hcm : ∀ L, bindC (callEnvC fd L a).kindOf binds (fun _ => none) y = cv)
    (hco : fd.scope.isCoroutine = false) (hgen : fd.scope.isGenerator = false) (hk : fd.scope.kind = .function)
    (h : ∀ (A' : Around) L oc s', oc.data = .cell cv → Now w s (callEnvC fd L a).locals m₀ [(L + 1, oc)] s.gens s' → OkA k A' → Wp w A' (execs body (callEnvC fd L a)) (fun f s'' => Q (retOf f) s'') s') :
    Wp w A (call (.ref a) vs) Q s := by
  obtain ⟨o, ho, hd⟩ := fnAt_get B hf
  refine wpAny_call (codeAny_call_function hA.room ho hd hco hgen hbody (codeRec_of B.k hcd) ?_)
  rw [hb, hclo]
  refine wpAny_pure (wpAny_with_toks (Nat.le_refl s.toks) (wpAny_mono (wpAny_newFunctionEnv_cells (Q := fun env s' => s.toks ≤ s'.toks → _) hk (fun x hx => ?_) fun env he s' x ht => ?_) (fun _ _ x => x) fun _ _ x _ => x))
  · have := List.all_eq_true.mp (hkind s.heap.objs.size) x hx
    simpa using this
  · subst he
    have x : InCallC s (callEnvC fd s.heap.objs.size a).locals (bindL (callEnvC fd s.heap.objs.size a).kindOf binds fun _ => none) (callEnvC fd s.heap.objs.size a).cells (bindC (callEnvC fd s.heap.objs.size a).kindOf binds fun _ => none) s' := x
    have hlk : (callEnvC fd s.heap.objs.size a).cells = [(y, s.heap.objs.size + 1)] := hcell _
    obtain ⟨oc, hoc, hdc⟩ := x.cell y (s.heap.objs.size + 1) (by rw [hlk]; simp)
    rw [hcm] at hdc
    rw [hm] at x
    obtain ⟨h₁, tk, rfl⟩ := x.toInCall.same
    have F : Fr s.heap (callEnvC fd s.heap.objs.size a).locals h₁ m₀ := ⟨x.toInCall.ns, x.toInCall.keep, x.toInCall.fresh⟩
    refine ⟨B.lim.keeps x.toInCall.keep, codeAny_func (wpAny_mono (h _ s.heap.objs.size oc _ hdc ⟨B, F, fun p hp => ?_, rfl, ht, hp, rfl⟩ (hA.deeper _)) (fun f s'' x => by cases f <;> exact x) fun _ _ x => False.elim x)⟩
    rw [List.mem_singleton.mp hp]
    refine ⟨hoc, Nat.succ_ne_self _, ?_⟩
    cases e : s.heap.get? (s.heap.objs.size + 1) with
    | none => rfl
    | some o' => exact absurd (Heap.lt_size e) (Nat.not_lt.mpr (Nat.le_succ _))

theorem r_cell {x : PySem.Str} {pos : Pos} {c : Addr} {v : Value} {Q : Value → Shared → Prop} (H : Now w b L m ns G s) (hm : (c, o) ∈ ns) (ho : o.data = .cell (some v))
    (hk : env.scope.kind = .function) (hl : env.kindOf x = some .cell) (hc : env.cells.lookup x = some c) (hd : (x == ("__debug__" : PySem.Str)) = false) (h : Q v s) : Wp w A (eval (.Name x pos) env) Q s :=
  wpAny_Name (wpAny_loadName_cell hk hl hc ⟨o, H.get hm, ho⟩ h) hd
theorem r_storeC {x : PySem.Str} {c : Addr} {v : Value} {v₀ : Option Value} {Q : Unit → Shared → Prop} (H : Now w b L m ((c, o) :: ns) G s) (ho : o.data = .cell v₀) (ha : ∀ p ∈ ns, p.1 ≠ c)
    (hk : env.scope.kind = .function) (hl : env.kindOf x = some .cell) (hc : env.cells.lookup x = some c)
    (h : ∀ o' s', o'.data = .cell (some v) → Now w b L m ((c, o') :: ns) G s' → s.toks ≤ s'.toks → Q () s') : Wp w A (storeName env x v) Q s :=
  wpAny_storeName_cell hk hl hc ⟨o, H.get (.head _), ho⟩ fun h' hcell hs => by
    obtain ⟨o', ho', hd'⟩ := hcell
    exact h o' _ hd' (H.change ha hs ho') (Nat.le_refl _)
end
end Mine

-- part B9
set_option maxRecDepth 100000
namespace Mine
open Builtin.Str StrLaws PySem.Spec
section
variable {w : World} {A : Around} {b s s' : Shared} {m : PySem.Str → Option Value} {ns : List (Addr × Obj)} {G : Array GenState} {env : Env} {L l : Addr} {o o' : Obj} {ls : List (List Nat)}

/-- the loop's head -/
noncomputable def Head (w : World) (A : Around) (target : Expr) (body rest : List Stmt) (env : Env) (Q : Flow → Shared → Prop) (it : Value) (I : Nat → Shared → Prop) (k : Nat) (r : Option Value) (s₁ : Shared) : Prop :=
  match r with
  | none => Wp w A (execs rest env) Q s₁
  | some v => Wp w A (letOwnedTupleGo target it v) (fun _ s₂ => Wp w A (assign target env v) (fun _ s₃ => Wp w A (execs body env) (loopEnd I k w A rest env Q) s₃) s₂) s₁
theorem r_for {target iter : Expr} {body rest : List Stmt} {pos : Pos} {Q : Flow → Shared → Prop} (hs : ∀ x, foldedSetIterable iter env x = pure x)
    (h : Wp w A (eval iter env) (fun x s₁ => Wp w A (pyIter x) (fun it s₂ => ∃ (I : Nat → Shared → Prop) (n : Nat), I n s₂ ∧ ∀ k s, I k s → Wp w A (pyNext it) (Head w A target body rest env Q it I k) s) s₁) s) :
    Wp w A (execs (.For target iter body [] pos :: rest) env) Q s := by
  refine r_cons (wpAny_For (wpAny_mono h (fun x s₁ h₁ => wpAny_mono h₁ (fun it s₂ h₂ => ?_) fun _ _ x => False.elim x) fun _ _ x => False.elim x) hs)
  obtain ⟨I, n, h0, turn⟩ := h₂
  refine codeAny_mono (codeAny_forLoop_any (R := fun r s' => match r with | .ok f => thenDo w A rest env Q f s' | .error _ => False) I (fun k s hI => ?_) n h0) (fun r s' hr => ?_)
  · refine wpAny_mono (turn k s hI) (fun r s₁ h₁ => ?_) fun _ _ x => False.elim x
    cases r with
    | none => exact r_nil (w := w) (A := A) (env := env) (wpAny_mono h₁ (fun _ _ x => x) fun _ _ x => x)
    | some v =>
      refine wpAny_mono h₁ (fun _ s₂ h₂ => wpAny_mono h₂ (fun _ s₃ h₃ => wpAny_mono h₃ (fun f s₄ h₄ => ?_) fun _ _ x => False.elim x) fun _ _ x => False.elim x) fun _ _ x => False.elim x
      cases f <;> exact h₄
  · cases r with
    | ok f => exact hr
    | error e => exact hr.elim
theorem head_none {target : Expr} {body rest : List Stmt} {Q : Flow → Shared → Prop} {it : Value} {I : Nat → Shared → Prop} {k : Nat} (h : Wp w A (execs rest env) Q s) : Head w A target body rest env Q it I k none s := h
theorem head_name {x : PySem.Str} {p : Pos} {body rest : List Stmt} {Q : Flow → Shared → Prop} {it : Addr} {v : Value} {I : Nat → Shared → Prop} {k : Nat}
    (h : Wp w A (storeName env x v) (fun _ s₃ => Wp w A (execs body env) (loopEnd I k w A rest env Q) s₃) s) : Head w A (.Name x p) body rest env Q (.ref it) I k (some v) s := by
  show Wp w A (letOwnedTupleGo (.Name x p) (.ref it) v) _ s
  refine wpAny_of_eq (a := ()) (by rfl) ?_
  exact wpAny_assign_Name h

/-- a fork that comes together again -/
theorem r_fork {test : Expr} {body orelse : List Stmt} {pos : Pos} {rest : List Stmt} {Q : Flow → Shared → Prop} (R : Shared → Prop) (k : ∀ s, R s → Wp w A (execs rest env) Q s)
    (h : Wp w A (isTrue test env (eval test env)) (fun c s₂ => if c = true then Wp w A (execs body env) (fun f s => f = .next ∧ R s) s₂ else Wp w A (execs orelse env) (fun f s => f = .next ∧ R s) s₂) s) :
    Wp w A (execs (.If test body orelse pos :: rest) env) Q s := by
  have go : ∀ f s, f = Flow.next ∧ R s → thenDo w A rest env Q f s := by rintro f s ⟨rfl, hr⟩; exact k s hr
  refine r_if (wpAny_mono h (fun c s₂ h₂ => ?_) fun _ _ x => x)
  cases c with
  | true => exact wpAny_mono h₂ go fun _ _ x => x
  | false => exact wpAny_mono h₂ go fun _ _ x => x

theorem r_addLI {l' : Addr} {vs ws : List Value} {xs ys : List Int} {Q : Value → Shared → Prop} (H : Now w b L m ns G s) (hl : s.heap.IsList l vs.toArray) (hb : s.heap.IsList l' ws.toArray) (hi : IntsAre vs xs) (hj : IntsAre ws ys) (hn : xs.length + ys.length ≤ 1000000)
    (h : ∀ l'' s', Now w b L m ((l'', listOf (vs ++ ws).toArray 0) :: ns) G s' → IntsAre (vs ++ ws) (xs ++ ys) → (∀ p ∈ ns, p.1 ≠ l'') → Q (.ref l'') s') : Wp w A (binaryOp .Add (.ref l) (.ref l')) Q s := by
  have e24 : (2 : Nat) ^ 24 = 16777216 := by decide
  exact add_lists_ints (hsz := by unfold sizeLine; omega) H.F H.N hl hb hi hj fun h' F' N' hI => h _ _ ⟨H.B, F', N', H.os, H.toks, H.pos, H.gens⟩ hI fun p hp => Nat.ne_of_lt (Heap.lt_size (H.N p hp).1)

/-- range -/
noncomputable abbrev rgIt (x left step : Int) : Obj := { cls := .type "range_iterator", dict := none, data := .fields #[rawInt x, rawInt left, rawInt step], slots := #[] }
theorem next_range {it : Addr} {x left step : Int} {Q : Option Value → Shared → Prop} (hh : A.handled = none) (H : Now w b L m ((it, rgIt x left step) :: ns) G s) (ha : ∀ p ∈ ns, p.1 ≠ it)
    (h1 : 0 < left → ∀ (t : Nat) s', Now w b L m ((it, rgIt (x + step) (left - 1) step) :: ns) G s' → s.toks ≤ s'.toks → Q (some (.int x t)) s')
    (h2 : left ≤ 0 → ∀ s', Now w b L m ns G s' → s.toks ≤ s'.toks → Q none s') : Wp w A (pyNext (.ref it)) Q s := by
  have hit : IsRangeIter s.heap it x left step := H.get (.head _)
  by_cases hl : 0 < left
  · refine wpAny_pyNext_range_item hit hl fun h' hit' hs => h1 hl _ _ ?_ (Nat.le_succ _)
    have := H.change ha hs hit'
    exact this.tok (Nat.le_succ _)
  · refine wpAny_pyNext_range_end hh hit (by omega) fun h' he => h2 (by omega) _ ?_ (Nat.le_refl _)
    have hL := (H.N _ (.head _)).2.1
    have hn := (H.N _ (.head _)).2.2
    obtain ⟨oL, es, ep, hoL, r⟩ := H.F.ns
    refine ⟨H.B, ⟨⟨oL, es, ep, he _ _ (Ne.symm hL) hoL, r⟩, fun c o e => he _ _ ?_ (H.F.keep c o e), H.F.above⟩, fun p hp => ⟨he _ _ (ha p hp) (H.N p (.tail _ hp)).1, (H.N p (.tail _ hp)).2⟩, H.os, H.toks, H.pos, H.gens⟩
    rintro rfl
    have hn : b.heap.get? c = none := hn
    rw [hn] at e; cases e

theorem r_range3 {a c d : Int} {t u v : Nat} {Q : Value → Shared → Prop} (H : Now w b L m ns G s) (hd : d ≠ 0) (hp : Builtin.divisionGoesByPylong (c - a) d = false)
    (h : ∀ r s', Now w b L m ns G s' → IsRange s'.heap r a c d t u v → Q (.ref r) s') : Wp w A (call (.type "range") [.int a t, .int c u, .int d v]) Q s :=
  call_range_3 hd (h _ _ (H.step ⟨fun a o e => Heap.get?_push_of_some _ e, rfl, rfl, Nat.le_refl _⟩) (Heap.get?_push_size _ rfl)) (Or.inl hp)
theorem r_range1 {c : Int} {u : Nat} {Q : Value → Shared → Prop} (H : Now w b L m ns G s)
    (h : ∀ r (t v : Nat) s', Now w b L m ns G s' → IsRange s'.heap r 0 c 1 t u v → Q (.ref r) s') : Wp w A (call (.type "range") [.int c u]) Q s :=
  call_range_1 (h _ _ _ _ (H.step ⟨fun a o e => Heap.get?_push_of_some _ e, rfl, rfl, by show s.toks ≤ s.toks + 1 + 1; omega⟩) (Heap.get?_push_size _ rfl))
theorem iter_range {r : Addr} {a c d : Int} {t u v : Nat} {Q : Value → Shared → Prop} (H : Now w b L m ns G s) (hr : IsRange s.heap r a c d t u v) (hsm : Builtin.Range.small a c d = true)
    (h : ∀ it s', Now w b L m ((it, rgIt a (Builtin.Range.rangeSize a c d) d) :: ns) G s' → s.toks ≤ s'.toks → (∀ p ∈ ns, p.1 ≠ it) → Q (.ref it) s') : Wp w A (pyIter (.ref r)) Q s :=
  wpAny_pyIter_range hr hsm (h _ _ ⟨H.B, H.F.push _, News.push H.F H.N _, H.os, H.toks, H.pos, H.gens⟩ (Nat.le_refl _) fun p hp => Nat.ne_of_lt (Heap.lt_size (H.N p hp).1))

/-- a list -/
noncomputable def LIt (l : Addr) (i : Nat) (o : Obj) : Prop := o.cls = .type "list_iterator" ∧ o.data = .fields #[.ref l, .int i 0]
theorem iter_list {vs : List Value} {Q : Value → Shared → Prop} (H : Now w b L m ns G s) (hl : s.heap.IsList l vs.toArray)
    (h : ∀ it o s', LIt l 0 o → Now w b L m ((it, o) :: ns) G s' → s.toks ≤ s'.toks → (∀ p ∈ ns, p.1 ≠ it) → l ≠ it → Q (.ref it) s') : Wp w A (pyIter (.ref l)) Q s :=
  wpAny_pyIter_list hl (h _ { cls := .type "list_iterator", data := .fields #[.ref l, .int 0 0] } _ ⟨rfl, rfl⟩ ⟨H.B, H.F.push _, News.push H.F H.N _, H.os, H.toks, H.pos, H.gens⟩ (Nat.le_refl _) (fun p hp => Nat.ne_of_lt (Heap.lt_size (H.N p hp).1))
    (let ⟨_, ho, _⟩ := hl; Nat.ne_of_lt (Heap.lt_size ho)))
theorem next_list {it : Addr} {i : Nat} {vs : List Value} {Q : Option Value → Shared → Prop} (hh : A.handled = none) (H : Now w b L m ((it, o) :: ns) G s) (ho : LIt l i o) (ha : ∀ p ∈ ns, p.1 ≠ it) (hl : s.heap.IsList l vs.toArray)
    (h1 : ∀ v, vs[i]? = some v → ∀ o' s', LIt l (i + 1) o' → Now w b L m ((it, o') :: ns) G s' → s.toks ≤ s'.toks → Q (some v) s')
    (h2 : vs[i]? = none → ∀ s', Now w b L m ns G s' → s.toks ≤ s'.toks → Q none s') : Wp w A (pyNext (.ref it)) Q s := by
  have hit : s.heap.IsListIter it l i := ⟨o, H.get (.head _), ho.1, ho.2⟩
  cases hx : vs[i]? with
  | some v =>
    refine wpAny_pyNext_list_item hit hl (x := v) (by simpa using hx) fun h' hit' hs => ?_
    obtain ⟨o', ho', hc, hd⟩ := hit'
    exact h1 v hx o' _ ⟨hc, hd⟩ (H.change ha hs ho') (Nat.le_refl _)
  | none =>
    refine wpAny_pyNext_list_end hh hit hl (by simpa using hx) fun h' he => h2 hx _ ?_ (Nat.le_refl _)
    have hL := (H.N _ (.head _)).2.1
    have hn := (H.N _ (.head _)).2.2
    obtain ⟨oL, es, ep, hoL, r⟩ := H.F.ns
    refine ⟨H.B, ⟨⟨oL, es, ep, he _ _ (Ne.symm hL) hoL, r⟩, fun c o e => he _ _ ?_ (H.F.keep c o e), H.F.above⟩, fun p hp => ⟨he _ _ (ha p hp) (H.N p (.tail _ hp)).1, (H.N p (.tail _ hp)).2⟩, H.os, H.toks, H.pos, H.gens⟩
    rintro rfl
    have hn : b.heap.get? c = none := hn
    rw [hn] at e; cases e

theorem r_callT3 {f : PySem.Str} {id : String} {p pos : Pos} {e e' e'' : Expr} {Q : Value → Shared → Prop} (H : Now w b env.locals m ns G s)
    (hg : env.globals = mainGlobals) (hbn : env.builtins = builtinsNs) (hk : env.scope.kind = .function) (hl : env.kindOf f = some .globalImplicit) (hd : (f == ("__debug__" : PySem.Str)) = false)
    (hn : nsIn (KK w) mainGlobals f = some none) (hv : bootBuiltins f = some (.type id)) (hx : f ≠ "__name__") (he : starEach [e, e', e''] env = (false, eval e env) :: starEach [e', e''] env) (he' : starEach [e', e''] env = (false, eval e' env) :: starEach [e''] env) (he'' : starEach [e''] env = (false, eval e'' env) :: starEach [] env)
    (h : Wp w A (eval e env) (fun v s₁ => Wp w A (eval e' env) (fun v' s₂ => Wp w A (eval e'' env) (fun v'' s₃ => Wp w A (call (.type id) [v, v', v'']) Q s₃) s₂) s₁) s) : Wp w A (eval (.Call (.Name f p) [e, e', e''] [] pos) env) Q s :=
  Call_ (r_builtin H hg hbn hk hl hd hn hv hx (PyProof.Rows.callWith_type1 (args_cons (wpAny_mono h (fun v s₁ h₁ => args_cons (wpAny_mono h₁ (fun v' s₂ h₂ => args_cons (wpAny_mono h₂ (fun v'' s₃ h₃ => args_nil h₃) fun _ _ x => x) he'') fun _ _ x => x) he') fun _ _ x => x) he) he (by rw [he', he'']; rfl))) rfl
theorem r_callT2 {f : PySem.Str} {id : String} {p pos : Pos} {e e' : Expr} {Q : Value → Shared → Prop} (H : Now w b env.locals m ns G s)
    (hg : env.globals = mainGlobals) (hbn : env.builtins = builtinsNs) (hk : env.scope.kind = .function) (hl : env.kindOf f = some .globalImplicit) (hd : (f == ("__debug__" : PySem.Str)) = false)
    (hn : nsIn (KK w) mainGlobals f = some none) (hv : bootBuiltins f = some (.type id)) (hx : f ≠ "__name__") (he : starEach [e, e'] env = (false, eval e env) :: starEach [e'] env) (he' : starEach [e'] env = (false, eval e' env) :: starEach [] env)
    (h : Wp w A (eval e env) (fun v s₁ => Wp w A (eval e' env) (fun v' s₂ => Wp w A (call (.type id) [v, v']) Q s₂) s₁) s) : Wp w A (eval (.Call (.Name f p) [e, e'] [] pos) env) Q s :=
  Call_ (r_builtin H hg hbn hk hl hd hn hv hx (PyProof.Rows.callWith_type1 (args_cons (wpAny_mono h (fun v s₁ h₁ => args_cons (wpAny_mono h₁ (fun v' s₂ h₂ => args_nil h₂) fun _ _ x => x) he') fun _ _ x => x) he) he (by rw [he']; rfl))) rfl
end
end Mine

namespace Mine
set_option maxRecDepth 100000

local macro_rules | `(tactic| tb_start) => `(tactic| with_reducible first | apply upd_same | assumption | (apply upd_ne; kernel_rfl!; tb_start))
local macro_rules | `(tactic| tb_rel) => `(tactic| with_reducible assumption)
local macro_rules | `(tactic| kct_strs) => `(tactic| first | assumption | omega | (simp only [List.length_append, List.length_cons, List.length_nil]; omega))
local macro_rules | `(tactic| ktn_open) => `(tactic| with_reducible first | exact List.mem_cons_self | (apply List.mem_cons_of_mem; ktn_open))
local macro_rules | `(tactic| ktr_unf) => `(tactic| with_reducible first | assumption | exact Now.base (by tb_rel) (by assumption) | exact Now.tl (by tb_rel) (by ktn_open) (by assumption))
local macro_rules | `(tactic| keq_rows) => do
  let ids := fun (l : List Lean.Name) => l.toArray.map Lean.mkIdent
  let lits := ids [`lit34, `lit92, `lit40, `lit41, `litNil, `lit38, `lit60, `lit62, `lit13, `lit9, `lit10, `lit34x34, `lit92x92, `lit92x34, `lit92x40, `lit92x41, `lit40x41, `lit1, `lit2, `lit98, `lit97, `lit32, `litamp, `litlt, `litgt, `litquot, `litxD, `litx9, `litxA, `lit257, `lit257x, `lit32x34, `litPair]
  let es := ids [`r_bin, `r_sub, `r_slice, `r_neg, `r_listE, `r_ifexp, `r_bool, `r_none]
  let ms := ids [`gm_join, `gm_split, `gm_count, `gm_index]
  let xs := ids [`r_ret, `r_if, `r_nil, `r_aug, `r_brk]
  let ts := ids [`r_not, `r_or, `r_or0, `r_and, `r_and0]
  let zs := ids [`r_tb, `r_eqT, `r_neT, `r_in1, `r_notIn1, `r_in2, `thenDo_next, `thenDo_ret, `thenDo_brk, `loopEnd_brk, `loopEnd_ret, `args_nil, `strThen, `refThen, `r_pNone, `r_pSome, `intThen, `r_ltI, `r_gtI, `r_geI, `r_eqI, `r_neI]
  let ns := ids [`r_addI, `r_iaddI, `r_isubI]
  let as := ids [`r_addT, `r_iaddT]
  let rs := ids [`r_rep1, `r_rep2]
  `(tactic| with_reducible first
  | ((show wpAny _ _ (eval _ _) _ _ _); first
    | (refine r_lit _ (by first $[| exact $lits]*) (by tb_rel) ?_; intro _ _ _ _ _ _)
    | (refine r_int (by tb_rel) ?_; intro _ _ _ _)
    | refine r_local (by tb_rel) (by kernel_rfl!) (by kernel_rfl!) (by kernel_rfl!) (by tb_start) ?_
    | refine r_cutAny (by intro _ _; kernel_rfl!) ?_
    | refine r_cmpE ?_ (by kernel_rfl!)
    | refine r_ap (by kernel_rfl!) (by kernel_rfl!) ?_
    | refine r_callB1 (id := "len") (by tb_rel) (by kernel_rfl!) (by kernel_rfl!) (by kernel_rfl!) (by kernel_rfl!) (by kernel_rfl!) (by kernel_rfl!) boot_len (by decide) (by kernel_rfl!) ?_
    | first $[| refine $es ?_]*
    | refine r_m2 gm_replace (by kernel_rfl!) (by kernel_rfl!) (by kernel_rfl!) ?_
    | first $[| refine r_m1 $ms (by kernel_rfl!) (by kernel_rfl!) ?_]*)
  | ((show wpAny _ _ (execs _ _) _ _ _); first
    | first $[| refine $xs ?_]*
    | refine r_assign ?_ (by kernel_rfl!)
    | refine r_expr ?_ (by kernel_rfl!) (by kernel_rfl!)
    | refine r_augSub ?_ (by intro _ _ _; kernel_rfl!))
  | ((show wpAny _ _ (isTrue _ _ _) _ _ _); first
    | refine r_cmp ?_ (by kernel_rfl!)
    | first $[| refine $ts ?_]*)
  | ((show wpAny _ _ (call _ _) _ _ _); first
    | first $[| (refine $rs (by tb_rel) (by assumption) (by omega) (by decide) (by kct_strs) (by decide) ?_; intro _ _ _ _)]*
    | (refine r_lenT (by tb_rel) (by kct_strs) ?_; intro _ _ _ _)
    | (refine r_countT (by tb_rel) ?_; intro _ _ _ _)
    | (refine r_indexT (by tb_rel) (by assumption) ?_; intro _ _ _ _)
    | ((show wpAny _ _ (call (Value.builtin "str.split") _) _ _ _); refine r_splitT (by tb_rel) (by decide) (by kct_strs) ?_; intro _ _ _ _ _ _ _)
    | ((show wpAny _ _ (call (Value.builtin "str.join") _) _ _ _); refine r_joinT (by tb_rel) (by ktr_unf) (by kct_strs) ?_; intro _ _ _ _)
    | ((show wpAny _ _ (call (Value.builtin "len") [Value.ref _]) _ _ _); refine r_lenL (by tb_rel) (by ktr_unf) (by kct_strs) ?_; intro _ _ _ _))
  | first $[| refine $zs ?_]*
  | (refine r_store (by tb_rel) (by kernel_rfl!) (by kernel_rfl!) ?_; intro _ _ _)
  | refine r_load (by tb_rel) (by kernel_rfl!) (by kernel_rfl!) (by tb_start) ?_
  | refine args_cons ?_ (by kernel_rfl!)
  | first $[| (refine $as (by tb_rel) (by kct_strs) ?_; intro _ _ _ _)]*
  | ((show wpAny _ _ (newList _) _ _ _); refine r_newList (by tb_rel) (by kct_strs) ?_; intro _ _ _ _ _)
  | first $[| (refine $ns (by tb_rel) ?_; intro _ _ _ _)]*)
local macro_rules | `(tactic| keq_hits) => `(tactic| repeat keq_rows)


-- part Wq
section
theorem ar_pred {k : Nat} (h : 0 < k) : k - 1 < k := Nat.sub_lt h Nat.one_pos
theorem ar_pos {i k n : Nat} (h : i + k = n) (hi : i < n) : 0 < k := Nat.pos_of_ne_zero fun e => by subst e; exact absurd hi (by rw [← h]; exact Nat.lt_irrefl _)
theorem ar_step {i k n : Nat} (h : i + k = n) (hk : 0 < k) : i + 1 + (k - 1) = n := by rw [Nat.add_assoc, Nat.add_sub_cancel' hk]; exact h
theorem ar_back {k n : Nat} (h : k + 1 ≤ n) : n - (k + 1) + 1 = n - k := Nat.sub_add_cancel (Nat.sub_pos_of_lt h)
theorem ar_i1 {i : Nat} {v : Int} (h : v = (i : Int)) : v + 1 = ((i + 1 : Nat) : Int) := by rw [h]; rfl
theorem ar_icast {k : Nat} (h : 0 < k) : (k : Int) - 1 = ((k - 1 : Nat) : Int) := (Int.ofNat_sub h).symm
theorem ar_mod8 (x : Int) : x % 8 = ((x % 8).toNat : Int) ∧ (x % 8).toNat < 8 :=
  ⟨(Int.toNat_of_nonneg (Int.emod_nonneg x (by decide))).symm, (Int.toNat_lt (Int.emod_nonneg x (by decide))).mpr (Int.emod_lt_of_pos x (by decide))⟩
theorem ar_odd {n : Nat} : ((n : Int) % 2 = 1) ↔ n % 2 = 1 := Int.natCast_inj (m := n % 2) (n := 1)
theorem ar_even {n : Nat} : ((n : Int) % 2 = 0) ↔ n % 2 = 0 := Int.natCast_inj (m := n % 2) (n := 0)
theorem ar_M {n : Nat} (h : n ≤ 10000) : n ≤ 1000000 := Nat.le_trans h (by decide)
noncomputable def quoted (x : List Nat) : List Nat := [34] ++ rep1 34 [34, 34] x ++ [34]
theorem rep1_len (c : Nat) (z : List Nat) (hz : z ≠ []) (x : List Nat) : (rep1 c z x).length ≤ z.length * x.length := by
  have : 1 ≤ z.length := List.length_pos_iff.mpr hz
  induction x with
  | nil => simp [rep1]
  | cons a r ih =>
    unfold rep1 at ih ⊢
    rw [List.flatMap_cons, List.length_append, List.length_cons, Nat.mul_succ]
    split
    · omega
    · simp only [List.length_singleton]; omega
set_option maxHeartbeats 400000 in
theorem c_quoted {w : World} {A : Around} {s : Shared} {x : List Nat} {t : Tok} {Q : Value → Shared → Prop} (B : Bs w s.heap) (hp : 0 < s.toks) (hA : OkA 1 A) (hx : x.length ≤ 10000)
    (h : ∀ (t : Nat) s', Step s s' → Q (.str (T (quoted x)) t) s') : Wp w A (call (.ref 114) [.str (T x) t]) Q s := by
  refine call_fn (fd := fdAt w 114) (body := topBody 16) (binds := [("name", .str (T x) t)]) B hp hA (by kernel_rfl!) (by kernel_rfl!) (by kernel_rfl!) (by kernel_rfl!) (by kernel_rfl!) (by kernel_rfl!) (by kernel_rfl!) (by kernel_rfl!) (by kernel_rfl!) binds1 fun A L s' H hA => ?_
  refine r_ret ?_
  have hb := rep1_len 34 [34, 34] (by decide) x
  simp only [List.length_cons, List.length_nil] at hb
  keq_hits
  exact h _ _ (Now.end (by tb_rel))
end

-- part Wesc
section
section
variable {w : World} {A : Around} {b s : Shared} {m : PySem.Str → Option Value} {ns : List (Addr × Obj)} {G : Array GenState} {env : Env}
theorem r_try {body hs : _} {h₀ : ExceptHandler} {pos : Pos} {rest : List Stmt} {Q : Flow → Shared → Prop} (h : Wp w A (execs body env) (thenDo w A rest env Q) s) :
    Wp w A (execs (.Try body (h₀ :: hs) [] [] pos :: rest) env) Q s := by
  refine r_cons ?_
  show Wp w A (standAt pos >>= fun _ => tryStmt false (execs body env) (h₀ :: hs) (execs [] env) [] env) _ s
  refine wpAny_bind (wpAny_standAt (wpAny_tryStmt_except (wpAny_mono h (fun f s₁ h₁ => ?_) fun _ _ x => False.elim x)))
  cases f with
  | next => exact r_nil h₁
  | brk => exact h₁
  | cont => exact h₁
  | ret v => exact h₁

theorem rep1_none {c : Nat} {z x : List Nat} (h : c ∉ x) : rep1 c z x = x := by
  unfold rep1
  induction x with
  | nil => rfl
  | cons a r ih =>
    rw [List.flatMap_cons, ih (fun hm => h (List.mem_cons_of_mem _ hm)), if_neg (fun e : a = c => h (e ▸ List.mem_cons_self))]; rfl

theorem r_ifrep {v cs zs : PySem.Str} {c : Nat} {z x : List Nat} {t : Nat} {k k1 k2 : Nat} {p1 p2 p3 p4 p5 p6 p7 p8 p9 p10 p11 : Pos} {rest : List Stmt} {Q : Flow → Shared → Prop} (hc : cs = T [c]) (hz : zs = T z) (hne : [c] ≠ z) (hzl : z.length ≤ 14) (hxl : x.length ≤ 1000000)
    (H : Now w b env.locals m ns G s) (hk : env.scope.kind = .function) (hl : env.kindOf v = some .local) (hd : (v == ("__debug__" : PySem.Str)) = false)
    (hm : m v = some (.str (T x) t))
    (hin : behindInMarks .In (.Name v p2) = false)
    (hsw : swapsWith (.Call (.Attribute (.Name v p5) "replace" p6) [.Constant (.str cs) k1 p7, .Constant (.str zs) k2 p8] [] p9) (some (.Name v p4)) p10.line env = pure false)
    (he : eval (.Call (.Attribute (.Name v p5) "replace" p6) [.Constant (.str cs) k1 p7, .Constant (.str zs) k2 p8] [] p9) env = (do
      let ov ← eval (.Name v p5) env
      standAt p6.atName
      let (f, first) ← holding [ov] (getMethod ov "replace" (do let i ← importBound (.Name v p5) env; pure (i.getD true)))
      callWith p9 f first (backTo p9 (starEach [.Constant (.str cs) k1 p7, .Constant (.str zs) k2 p8] env)) []))
    (h : ∀ s' m' t', Now w b env.locals m' ns G s' → m' v = some (.str (T (rep1 c z x)) t') → Wp w A (execs rest env) Q s') :
    Wp w A (execs (.If (.Compare (.Constant (.str cs) k p1) [.In] [.Name v p2] p3) [.Assign [.Name v p4] (.Call (.Attribute (.Name v p5) "replace" p6) [.Constant (.str cs) k1 p7, .Constant (.str zs) k2 p8] [] p9) p10] [] p11 :: rest) env) Q s := by
  subst hc hz
  refine r_if (r_cmp ?_ hin)
  refine r_lit [c] rfl H fun t1 s1 H1 a1 a2 a3 => ?_
  refine r_local H1 hk hl hd hm (r_in1 (r_tb ?_))
  by_cases hx : c ∈ x
  · rw [if_pos (by simpa using hx)]
    refine r_assign ?_ hsw
    refine r_m2 gm_replace he rfl rfl ?_
    refine r_local H1 hk hl hd hm (strThen ?_)
    refine r_lit [c] rfl H1 fun t2 s2 H2 b1 b2 b3 => ?_
    refine r_lit z rfl H2 fun t3 s3 H3 c1 c2 c3 => ?_
    refine r_rep1 H3 b3 (by omega) hne hxl hzl fun t4 s4 H4 d1 => ?_
    refine r_store H4 hk hl fun s5 H5 e1 => ?_
    exact r_nil (thenDo_next (h s5 _ t4 H5 upd_same))
  · rw [if_neg (by simpa using hx)]
    refine r_nil (thenDo_next (h s1 m t H1 ?_))
    rw [rep1_none hx]; exact hm
end
noncomputable def amp : List Nat := [38, 97, 109, 112, 59]
noncomputable def lth : List Nat := [38, 108, 116, 59]
noncomputable def gth : List Nat := [38, 103, 116, 59]
noncomputable def quo : List Nat := [38, 113, 117, 111, 116, 59]
noncomputable def crd : List Nat := [38, 35, 120, 68, 59]
noncomputable def tab9 : List Nat := [38, 35, 120, 57, 59]
noncomputable def lfa : List Nat := [38, 35, 120, 65, 59]
noncomputable def esc1 (x : List Nat) : List Nat := rep1 62 gth (rep1 60 lth (rep1 38 amp x))
noncomputable def esc2 (x : List Nat) : List Nat := rep1 13 crd (rep1 62 gth (rep1 60 lth (rep1 38 amp x)))
noncomputable def esc3 (x : List Nat) : List Nat := rep1 13 crd (rep1 10 lfa (rep1 9 tab9 (rep1 34 quo (rep1 60 lth (rep1 38 amp x)))))
set_option maxHeartbeats 400000
theorem c_esc1 {w : World} {A : Around} {s : Shared} {x : List Nat} {t : Tok} {Q : Value → Shared → Prop} (B : Bs w s.heap) (hp : 0 < s.toks) (hA : OkA 1 A) (hx : x.length ≤ 60)
    (h : ∀ (t : Nat) s', Step s s' → Q (.str (T (esc1 x)) t) s') : Wp w A (call (.ref 88) [.str (T x) t]) Q s := by
  refine call_fn (fd := fdAt w 88) (body := topBody 11) (binds := [("text", .str (T x) t)]) B hp hA (by kernel_rfl!) (by kernel_rfl!) (by kernel_rfl!) (by kernel_rfl!) (by kernel_rfl!) (by kernel_rfl!) (by kernel_rfl!) (by kernel_rfl!) (by kernel_rfl!) binds1 fun A L s' H hA => ?_
  have h0 : (rep1 38 amp (x)).length ≤ 5 * (x).length := rep1_len 38 amp (by decide) _
  have h1 : (rep1 60 lth (rep1 38 amp (x))).length ≤ 4 * (rep1 38 amp (x)).length := rep1_len 60 lth (by decide) _
  have h2 : (rep1 62 gth (rep1 60 lth (rep1 38 amp (x)))).length ≤ 4 * (rep1 60 lth (rep1 38 amp (x))).length := rep1_len 62 gth (by decide) _
  refine r_try ?_
  refine r_ifrep (c := 38) (z := amp) (x := x) (by kernel_rfl!) (by kernel_rfl!) (by decide) (by decide) (by omega) H (by kernel_rfl!) (by kernel_rfl!) (by kernel_rfl!) upd_same (by kernel_rfl!) (by kernel_rfl!) (by kernel_rfl!) fun s0 m0 t0 H0 e0 => ?_
  refine r_ifrep (c := 60) (z := lth) (x := rep1 38 amp (x)) (by kernel_rfl!) (by kernel_rfl!) (by decide) (by decide) (by omega) H0 (by kernel_rfl!) (by kernel_rfl!) (by kernel_rfl!) e0 (by kernel_rfl!) (by kernel_rfl!) (by kernel_rfl!) fun s1 m1 t1 H1 e1 => ?_
  refine r_ifrep (c := 62) (z := gth) (x := rep1 60 lth (rep1 38 amp (x))) (by kernel_rfl!) (by kernel_rfl!) (by decide) (by decide) (by omega) H1 (by kernel_rfl!) (by kernel_rfl!) (by kernel_rfl!) e1 (by kernel_rfl!) (by kernel_rfl!) (by kernel_rfl!) fun s2 m2 t2 H2 e2 => ?_
  refine r_ret (r_local H2 (by kernel_rfl!) (by kernel_rfl!) (by kernel_rfl!) e2 (thenDo_ret (h _ _ H2.end)))
theorem c_esc2 {w : World} {A : Around} {s : Shared} {x : List Nat} {t : Tok} {Q : Value → Shared → Prop} (B : Bs w s.heap) (hp : 0 < s.toks) (hA : OkA 1 A) (hx : x.length ≤ 60)
    (h : ∀ (t : Nat) s', Step s s' → Q (.str (T (esc2 x)) t) s') : Wp w A (call (.ref 95) [.str (T x) t]) Q s := by
  refine call_fn (fd := fdAt w 95) (body := topBody 12) (binds := [("text", .str (T x) t)]) B hp hA (by kernel_rfl!) (by kernel_rfl!) (by kernel_rfl!) (by kernel_rfl!) (by kernel_rfl!) (by kernel_rfl!) (by kernel_rfl!) (by kernel_rfl!) (by kernel_rfl!) binds1 fun A L s' H hA => ?_
  have h0 : (rep1 38 amp (x)).length ≤ 5 * (x).length := rep1_len 38 amp (by decide) _
  have h1 : (rep1 60 lth (rep1 38 amp (x))).length ≤ 4 * (rep1 38 amp (x)).length := rep1_len 60 lth (by decide) _
  have h2 : (rep1 62 gth (rep1 60 lth (rep1 38 amp (x)))).length ≤ 4 * (rep1 60 lth (rep1 38 amp (x))).length := rep1_len 62 gth (by decide) _
  have h3 : (rep1 13 crd (rep1 62 gth (rep1 60 lth (rep1 38 amp (x))))).length ≤ 5 * (rep1 62 gth (rep1 60 lth (rep1 38 amp (x)))).length := rep1_len 13 crd (by decide) _
  refine r_try ?_
  refine r_ifrep (c := 38) (z := amp) (x := x) (by kernel_rfl!) (by kernel_rfl!) (by decide) (by decide) (by omega) H (by kernel_rfl!) (by kernel_rfl!) (by kernel_rfl!) upd_same (by kernel_rfl!) (by kernel_rfl!) (by kernel_rfl!) fun s0 m0 t0 H0 e0 => ?_
  refine r_ifrep (c := 60) (z := lth) (x := rep1 38 amp (x)) (by kernel_rfl!) (by kernel_rfl!) (by decide) (by decide) (by omega) H0 (by kernel_rfl!) (by kernel_rfl!) (by kernel_rfl!) e0 (by kernel_rfl!) (by kernel_rfl!) (by kernel_rfl!) fun s1 m1 t1 H1 e1 => ?_
  refine r_ifrep (c := 62) (z := gth) (x := rep1 60 lth (rep1 38 amp (x))) (by kernel_rfl!) (by kernel_rfl!) (by decide) (by decide) (by omega) H1 (by kernel_rfl!) (by kernel_rfl!) (by kernel_rfl!) e1 (by kernel_rfl!) (by kernel_rfl!) (by kernel_rfl!) fun s2 m2 t2 H2 e2 => ?_
  refine r_ifrep (c := 13) (z := crd) (x := rep1 62 gth (rep1 60 lth (rep1 38 amp (x)))) (by kernel_rfl!) (by kernel_rfl!) (by decide) (by decide) (by omega) H2 (by kernel_rfl!) (by kernel_rfl!) (by kernel_rfl!) e2 (by kernel_rfl!) (by kernel_rfl!) (by kernel_rfl!) fun s3 m3 t3 H3 e3 => ?_
  refine r_ret (r_local H3 (by kernel_rfl!) (by kernel_rfl!) (by kernel_rfl!) e3 (thenDo_ret (h _ _ H3.end)))
theorem c_esc3 {w : World} {A : Around} {s : Shared} {x : List Nat} {t : Tok} {Q : Value → Shared → Prop} (B : Bs w s.heap) (hp : 0 < s.toks) (hA : OkA 1 A) (hx : x.length ≤ 60)
    (h : ∀ (t : Nat) s', Step s s' → Q (.str (T (esc3 x)) t) s') : Wp w A (call (.ref 102) [.str (T x) t]) Q s := by
  refine call_fn (fd := fdAt w 102) (body := topBody 13) (binds := [("text", .str (T x) t)]) B hp hA (by kernel_rfl!) (by kernel_rfl!) (by kernel_rfl!) (by kernel_rfl!) (by kernel_rfl!) (by kernel_rfl!) (by kernel_rfl!) (by kernel_rfl!) (by kernel_rfl!) binds1 fun A L s' H hA => ?_
  have h0 : (rep1 38 amp (x)).length ≤ 5 * (x).length := rep1_len 38 amp (by decide) _
  have h1 : (rep1 60 lth (rep1 38 amp (x))).length ≤ 4 * (rep1 38 amp (x)).length := rep1_len 60 lth (by decide) _
  have h2 : (rep1 34 quo (rep1 60 lth (rep1 38 amp (x)))).length ≤ 6 * (rep1 60 lth (rep1 38 amp (x))).length := rep1_len 34 quo (by decide) _
  have h3 : (rep1 9 tab9 (rep1 34 quo (rep1 60 lth (rep1 38 amp (x))))).length ≤ 5 * (rep1 34 quo (rep1 60 lth (rep1 38 amp (x)))).length := rep1_len 9 tab9 (by decide) _
  have h4 : (rep1 10 lfa (rep1 9 tab9 (rep1 34 quo (rep1 60 lth (rep1 38 amp (x)))))).length ≤ 5 * (rep1 9 tab9 (rep1 34 quo (rep1 60 lth (rep1 38 amp (x))))).length := rep1_len 10 lfa (by decide) _
  have h5 : (rep1 13 crd (rep1 10 lfa (rep1 9 tab9 (rep1 34 quo (rep1 60 lth (rep1 38 amp (x))))))).length ≤ 5 * (rep1 10 lfa (rep1 9 tab9 (rep1 34 quo (rep1 60 lth (rep1 38 amp (x)))))).length := rep1_len 13 crd (by decide) _
  refine r_try ?_
  refine r_ifrep (c := 38) (z := amp) (x := x) (by kernel_rfl!) (by kernel_rfl!) (by decide) (by decide) (by omega) H (by kernel_rfl!) (by kernel_rfl!) (by kernel_rfl!) upd_same (by kernel_rfl!) (by kernel_rfl!) (by kernel_rfl!) fun s0 m0 t0 H0 e0 => ?_
  refine r_ifrep (c := 60) (z := lth) (x := rep1 38 amp (x)) (by kernel_rfl!) (by kernel_rfl!) (by decide) (by decide) (by omega) H0 (by kernel_rfl!) (by kernel_rfl!) (by kernel_rfl!) e0 (by kernel_rfl!) (by kernel_rfl!) (by kernel_rfl!) fun s1 m1 t1 H1 e1 => ?_
  refine r_ifrep (c := 34) (z := quo) (x := rep1 60 lth (rep1 38 amp (x))) (by kernel_rfl!) (by kernel_rfl!) (by decide) (by decide) (by omega) H1 (by kernel_rfl!) (by kernel_rfl!) (by kernel_rfl!) e1 (by kernel_rfl!) (by kernel_rfl!) (by kernel_rfl!) fun s2 m2 t2 H2 e2 => ?_
  refine r_ifrep (c := 9) (z := tab9) (x := rep1 34 quo (rep1 60 lth (rep1 38 amp (x)))) (by kernel_rfl!) (by kernel_rfl!) (by decide) (by decide) (by omega) H2 (by kernel_rfl!) (by kernel_rfl!) (by kernel_rfl!) e2 (by kernel_rfl!) (by kernel_rfl!) (by kernel_rfl!) fun s3 m3 t3 H3 e3 => ?_
  refine r_ifrep (c := 10) (z := lfa) (x := rep1 9 tab9 (rep1 34 quo (rep1 60 lth (rep1 38 amp (x))))) (by kernel_rfl!) (by kernel_rfl!) (by decide) (by decide) (by omega) H3 (by kernel_rfl!) (by kernel_rfl!) (by kernel_rfl!) e3 (by kernel_rfl!) (by kernel_rfl!) (by kernel_rfl!) fun s4 m4 t4 H4 e4 => ?_
  refine r_ifrep (c := 13) (z := crd) (x := rep1 10 lfa (rep1 9 tab9 (rep1 34 quo (rep1 60 lth (rep1 38 amp (x)))))) (by kernel_rfl!) (by kernel_rfl!) (by decide) (by decide) (by omega) H4 (by kernel_rfl!) (by kernel_rfl!) (by kernel_rfl!) e4 (by kernel_rfl!) (by kernel_rfl!) (by kernel_rfl!) fun s5 m5 t5 H5 e5 => ?_
  refine r_ret (r_local H5 (by kernel_rfl!) (by kernel_rfl!) (by kernel_rfl!) e5 (thenDo_ret (h _ _ H5.end)))
end

-- part Wparse
section
noncomputable def pq : List Nat → List Nat
  | [] => []
  | [c] => if c = 34 then [] else [c]
  | c :: d :: r => if c = 34 then (if d = 34 then 34 :: pq r else []) else c :: pq (d :: r)
inductive ParseI (w : World) (s : Shared) (L : Addr) (l u : List Nat) (k : Nat) (s₁ : Shared) : Prop
  | mk (m : PySem.Str → Option Value) (i : Nat) (d : List Nat) (iv nv : Int) (ti tn td tr : Nat) (h0 : Now w s (callEnv (fdAt w 74) L 74).locals m [] s.gens s₁)
      (h1 : m "resp" = some (.str (T l) tr)) (h2 : m "i" = some (.int iv ti)) (h3 : m "n" = some (.int nv tn)) (h4 : m "dirname" = some (.str (T d) td)) (h5 : iv = (i : Int)) (h6 : nv = (l.length : Int))
      (h7 : i ≤ l.length) (h8 : k = l.length - i) (h9 : d ++ pq (l.drop i) = pq u) (h10 : d.length ≤ i) : ParseI w s L l u k s₁
set_option maxHeartbeats 400000
theorem c_parse {w : World} {A : Around} {s : Shared} {u : List Nat} {t : Tok} {Q : Value → Shared → Prop} (B : Bs w s.heap) (hp : 0 < s.toks) (hA : OkA 1 A) (hx : u.length ≤ 10000)
    (h : ∀ (t : Nat) s', Step s s' → Q (.str (T (pq u)) t) s') : Wp w A (call (.ref 74) [.str (T ([50, 53, 55, 32, 34] ++ u)) t]) Q s := by
  refine call_fn (fd := fdAt w 74) (body := topBody 8) (binds := [("resp", .str (T ([50, 53, 55, 32, 34] ++ u)) t)]) B hp hA (by kernel_rfl!) (by kernel_rfl!) (by kernel_rfl!) (by kernel_rfl!) (by kernel_rfl!) (by kernel_rfl!) (by kernel_rfl!) (by kernel_rfl!) (by kernel_rfl!) binds1 fun A L s' H hA => ?_
  have hl : ([50, 53, 55, 32, 34] ++ u).length = u.length + 5 := by simp
  refine r_if ?_
  keq_hits
  refine cut_ns (c := 3) (by tb_rel) rfl (by omega) (by omega) fun t1 s1 H1 a1 => ?_
  keq_hits
  rw [if_neg (by simp [cut])]
  keq_hits
  refine cut_ss (a := 3) (c := 5) (by tb_rel) rfl rfl (by omega) (by omega) (by omega) fun t2 s2 H2 a2 => ?_
  keq_hits
  rw [if_neg (by simp [cut])]
  keq_hits
  refine r_while (ParseI w s L ([50, 53, 55, 32, 34] ++ u) u) ?_ _ ⟨_, 5, [], 5, _, _, _, _, _, by tb_rel, by tb_start, by tb_start, by tb_start, by tb_start, rfl, rfl, by omega, rfl, rfl, by simp⟩
  rintro k s₁ ⟨m, i, d, iv, nv, ti, tn, td, tr, H2, hr, hi, hn, hd, hiv, hnv, hle, rfl, he, hdl⟩
  generalize [50, 53, 55, 32, 34] ++ u = l at *
  have hl5 : l.length ≤ 10005 := by rw [hl]; exact Nat.add_le_add_right hx 5
  have hdM : ∀ c : Nat, d.length + [c].length ≤ 1000000 := fun _ => Nat.le_trans (Nat.succ_le_succ (Nat.le_trans hdl (Nat.le_trans hle hl5))) (by decide)
  have hlM : l.length ≤ 1000000 := Nat.le_trans hl5 (by decide)
  keq_hits
  by_cases hlt : iv < nv
  · have hlt' : i < l.length := by omega
    rw [if_pos (decide_eq_true hlt)]
    keq_hits
    refine sub_at (by tb_rel) hiv hlt' (Nat.le_trans hle hlM) (by kernel_rfl!) fun t3 s3 H3 a3 => ?_
    keq_hits
    have hdM := hdM l[i]
    have hdr : l.drop i = l[i] :: l.drop (i + 1) := List.drop_eq_getElem_cons hlt'
    rw [hdr] at he
    by_cases hc : l[i] = 34
    · rw [if_pos (by simp [hc])]
      rw [hc] at he
      keq_hits
      by_cases hge : nv ≤ iv + 1
      · rw [if_pos (decide_eq_true hge)]
        rw [if_pos rfl]
        keq_hits
        have e : l.drop (i + 1) = [] := List.drop_of_length_le (by omega)
        rw [e] at he
        simp only [pq, if_true, List.append_nil] at he
        subst he
        exact h _ _ (Now.end (by tb_rel))
      · rw [if_neg (by simpa using hge)]
        have hlt2 : i + 1 < l.length := by omega
        have hdr2 : l.drop (i + 1) = l[i + 1] :: l.drop (i + 2) := List.drop_eq_getElem_cons hlt2
        rw [hdr2] at he
        keq_hits
        refine sub_at (k := i + 1) (by tb_rel) (ar_i1 hiv) hlt2 (Nat.le_trans hlt' hlM) (by kernel_rfl!) fun t4 s4 H4 a4 => ?_
        keq_hits
        by_cases hd2 : l[i + 1] = 34
        · rw [if_neg (by simp [hd2])]
          rw [hd2] at he
          keq_hits
          rw [if_neg (by simp)]
          keq_hits
          refine loopEnd_next ⟨l.length - (i + 2), Nat.sub_lt_sub_left hlt' (Nat.lt_add_of_pos_right (by decide)), _, i + 2, d ++ [l[i]], _, _, _, _, _, _, by tb_rel, by tb_start, by tb_start, by tb_start, by tb_start, ar_i1 (ar_i1 hiv), hnv, hlt2, rfl, ?_, by rw [List.length_append]; exact Nat.le_trans (Nat.succ_le_succ hdl) (Nat.le_succ _)⟩
          rw [hc, List.append_assoc]
          simp only [pq, if_true] at he
          exact he
        · rw [if_pos (by simp [hd2]), if_pos rfl]
          keq_hits
          simp only [pq, if_true, if_neg hd2, List.append_nil] at he
          subst he
          exact h _ _ (Now.end (by tb_rel))
    · rw [if_neg (by simp [hc])]
      keq_hits
      refine loopEnd_next ⟨l.length - (i + 1), Nat.sub_lt_sub_left hlt' (Nat.lt_succ_self i), _, i + 1, d ++ [l[i]], _, _, _, _, _, _, by tb_rel, by tb_start, by tb_start, by tb_start, by tb_start, ar_i1 hiv, hnv, hlt', rfl, ?_, by rw [List.length_append]; exact Nat.succ_le_succ hdl⟩
      rw [List.append_assoc, ← he]
      congr 1
      cases hr2 : l.drop (i + 1) with
      | nil => simp [pq, hc]
      | cons a r => simp [pq, hc]
  · rw [if_neg (by simpa using hlt)]
    keq_hits
    have e : l.drop i = [] := List.drop_of_length_le (by omega)
    rw [e] at he
    simp only [pq, List.append_nil] at he
    subst he
    exact h _ _ (Now.end (by tb_rel))
end

-- part Wout
section
noncomputable def pieces (x : List Nat) : List (List Nat) := spl [34] 0 (rep2 92 34 [2] (rep2 92 92 [1] x))
theorem pieces_ne (x : List Nat) : pieces x ≠ [] := spl_ne _ _ _
noncomputable def kept (x : List Nat) : List Nat := (evens (pieces x)).flatten ++ if (pieces x).length % 2 = 0 then [34] ++ (pieces x).getLast (pieces_ne x) else []
noncomputable def outside (x : List Nat) : List Nat := rep1 1 [92, 92] (rep1 2 [92, 34] (kept x))
set_option maxHeartbeats 400000
theorem c_outside {w : World} {A : Around} {s : Shared} {x : List Nat} {t : Tok} {Q : Value → Shared → Prop} (B : Bs w s.heap) (hp : 0 < s.toks) (hA : OkA 1 A) (hx : x.length ≤ 10000)
    (h : ∀ (t : Nat) s', Step s s' → Q (.str (T (outside x)) t) s') : Wp w A (call (.ref 140) [.str (T x) t]) Q s := by
  refine call_fn (fd := fdAt w 140) (body := topBody 20) (binds := [("line", .str (T x) t)]) B hp hA (by kernel_rfl!) (by kernel_rfl!) (by kernel_rfl!) (by kernel_rfl!) (by kernel_rfl!) (by kernel_rfl!) (by kernel_rfl!) (by kernel_rfl!) (by kernel_rfl!) binds1 fun A L s' H hA => ?_
  have h1 : (rep2 92 92 [1] x).length ≤ 10000 := Nat.le_trans (rep2_len _ _ _ (by decide) _ _ (Nat.le_refl _)) hx
  have h2 : (rep2 92 34 [2] (rep2 92 92 [1] x)).length ≤ 10000 := Nat.le_trans (rep2_len _ _ _ (by decide) _ _ (Nat.le_refl _)) h1
  have hxM := ar_M hx
  have h1M := ar_M h1
  have h2M := ar_M h2
  have hsp : ((spl [34] 0 (rep2 92 34 [2] (rep2 92 92 [1] x))).map List.length).sum ≤ 10000 := Nat.le_trans (spl_sum 34 (rep2 92 34 [2] (rep2 92 92 [1] x))) h2
  have hspn : (spl [34] 0 (rep2 92 34 [2] (rep2 92 92 [1] x))).length ≤ 1000000 := Nat.le_trans (spl_num 34 (rep2 92 34 [2] (rep2 92 92 [1] x))) (Nat.le_trans (Nat.succ_le_succ h2) (Nat.le_of_ble_eq_true rfl))
  have hne := spl_ne [34] 0 (rep2 92 34 [2] (rep2 92 92 [1] x))
  have hkept : kept x = (evens (spl [34] 0 (rep2 92 34 [2] (rep2 92 92 [1] x)))).flatten ++ if (spl [34] 0 (rep2 92 34 [2] (rep2 92 92 [1] x))).length % 2 = 0 then [34] ++ (spl [34] 0 (rep2 92 34 [2] (rep2 92 92 [1] x))).getLast hne else [] := rfl
  refine r_assign ?_ (by kernel_rfl!)
  keq_hits
  generalize spl [34] 0 (rep2 92 34 [2] (rep2 92 92 [1] x)) = sp at *
  have hev : ((evens sp).map List.length).sum ≤ 10000 := Nat.le_trans (evens_sum _ sp (Nat.le_refl _)) hsp
  have hevM := ar_M hev
  have hgl : (sp.getLast hne).length ≤ 10000 := Nat.le_trans (mem_sum (List.getLast_mem hne)) hsp
  have hfl : (evens sp).flatten.length ≤ 10000 := by rw [List.length_flatten]; exact hev
  with_reducible refine sub_evens (ls := sp) (by tb_rel) (by ktr_unf) hspn (by kernel_rfl!) fun l' o' s' H' X' a1 a2 => ?_
  keq_hits
  refine r_modI (by tb_rel) (by decide) fun t3 s3 H3 a3 => ?_
  keq_hits
  have h : ∀ (t : Nat) s', Step s s' → Q (.str (T (rep1 1 [92, 92] (rep1 2 [92, 34] (kept x)))) t) s' := h
  have bound : ∀ kp : List Nat, kp.length ≤ 30000 → kp.length ≤ 1000000 ∧ (rep1 2 [92, 34] kp).length ≤ 100000 ∧ (rep1 2 [92, 34] kp).length ≤ 1000000 ∧ 2 * kp.length ≤ 1000000 := fun kp hk => by
    have e3 : (rep1 2 [92, 34] kp).length ≤ 2 * kp.length := rep1_len 2 [92, 34] (by decide) _
    refine ⟨?_, ?_, ?_, ?_⟩ <;> omega
  by_cases he : sp.length % 2 = 0
  · rw [if_pos (by rw [decide_eq_true_iff]; exact ar_even.mpr he)]
    keq_hits
    intro t4 s4 st4
    have H4 := Now.step (by tb_rel) st4
    with_reducible refine sub_last (by ktr_unf) hne (by kernel_rfl!) fun t5 => ?_
    rw [if_pos he] at hkept
    have e0 : [34].length + (sp.getLast hne).length ≤ 1000000 := Nat.le_trans (Nat.add_le_add_left hgl _) (Nat.le_of_ble_eq_true rfl)
    have e1 : (evens sp).flatten.length + ([34] ++ sp.getLast hne).length ≤ 1000000 := by rw [List.length_append]; exact Nat.le_trans (Nat.add_le_add hfl (Nat.add_le_add_left hgl _)) (Nat.le_of_ble_eq_true rfl)
    have e2 : (kept x).length ≤ 30000 := by rw [hkept, List.length_append, List.length_append]; exact Nat.le_trans (Nat.add_le_add hfl (Nat.add_le_add_left hgl _)) (Nat.le_of_ble_eq_true rfl)
    keq_hits
    rw [← hkept]
    obtain ⟨b1, b2, b3, b4⟩ := bound _ e2
    generalize kept x = kp at *
    keq_hits
    exact h _ _ (Now.end (by tb_rel))
  · rw [if_neg (by rw [decide_eq_true_iff]; exact fun e => he (ar_even.mp e))]
    rw [if_neg he, List.append_nil] at hkept
    rw [hkept] at h
    obtain ⟨b1, b2, b3, b4⟩ := bound _ (Nat.le_trans hfl (Nat.le_of_ble_eq_true rfl) : (evens sp).flatten.length ≤ 30000)
    keq_hits
    exact h _ _ (Now.end (by tb_rel))
end

-- part Wclosed
section
theorem rep2_less (a b : Nat) (hab : a ≠ b) : ∀ (n : Nat) (l : List Nat), l.length ≤ n → has2 a b l = true → (rep2 a b [] l).length < l.length
  | _, [], _, h => by simp [has2] at h
  | _, [x], _, h => by simp [has2] at h
  | n + 1, x :: y :: r, hn, h => by
    simp only [rep2]
    split
    · have := rep2_len a b [] (by decide) _ r (Nat.le_refl _)
      simp; omega
    · rename_i hxy
      have h' : has2 a b (y :: r) = true := by
        simp only [has2, Bool.or_eq_true, decide_eq_true_eq] at h
        rcases h with h | h
        · exact absurd h hxy
        · exact h
      have := rep2_less a b hab n (y :: r) (by simp at hn ⊢; omega) h'
      simp at this ⊢; omega
  | 0, x :: y :: r, h, _ => by simp at h
noncomputable def red (row : List Nat) : List Nat := if h : has2 40 41 row = true then red (rep2 40 41 [] row) else row
termination_by row.length
decreasing_by exact rep2_less 40 41 (by decide) _ row (Nat.le_refl _) h
noncomputable def plainOf (x : List Nat) : List Nat := rep2 92 41 [] (rep2 92 40 [] (rep2 92 92 [] x))
noncomputable def rowOf (x : List Nat) : List Nat := (plainOf x).filter fun c => decide (c ∈ [40, 41])
noncomputable def closedF (x : List Nat) : Bool := decide (red (rowOf x) = [])
noncomputable def sgn : Value → Nat | .str y _ => y.cps.toList.headD 0 | _ => 0
theorem sgn_of {c : Nat} {v : Value} (h : ∃ u : Nat, v = .str (T [c]) u) : sgn v = c := by obtain ⟨u, rfl⟩ := h; rfl
theorem flat_singles (x : List Nat) : (x.map fun c => [c]).flatten = x := by induction x with | nil => rfl | cons a r ih => simp [ih]
theorem All2.map_id {α β : Type} {R : β → Value → Prop} {f : α → β} {l : List α} {vs : List Value} (h : All2 R (l.map f) vs) : All2 R (l.map f) vs := h
inductive ClosedI (w : World) (s : Shared) (L : Addr) (x : List Nat) (k : Nat) (s₁ : Shared) : Prop
  | mk (m : PySem.Str → Option Value) (ns : List (Addr × Obj)) (r : List Nat) (tr : Nat) (h0 : Now w s (callEnv (fdAt w 145) L 145).locals m ns s.gens s₁)
      (h1 : m "row" = some (.str (T r) tr)) (h2 : red r = red (rowOf x)) (h3 : r.length ≤ 1000000) (h4 : k = r.length) : ClosedI w s L x k s₁
set_option maxHeartbeats 400000
theorem c_closed {w : World} {A : Around} {s : Shared} {x : List Nat} {t : Tok} {Q : Value → Shared → Prop} (B : Bs w s.heap) (hp : 0 < s.toks) (hA : OkA 1 A) (hx : x.length ≤ 10000)
    (h : ∀ s', Step s s' → Q (.bool (closedF x)) s') : Wp w A (call (.ref 145) [.str (T x) t]) Q s := by
  refine call_fn (fd := fdAt w 145) (body := topBody 21) (binds := [("line", .str (T x) t)]) B hp hA (by kernel_rfl!) (by kernel_rfl!) (by kernel_rfl!) (by kernel_rfl!) (by kernel_rfl!) (by kernel_rfl!) (by kernel_rfl!) (by kernel_rfl!) (by kernel_rfl!) binds1 fun A L s' H hA => ?_
  have hxM := ar_M hx
  have h1 : (rep2 92 92 [] x).length ≤ 1000000 := Nat.le_trans (rep2_len _ _ _ (by decide) _ _ (Nat.le_refl _)) hxM
  have h2 : (rep2 92 40 [] (rep2 92 92 [] x)).length ≤ 1000000 := Nat.le_trans (rep2_len _ _ _ (by decide) _ _ (Nat.le_refl _)) h1
  have h3 : (rep2 92 41 [] (rep2 92 40 [] (rep2 92 92 [] x))).length ≤ 1000000 := Nat.le_trans (rep2_len _ _ _ (by decide) _ _ (Nat.le_refl _)) h2
  have e0 : rowOf x = (rep2 92 41 [] (rep2 92 40 [] (rep2 92 92 [] x))).filter fun c => decide (c ∈ [40, 41]) := rfl
  refine r_assign ?_ (by kernel_rfl!)
  keq_hits
  generalize rep2 92 41 [] (rep2 92 40 [] (rep2 92 92 [] x)) = px at *
  refine r_comp (cl := []) (α := Nat) (β := List Nat) px (fun c => decide (c ∈ [40, 41])) (fun c => [c]) sgn (fun c v => ∃ u : Nat, v = .str (T [c]) u) (fun y v => ∃ u : Nat, v = .str (T y) u) (fun _ _ => sgn_of)
    (by kernel_rfl!) (by kernel_rfl!) (by kernel_rfl!) (by kernel_rfl!) (by kernel_rfl!) ?_ (by intro _; kernel_rfl!)
  keq_hits
  refine cur (by tb_rel) fun Hz => ?_
  refine ⟨src_text hA.handled, h3, ?_, ?_, ?_⟩
  · intro C s₃ m₃ c v k hn hc ⟨u, hv⟩ hm
    subst hv
    have X : Co w C m₃ s₃ s₃ := ⟨hn, Hz.bs.keeps k.keep, Nat.lt_of_lt_of_le Hz.spos k.toks, Step.refl _⟩
    refine wpAny_tests_one (r_cmp ?_ (by kernel_rfl!))
    refine c_local X (by kernel_rfl!) (by kernel_rfl!) (by kernel_rfl!) hm ?_
    refine c_lit [40, 41] (by kernel_rfl!) X fun t' s' X' _ _ _ => ?_
    exact r_in1 (r_tb ⟨rfl, X'.st⟩)
  · intro C s₃ m₃ c v k hn hc hv hm _
    have X : Co w C m₃ s₃ s₃ := ⟨hn, Hz.bs.keeps k.keep, Nat.lt_of_lt_of_le Hz.spos k.toks, Step.refl _⟩
    exact c_local X (by kernel_rfl!) (by kernel_rfl!) (by kernel_rfl!) hm ⟨hv, Step.refl _⟩
  · intro l ys n s' ce ho hno hall
    have H2 := Now.cend Hz Hz ce ho hno
    have hs2 : (rowOf x).length ≤ 1000000 := by rw [e0]; exact Nat.le_trans (List.length_filter_le ..) h3
    rw [← e0] at hall
    have X2 : TLo ((rowOf x).map fun c => [c]) (listOf (List.toArray ys) n) := ⟨ys, n, rfl, hall.texts⟩
    have hs : (((rowOf x).map fun c => [c]).map List.length).sum ≤ 1000000 := by rw [← List.length_flatten, flat_singles]; exact hs2
    keq_hits
    refine r_while (ClosedI w s L x) ?_ _ ⟨_, _, _, _, by tb_rel, by tb_start, by rw [flat_singles], by rw [flat_singles]; exact hs2, rfl⟩
    rintro k s₁ ⟨m, ns, r, tr, H3, hr, he, hl, rfl⟩
    keq_hits
    by_cases h2 : has2 40 41 r = true
    · rw [if_pos h2]
      have h4 := rep2_less 40 41 (by decide) _ r (Nat.le_refl _) h2
      keq_hits
      refine loopEnd_next ⟨_, h4, _, _, _, _, by tb_rel, by tb_start, ?_, Nat.le_trans (Nat.le_of_lt h4) hl, rfl⟩
      rw [← he, red.eq_def r, dif_pos h2]
    · rw [if_neg h2]
      keq_hits
      have e2 : closedF x = decide (r = []) := by
        unfold closedF; rw [← he, red.eq_def r, dif_neg h2]
      rw [e2] at h
      exact h _ (Now.end (by tb_rel))
end

-- part Wsigns
section
noncomputable def signsF (tb : List (Nat × List Nat)) (x : List Nat) : List Nat := x.flatMap (look tb)
theorem flat_len {k : Nat} (f : Nat → List Nat) : ∀ x : List Nat, (∀ c ∈ x, (f c).length ≤ k) → (x.flatMap f).length ≤ k * x.length
  | [], _ => by simp
  | a :: r, h => by
    have ih := flat_len f r fun c hc => h c (List.mem_cons_of_mem _ hc)
    have h1 := h a List.mem_cons_self
    rw [List.flatMap_cons, List.length_append, List.length_cons, Nat.mul_succ]
    omega
set_option maxHeartbeats 400000
theorem c_signs {w : World} {A : Around} {s : Shared} {x : List Nat} {t : Tok} {d : Addr} {tb : List (Nat × List Nat)} {Q : Value → Shared → Prop} (B : Bs w s.heap) (hp : 0 < s.toks) (hA : OkA 1 A) (hx : x.length ≤ 10000) (X : Tb w s.heap d tb) (hl : ∀ c ∈ x, (look tb c).length ≤ 10)
    (h : ∀ (t : Nat) s', Step s s' → Q (.str (T (signsF tb x)) t) s') : Wp w A (call (.ref 119) [.str (T x) t, .ref d]) Q s := by
  refine call_fnC (fd := fdAt w 119) (body := topBody 17) (binds := [("text", .str (T x) t), ("table", .ref d)]) (y := "table") (cv := some (.ref d)) (m₀ := upd noN "text" (.str (T x) t)) B hp hA (by kernel_rfl!) (by kernel_rfl!) (by kernel_rfl!) (by kernel_rfl!) (by kernel_rfl!)
    (by intro L; kernel_rfl!) (by intro L; kernel_rfl!) (by intro L; kernel_rfl!) (by intro L; kernel_rfl!) (by kernel_rfl!) (by kernel_rfl!) (by kernel_rfl!) fun A L oc s' hoc H hA => ?_
  have hsum : ((x.map (look tb)).map List.length).sum ≤ 1000000 := by
    rw [← List.length_flatten]
    have := flat_len (look tb) x hl
    rw [List.flatMap] at this
    omega
  refine r_ret ?_
  keq_hits
  refine r_comp (cl := [("table", L + 1)]) (α := Nat) (β := List Nat) x (fun _ => true) (look tb) sgn (fun c v => ∃ u : Nat, v = .str (T [c]) u) (fun y v => ∃ u : Nat, v = .str (T y) u) (fun _ _ => sgn_of)
    (by kernel_rfl!) (by kernel_rfl!) (by kernel_rfl!) (by kernel_rfl!) (by kernel_rfl!) ?_ (by intro _; kernel_rfl!)
  keq_hits
  refine cur (by tb_rel) fun Hz => ?_
  refine ⟨src_text hA.handled, by omega, ?_, ?_, ?_⟩
  · intro C s₃ m₃ c v k hn hc hv hm
    exact wpAny_tests_nil ⟨rfl, Step.refl _⟩
  · intro C s₃ m₃ c v k hn hc ⟨u, hv⟩ hm _
    subst hv
    have Y : Co w C m₃ s₃ s₃ := ⟨hn, Hz.bs.keeps k.keep, Nat.lt_of_lt_of_le Hz.spos k.toks, Step.refl _⟩
    have X3 : Tb w s₃.heap d tb := (X.grown Hz.F.keep).grown k.keep
    refine r_mg (by kernel_rfl!) (by kernel_rfl!) (by kernel_rfl!) ?_
    refine c_cell (c := L + 1) Y (by kernel_rfl!) (by kernel_rfl!) (by kernel_rfl!) (by kernel_rfl!) ⟨oc, k.keep _ _ (Hz.get (by ktn_open)), hoc⟩ (refThen ⟨⟨tb, X3⟩, ?_⟩)
    refine c_local Y (by kernel_rfl!) (by kernel_rfl!) (by kernel_rfl!) hm ?_
    refine c_local Y (by kernel_rfl!) (by kernel_rfl!) (by kernel_rfl!) hm ?_
    exact r_get2 X3 fun u s' st => ⟨⟨_, rfl⟩, st⟩
  · intro l ys n s' ce ho hno hall
    have H2 := Now.cend Hz Hz ce ho hno
    rw [List.filter_eq_self.mpr (fun _ _ => rfl)] at hall
    have X2 : TLo (x.map (look tb)) (listOf (List.toArray ys) n) := ⟨ys, n, rfl, hall.texts⟩
    keq_hits
    exact h _ _ (Now.end (by tb_rel))
end

-- part Wread
section
theorem pq_len : ∀ (n : Nat) (u : List Nat), u.length ≤ n → (pq u).length ≤ u.length
  | _, [], _ => by simp [pq]
  | _, [c], _ => by simp only [pq]; split <;> simp
  | n + 1, c :: d :: r, h => by
    have h1 := pq_len n r (by simp at h; omega)
    have h2 := pq_len n (d :: r) (by simp at h ⊢; omega)
    simp only [pq]
    split
    · split <;> simp at h1 ⊢ <;> omega
    · simp at h2 ⊢; omega
  | 0, c :: d :: r, h => by simp at h
noncomputable def place (l : List Nat) : Nat := (l.takeWhile fun y => y != 34).length
noncomputable def readF (l : List Nat) : List (List Nat) :=
  if h : 34 ∈ l then l.take (place l) :: pq (l.drop (place l + 1)) :: readF (l.drop (place l + 2 + (pq (l.drop (place l + 1))).length + (pq (l.drop (place l + 1))).count 34)) else [l]
termination_by l.length
decreasing_by
  have : 0 < l.length := List.length_pos_of_mem h
  rw [List.length_drop]; omega
theorem place_at {l : List Nat} (h : 34 ∈ l) : l.drop (place l) = 34 :: l.drop (place l + 1) := by
  unfold place
  induction l with
  | nil => simp at h
  | cons a r ih =>
    by_cases e : a = 34
    · subst e; simp
    · have h' : 34 ∈ r := by rcases List.mem_cons.mp h with h | h; exact absurd h.symm e; exact h
      rw [List.takeWhile_cons_of_pos (by simpa using e)]
      simpa using ih h'
theorem place_lt {l : List Nat} (h : 34 ∈ l) : place l < l.length := by
  have := congrArg List.length (place_at h)
  rw [List.length_drop, List.length_cons] at this
  omega
inductive ReadI (w : World) (s : Shared) (L : Addr) (x : List Nat) (k : Nat) (s₁ : Shared) : Prop
  | mk (m : PySem.Str → Option Value) (l : List Nat) (ls : List (List Nat)) (a : Addr) (o : Obj) (tr : Nat) (h0 : Now w s (callEnv (fdAt w 133) L 133).locals m [(a, o)] s.gens s₁)
      (h1 : m "line" = some (.str (T l) tr)) (h2 : m "seen" = some (.ref a)) (h3 : TLo ls o) (h4 : ls ++ readF l = readF x) (h5 : l.length ≤ x.length) (h6 : ls.length + 2 * l.length ≤ 2 * x.length) (h7 : k = l.length) : ReadI w s L x k s₁
theorem ar_two {a b n m : Nat} (hb : b < n) (h : a + 2 * n ≤ m) : a + 1 + 1 + 2 * b ≤ m := by omega
set_option maxHeartbeats 400000
theorem c_read {w : World} {A : Around} {s : Shared} {x : List Nat} {t : Tok} {Q : Value → Shared → Prop} (B : Bs w s.heap) (hp : 0 < s.toks) (hA : OkA 2 A) (hx : x.length ≤ 10000)
    (h : ∀ l o s', Step s s' → s'.heap.get? l = some o → s.heap.get? l = none → TLo (readF x) o → Q (.ref l) s') : Wp w A (call (.ref 133) [.str (T x) t]) Q s := by
  refine call_fn (fd := fdAt w 133) (body := topBody 19) (binds := [("line", .str (T x) t)]) B hp hA (by kernel_rfl!) (by kernel_rfl!) (by kernel_rfl!) (by kernel_rfl!) (by kernel_rfl!) (by kernel_rfl!) (by kernel_rfl!) (by kernel_rfl!) (by kernel_rfl!) binds1 fun A L s' H hA => ?_
  refine r_assign ?_ (by kernel_rfl!)
  keq_hits
  refine r_while (ReadI w s L x) ?_ _ ⟨_, _, [], _, _, _, by tb_rel, by tb_start, by tb_start, tlo_nil, rfl, Nat.le_refl _, Nat.le_of_eq (Nat.zero_add _), rfl⟩
  rintro k s₁ ⟨m, l, ls, a, o, tr, H3, hr, hs, X, he, hl, hl2, rfl⟩
  have hlM : l.length ≤ 1000000 := Nat.le_trans hl (ar_M hx)
  have hlsM : ls.length ≤ 20000 := Nat.le_trans (Nat.le_trans (Nat.le_add_right _ _) hl2) (Nat.mul_le_mul_left 2 hx)
  have hlsM1 : ls.length ≤ 999999 := Nat.le_trans hlsM (Nat.le_of_ble_eq_true rfl)
  have hlsM2 : ls.length ≤ 1000000 := Nat.le_succ_of_le hlsM1
  keq_hits
  by_cases h2 : 34 ∈ l
  · rw [if_pos (by simpa using h2)]
    have hpl := place_lt h2
    have hpa := place_at h2
    rw [readF, dif_pos h2] at he
    have hd0 : (l.drop (l.takeWhile fun y => y != 34).length).length ≤ l.length := by rw [List.length_drop]; exact Nat.sub_le ..
    have hd0M := Nat.le_trans hd0 hlM
    keq_hits
    refine r_call1 (a := 74) (by tb_rel) (by kernel_rfl!) (by kernel_rfl!) (by kernel_rfl!) (by kernel_rfl!) (by kernel_rfl!) (by kernel_rfl!) (by kernel_rfl!) ?_
    keq_hits
    refine cut_sn' (by tb_rel) rfl hlM fun t4 s4 H4 a4 => ?_
    keq_hits
    have e : [50, 53, 55, 32] ++ l.drop (place l) = [50, 53, 55, 32, 34] ++ l.drop (place l + 1) := by rw [hpa]; rfl
    refine ⟨Now.bs (by tb_rel), ?_⟩
    rw [show (l.takeWhile fun y => y != 34).length = place l from rfl, e]
    have hd1 : (l.drop (place l + 1)).length ≤ 10000 := by rw [List.length_drop]; exact Nat.le_trans (Nat.sub_le ..) (Nat.le_trans hl hx)
    have hpq := ar_M (Nat.le_trans (pq_len _ (l.drop (place l + 1)) (Nat.le_refl _)) hd1)
    refine c_parse (Now.bs (by tb_rel)) (Now.spos (by tb_rel)) hA hd1 fun t5 s5 st5 => ?_
    have hd2 : (l.drop (place l + 2 + (pq (l.drop (place l + 1))).length + (pq (l.drop (place l + 1))).count 34)).length < l.length := by
      rw [List.length_drop]; exact Nat.sub_lt (Nat.lt_of_le_of_lt (Nat.zero_le _) hpl) (by omega)
    generalize pq (l.drop (place l + 1)) = pn at *
    have H5 := Now.step (by tb_rel) st5
    keq_hits
    refine ⟨⟨_, by ktr_unf⟩, ?_⟩
    keq_hits
    refine cut_ns (c := place l) (by tb_rel) rfl (Nat.le_of_lt hpl) hlM fun t6 s6 H6 a6 => ?_
    have e6 : cut 0 (place l) l = l.take (place l) := by unfold cut; simp
    rw [e6]
    refine r_appendT (by tb_rel) X (by simp) hlsM2 fun o1 s7 H7 X7 a7 => ?_
    keq_hits
    refine ⟨⟨_, by ktr_unf⟩, ?_⟩
    keq_hits
    refine r_appendT (by tb_rel) X7 (by simp) (by rw [List.length_append]; exact Nat.succ_le_succ hlsM1) fun o2 s8 H8 X8 a8 => ?_
    keq_hits
    refine cut_sn' (a := place l + 2 + pn.length + pn.count 34) (by tb_rel) (by simp [place]) hlM fun t9 s9 H9 a9 => ?_
    keq_hits
    refine loopEnd_next ⟨_, hd2, _, _, _, _, _, _, by tb_rel, by tb_start, by tb_start, X8, ?_, Nat.le_trans (Nat.le_of_lt hd2) hl, ?_, rfl⟩
    · rw [← he]; simp
    · rw [List.length_append, List.length_append]
      exact ar_two hd2 hl2
  · rw [if_neg (by simpa using h2)]
    rw [readF, dif_neg h2] at he
    keq_hits
    refine ⟨⟨_, by ktr_unf⟩, ?_⟩
    keq_hits
    refine r_appendT (by tb_rel) X (by simp) hlsM2 fun o1 s7 H7 X7 a7 => ?_
    keq_hits
    refine cur (by tb_rel) fun Hz => ?_
    rw [he] at X7
    exact h _ _ _ Hz.end (Hz.get (by ktn_open)) (Hz.N.fresh (List.mem_cons_self)) X7
end

-- part Wjoined
section
noncomputable def joinOne (tb : List (Nat × List Nat)) (first : Bool) (row : List (List Nat)) (n : List Nat) : List (List Nat) :=
  if first = false ∧ row.getLast? = some [] then row.dropLast.dropLast ++ [row.dropLast.getLastD [] ++ ([34] ++ signsF tb n)] else row ++ [signsF tb n]
noncomputable def joinGo (tb : List (Nat × List Nat)) : Bool → List (List Nat) → List (List Nat) → List (List Nat)
  | first, row, n :: g :: r => joinGo tb false (joinOne tb first row n ++ [signsF tb g]) r
  | _, row, _ => row
noncomputable def joinedF (tb : List (Nat × List Nat)) (parts : List (List Nat)) : List (List Nat) := joinGo tb true [signsF tb (parts.headD [])] (parts.drop 1)
noncomputable def wt (tb : List (Nat × List Nat)) (ls : List (List Nat)) : Nat := (ls.map fun p => (signsF tb p).length + 1).sum
noncomputable def wl (ls : List (List Nat)) : Nat := (ls.map List.length).sum
theorem wl_app (a b : List (List Nat)) : wl (a ++ b) = wl a + wl b := by simp [wl]
theorem wl_last : ∀ (a : List (List Nat)), a ≠ [] → wl a = wl a.dropLast + (a.getLastD []).length
  | [x], _ => by simp [wl]
  | x :: y :: r, _ => by
    have := wl_last (y :: r) (by simp)
    simp only [List.dropLast_cons_cons] at *
    simp only [wl, List.map_cons, List.sum_cons] at *
    simp at this ⊢
    omega
theorem joinOne_len (tb : List (Nat × List Nat)) (first : Bool) (row : List (List Nat)) (n : List Nat) (h : first = false → 3 ≤ row.length) : row.length - 1 ≤ (joinOne tb first row n).length ∧ (joinOne tb first row n).length ≤ row.length + 1 ∧ wl (joinOne tb first row n) ≤ wl row + (signsF tb n).length + 1 := by
  unfold joinOne
  split
  · rename_i hc
    have h3 := h hc.1
    have e1 : row ≠ [] := by intro e; rw [e] at h3; simp at h3
    have e2 : row.dropLast ≠ [] := by intro e; have := congrArg List.length e; simp at this; omega
    have w1 := wl_last row e1
    have w2 := wl_last row.dropLast e2
    rw [wl_app]
    refine ⟨by simp; omega, by simp; omega, ?_⟩
    simp only [wl, List.map_cons, List.map_nil, List.sum_cons, List.sum_nil, List.length_append, List.length_cons, List.length_nil] at *
    omega
  · rw [wl_app]
    refine ⟨by simp; omega, by simp, ?_⟩
    simp [wl]
section
variable {w : World} {b s : Shared} {L : Addr} {m : PySem.Str → Option Value} {p q : Addr × Obj} {ns : List (Addr × Obj)} {G : Array GenState}
theorem Now.swap (H : Now w b L m (p :: q :: ns) G s) : Now w b L m (q :: p :: ns) G s :=
  H.drop fun x hx => by
    rcases List.mem_cons.mp hx with rfl | hx
    · exact List.mem_cons_of_mem _ List.mem_cons_self
    · rcases List.mem_cons.mp hx with rfl | hx
      · exact List.mem_cons_self
      · exact List.mem_cons_of_mem _ (List.mem_cons_of_mem _ hx)
end
theorem small_odd {n : Nat} (hn : n ≤ 100000) : Builtin.Range.small 1 ((2 * n + 1 : Nat) : Int) 2 = true ∧ Builtin.Range.rangeSize 1 ((2 * n + 1 : Nat) : Int) 2 = (n : Int) := by
  have e : Builtin.Range.rangeSize 1 ((2 * n + 1 : Nat) : Int) 2 = (n : Int) := by
    unfold Builtin.Range.rangeSize
    simp only [show (2 : Int) > 0 by decide, if_true]
    split <;> omega
  refine ⟨?_, e⟩
  unfold Builtin.Range.small
  rw [e]
  simp [Builtin.Range.rangeFitsLong]
  omega
inductive JMid (w : World) (s : Shared) (L it lp d a : Addr) (og : Obj) (jo : List (List Nat)) (kv : Value) (s₁ : Shared) : Prop
  | mk (m : PySem.Str → Option Value) (o : Obj) (h0 : Now w s (callEnv (fdAt w 126) L 126).locals m [(a, o), (it, og)] s.gens s₁) (h1 : TLo jo o) (h2 : m "parts" = some (.ref lp)) (h3 : m "table" = some (.ref d)) (h4 : m "row" = some (.ref a))
      (h5 : m "k" = some kv) : JMid w s L it lp d a og jo kv s₁
inductive JoinedI (w : World) (s : Shared) (L it lp d : Addr) (tb : List (Nat × List Nat)) (P : List (List Nat)) (N k : Nat) (s₁ : Shared) : Prop
  | mk (m : PySem.Str → Option Value) (j : Nat) (row : List (List Nat)) (a : Addr) (o : Obj) (x : Int) (h0 : Now w s (callEnv (fdAt w 126) L 126).locals m [(it, rgIt x (k : Int) 2), (a, o)] s.gens s₁)
      (h1 : m "parts" = some (.ref lp)) (h2 : m "table" = some (.ref d)) (h3 : m "row" = some (.ref a)) (h4 : TLo row o) (h5 : a ≠ it) (h6 : x = ((1 + 2 * j : Nat) : Int)) (h7 : j + k = N) (h8 : joinGo tb (decide (j = 0)) row (P.drop (1 + 2 * j)) = joinedF tb P)
      (h9 : 1 ≤ row.length) (h10 : row.length ≤ 1 + 2 * j) (h11 : j ≠ 0 → 3 ≤ row.length) (h12 : wl row + wt tb (P.drop (1 + 2 * j)) ≤ 100000) : JoinedI w s L it lp d tb P N k s₁
set_option maxHeartbeats 400000
theorem c_joined {w : World} {A : Around} {s : Shared} {P : List (List Nat)} {lp d : Addr} {tb : List (Nat × List Nat)} {N : Nat} {Q : Value → Shared → Prop} (B : Bs w s.heap) (hp : 0 < s.toks) (hA : OkA 2 A)
    (XP : TL s.heap lp P) (XT : Tb w s.heap d tb) (hN : P.length = 2 * N + 1) (hN2 : N ≤ 1000) (hpl : ∀ p ∈ P, p.length ≤ 10000) (hl : ∀ p ∈ P, ∀ c ∈ p, (look tb c).length ≤ 10) (hw : wt tb P ≤ 100000)
    (h : ∀ l o s', Step s s' → s'.heap.get? l = some o → s.heap.get? l = none → TLo (joinedF tb P) o → Q (.ref l) s') : Wp w A (call (.ref 126) [.ref lp, .ref d]) Q s := by
  refine call_fn (fd := fdAt w 126) (body := topBody 18) (binds := [("parts", .ref lp), ("table", .ref d)]) B hp hA (by kernel_rfl!) (by kernel_rfl!) (by kernel_rfl!) (by kernel_rfl!) (by kernel_rfl!) (by kernel_rfl!) (by kernel_rfl!) (by kernel_rfl!) (by kernel_rfl!) binds2 fun A L s' H hA => ?_
  have h0 : 0 < P.length := by rw [hN]; exact Nat.succ_pos _
  have hNM : N ≤ 100000 := Nat.le_trans hN2 (Nat.le_of_ble_eq_true rfl)
  have hPM : P.length ≤ 1000000 := by rw [hN]; exact Nat.le_trans (Nat.succ_le_succ (Nat.mul_le_mul_left 2 hNM)) (Nat.le_of_ble_eq_true rfl)
  refine r_assign ?_ (by kernel_rfl!)
  refine r_listE ?_
  refine args_cons ?_ (by kernel_rfl!)
  refine r_call2 (a := 119) (by tb_rel) (by kernel_rfl!) (by kernel_rfl!) (by kernel_rfl!) (by kernel_rfl!) (by kernel_rfl!) (by kernel_rfl!) (by kernel_rfl!) (by kernel_rfl!) ?_
  keq_hits
  refine sub_item (k := 0) (ls := P) (by ktr_unf) rfl h0 (Nat.zero_le _) (by kernel_rfl!) fun t1 => ?_
  keq_hits
  refine cur (by tb_rel) fun Hz => ?_
  refine ⟨Hz.bs, c_signs Hz.bs Hz.spos hA (hpl _ (List.getElem_mem h0)) (XT.grown Hz.F.keep) (hl _ (List.getElem_mem h0)) fun t2 s2 st2 => ?_⟩
  refine cur (Hz.step st2) fun H2 => ?_
  keq_hits
  refine r_for (by intro _; kernel_rfl!) ?_
  refine r_callT3 (id := "range") (by tb_rel) (by kernel_rfl!) (by kernel_rfl!) (by kernel_rfl!) (by kernel_rfl!) (by kernel_rfl!) (by kernel_rfl!) boot_range (by decide) (by kernel_rfl!) (by kernel_rfl!) (by kernel_rfl!) ?_
  keq_hits
  refine r_range3 (by tb_rel) (by decide) (PyProof.noPylong_small (by decide)) fun r s3 H3 hr => ?_
  have hso := small_odd (n := N) hNM
  rw [hN] at hr
  refine iter_range H3 hr hso.1 fun it s4 H4 a4 hne => ?_
  rw [hso.2] at H4
  have hw0 : wt tb P = (signsF tb P[0]).length + 1 + wt tb (P.drop 1) := by
    have : P = P[0] :: P.drop 1 := by have := List.drop_eq_getElem_cons h0; simpa using this
    conv => lhs; rw [this]
    simp [wt]
  refine ⟨JoinedI w s L it lp d tb P N, N,
    ⟨_, 0, _, _, _, _, H4, by tb_start, by tb_start, by tb_start, tlo_one, ?_, rfl, Nat.zero_add _, ?_, by simp, by simp, by simp, ?_⟩, ?_⟩
  · exact hne _ List.mem_cons_self
  · unfold joinedF
    rw [show P.headD [] = P[0] by cases P with | nil => simp at h0 | cons a r => rfl]
    rfl
  · simp only [wl, List.map_cons, List.map_nil, List.sum_cons, List.sum_nil, Nat.mul_zero, Nat.add_zero]
    omega
  rintro k s5 ⟨m, j, row, a, o, x, H5, hm1, hm2, hm3, X5, hai, rfl, hjk, he, hr1, hr2, hr3, hwl⟩
  refine next_range hA.handled H5 (by simpa using hai) (fun hpos t6 s6 H6 a6 => ?_) (fun hpos s6 H6 a6 => ?_)
  · have hk0 : 0 < k := Int.natCast_pos.mp hpos
    have hj : j < N := by rw [← hjk]; exact Nat.lt_add_of_pos_right hk0
    have i2 : 1 + 2 * j + 1 < P.length := by rw [hN, Nat.add_comm 1]; exact Nat.succ_le_succ (Nat.mul_le_mul_left 2 hj)
    have i1 : 1 + 2 * j < P.length := Nat.lt_of_succ_lt i2
    have i1M : 1 + 2 * j ≤ 1000000 := Nat.le_trans (Nat.le_of_lt i1) hPM
    have i2M : 1 + 2 * j + 1 ≤ 1000000 := Nat.le_trans (Nat.le_of_lt i2) hPM
    have ed : P.drop (1 + 2 * j) = P[1 + 2 * j] :: P[1 + 2 * j + 1] :: P.drop (1 + 2 * (j + 1)) := by
      rw [List.drop_eq_getElem_cons i1, List.drop_eq_getElem_cons i2]; rfl
    rw [ed] at he hwl
    simp only [joinGo] at he
    have hwt : wt tb (P[1 + 2 * j] :: P[1 + 2 * j + 1] :: P.drop (1 + 2 * (j + 1))) = (signsF tb P[1 + 2 * j]).length + 1 + ((signsF tb P[1 + 2 * j + 1]).length + 1 + wt tb (P.drop (1 + 2 * (j + 1)))) := by simp [wt]
    rw [hwt] at hwl
    have hjl := joinOne_len tb (decide (j = 0)) row P[1 + 2 * j] (by simpa using hr3)
    have hnl := hpl _ (List.getElem_mem i1)
    obtain ⟨og, hog⟩ : ∃ og, og = rgIt (((1 + 2 * j : Nat) : Int) + 2) ((k : Int) - 1) 2 := ⟨_, rfl⟩
    have hog2 : og = rgIt ((1 + 2 * (j + 1) : Nat) : Int) ((k - 1 : Nat) : Int) 2 := by rw [hog, ar_icast hk0]; rfl
    rw [← hog] at H6
    clear hog
    obtain ⟨nm, hnm⟩ : ∃ nm, nm = P[1 + 2 * j] := ⟨_, rfl⟩
    obtain ⟨jo, hjo⟩ : ∃ jo, jo = joinOne tb (decide (j = 0)) row nm := ⟨_, rfl⟩
    rw [← hnm] at he hwl hwt hjl hnl
    rw [← hjo] at he hjl
    have hrM : row.length ≤ 1000000 := Nat.le_trans hr2 i1M
    have hjM : jo.length ≤ 1000000 := Nat.le_trans hjl.2.1 (Nat.le_trans (Nat.succ_le_succ hr2) i2M)
    have hjW : wl jo + ((signsF tb P[1 + 2 * j + 1]).length + 1 + wt tb (P.drop (1 + 2 * (j + 1)))) ≤ 100000 := Nat.le_trans (Nat.add_le_add_right hjl.2.2 _) (by rw [Nat.add_assoc, Nat.add_assoc]; rw [Nat.add_assoc] at hwl; exact hwl)
    have hsn : (signsF tb nm).length ≤ 100000 := Nat.le_trans (Nat.le_trans (Nat.le_trans (Nat.le_succ _) (Nat.le_add_right _ _)) (Nat.le_add_left _ _)) hwl
    have hwr : wl row ≤ 100000 := Nat.le_trans (Nat.le_add_right _ _) hwl
    refine head_name ?_
    keq_hits
    refine r_call2 (a := 119) (by tb_rel) (by kernel_rfl!) (by kernel_rfl!) (by kernel_rfl!) (by kernel_rfl!) (by kernel_rfl!) (by kernel_rfl!) (by kernel_rfl!) (by kernel_rfl!) ?_
    keq_hits
    refine sub_item (k := 1 + 2 * j) (ls := P) (by ktr_unf) rfl i1 i1M (by kernel_rfl!) fun t7 => ?_
    rw [← hnm]
    keq_hits
    refine cur (by tb_rel) fun Hz => ?_
    refine ⟨Hz.bs, c_signs Hz.bs Hz.spos hA hnl (XT.grown Hz.F.keep) (by rw [hnm]; exact hl _ (List.getElem_mem i1)) fun t8 s8 st8 => ?_⟩
    refine cur (Hz.step st8) fun H8 => ?_
    refine r_store (by tb_rel) (by kernel_rfl!) (by kernel_rfl!) fun s9 H9 a9 => ?_
    refine cur H9.swap fun H10 => ?_
    refine r_fork (JMid w s L it lp d a og jo (.int ((1 + 2 * j : Nat) : Int) t6)) ?_ ?_
    · rintro s11 ⟨m', o', H11, X11, g1, g2, g3, g4⟩
      refine r_expr ?_ (by kernel_rfl!) (by kernel_rfl!)
      refine r_ap (by kernel_rfl!) (by kernel_rfl!) ?_
      keq_hits
      refine ⟨⟨_, by ktr_unf⟩, ?_⟩
      refine r_call2 (a := 119) (by tb_rel) (by kernel_rfl!) (by kernel_rfl!) (by kernel_rfl!) (by kernel_rfl!) (by kernel_rfl!) (by kernel_rfl!) (by kernel_rfl!) (by kernel_rfl!) ?_
      keq_hits
      refine sub_item (k := 1 + 2 * j + 1) (ls := P) (by ktr_unf) (ar_i1 rfl) i2 i2M (by kernel_rfl!) fun t7 => ?_
      keq_hits
      refine cur (by tb_rel) fun Hz => ?_
      refine ⟨Hz.bs, c_signs Hz.bs Hz.spos hA (hpl _ (List.getElem_mem i2)) (XT.grown Hz.F.keep) (hl _ (List.getElem_mem i2)) fun t8 s8 st8 => ?_⟩
      refine cur (Hz.step st8) fun H8 => ?_
      refine r_appendT H8 X11 (by simpa using hai.symm) hjM fun o12 s12 H12 X12 a12 => ?_
      keq_hits
      rw [hog2] at H12
      refine loopEnd_next ⟨k - 1, ar_pred hk0, _, j + 1, _, _, _, _, H12.swap, g1, g2, g3, X12, hai, rfl, ar_step hjk hk0, he, ?_, ?_, ?_, ?_⟩
      · rw [List.length_append]; exact Nat.succ_le_succ (Nat.zero_le _)
      · rw [List.length_append]; exact Nat.succ_le_succ (Nat.le_trans hjl.2.1 (Nat.succ_le_succ hr2))
      · intro _
        rw [List.length_append]
        by_cases hj0 : j = 0
        · have : jo = row ++ [signsF tb nm] := by rw [hjo]; unfold joinOne; rw [if_neg (by simp [hj0])]
          rw [this, List.length_append]; exact Nat.succ_le_succ (Nat.succ_le_succ hr1)
        · exact Nat.succ_le_succ (Nat.le_trans (Nat.sub_le_sub_right (hr3 hj0) 1) hjl.1)
      · rw [wl_app, show wl [signsF tb P[1 + 2 * j + 1]] = (signsF tb P[1 + 2 * j + 1]).length from rfl, Nat.add_assoc]
        exact Nat.le_trans (Nat.add_le_add_left (Nat.add_le_add_right (Nat.le_succ _) _) _) hjW
    · have hrn : row ≠ [] := by intro e; rw [e] at hr1; simp at hr1
      have hgl : row.getLast? = some (row.getLast hrn) := List.getLast?_eq_some_getLast hrn
      have other : ¬ (decide (j = 0) = false ∧ row.getLast? = some []) → ∀ (s' : Shared) (m' : PySem.Str → Option Value), Now w s (callEnv (fdAt w 126) L 126).locals m' [(a, o), (it, og)] s.gens s' → m' "name" = some (.str (T (signsF tb nm)) t8) →
          m' "parts" = some (.ref lp) → m' "table" = some (.ref d) → m' "row" = some (.ref a) → m' "k" = some (.int ((1 + 2 * j : Nat) : Int) t6) →
          Wp w A (call (.builtin "list.append") [.ref a, .str (T (signsF tb nm)) t8]) (fun _ s'' => JMid w s L it lp d a og jo (.int ((1 + 2 * j : Nat) : Int) t6) s'') s' := fun hno s' m' H' g0 g1 g2 g3 g4 => by
        refine r_appendT H' X5 (by simpa using hai.symm) hrM fun o12 s12 H12 X12 a12 => ⟨m', o12, H12, ?_, g1, g2, g3, g4⟩
        rw [hjo]
        unfold joinOne
        rw [if_neg hno]
        exact X12
      keq_hits
      by_cases hj0 : j = 0
      · rw [if_neg (by simp [hj0])]
        rw [if_neg Bool.false_ne_true]
        keq_hits
        refine ⟨⟨_, by ktr_unf⟩, ?_⟩
        keq_hits
        refine wpAny_mono (other (by simp [hj0]) _ _ (by tb_rel) (by tb_start) (by tb_start) (by tb_start) (by tb_start) (by tb_start)) (fun _ s'' hR => r_nil ⟨rfl, hR⟩) fun _ _ x => x
      · rw [if_pos (decide_eq_true (by omega))]
        keq_hits
        intro t10 s10 st10
        refine cur (Now.step (by tb_rel) st10) fun H10b => ?_
        refine sub_last (by ktr_unf) hrn (by kernel_rfl!) fun t11 => ?_
        keq_hits
        by_cases hla : row.getLast hrn = []
        · rw [if_pos (decide_eq_true hla)]
          keq_hits
          rw [if_pos rfl]
          keq_hits
          refine r_pop (by kernel_rfl!) ?_
          keq_hits
          refine ⟨a, row, o, row.length - 1, _, _, _, _, _, rfl, by tb_rel, X5, by simpa using hai.symm, hrM, (Nat.sub_add_cancel hr1).symm, fun v o13 s13 H13 X13 a13 => ?_⟩
          keq_hits
          intro t12 s12 st12
          refine cur (Now.step (by tb_rel) st12) fun H12b => ?_
          have hdn : row.dropLast ≠ [] := by
            intro e
            have h1 := congrArg List.length e
            rw [List.length_dropLast] at h1
            exact absurd (Nat.sub_le_sub_right (hr3 hj0) 1) (by rw [h1]; decide)
          refine getLneg (by ktr_unf) hdn fun t13 => ?_
          have wl1 := wl_last row hrn
          have wl2 := wl_last row.dropLast hdn
          have hrl2 : (row.dropLast.getLast hdn).length ≤ 100000 := by rw [← show row.dropLast.getLastD [] = row.dropLast.getLast hdn by rw [List.getLastD_eq_getLast?, List.getLast?_eq_some_getLast hdn]; rfl]; exact Nat.le_trans (Nat.le_of_add_left_le (Nat.le_of_eq wl2.symm)) (Nat.le_trans (Nat.le_of_add_right_le (Nat.le_of_eq wl1.symm)) hwr)
          have hq1 : [34].length + (signsF tb nm).length ≤ 1000000 := Nat.le_trans (Nat.add_le_add_left hsn _) (Nat.le_of_ble_eq_true rfl)
          have hq2 : (row.dropLast.getLast hdn).length + ([34] ++ signsF tb nm).length ≤ 1000000 := by rw [List.length_append]; exact Nat.le_trans (Nat.add_le_add hrl2 (Nat.add_le_add_left hsn _)) (Nat.le_of_ble_eq_true rfl)
          have wl3 : (row.dropLast.getLastD []).length = (row.dropLast.getLast hdn).length := by rw [List.getLastD_eq_getLast?, List.getLast?_eq_some_getLast hdn]; rfl
          keq_hits
          refine setLneg (by tb_rel) X13 (by simpa using hai.symm) hdn fun o14 s14 H14 X14 a14 => ?_
          refine r_nil ⟨rfl, _, o14, H14, ?_, by tb_start, by tb_start, by tb_start, by tb_start⟩
          have e3 : row.dropLast.getLastD [] = row.dropLast.getLast hdn := by rw [List.getLastD_eq_getLast?, List.getLast?_eq_some_getLast hdn]; rfl
          rw [hjo]
          unfold joinOne
          rw [if_pos ⟨by simp [hj0], by rw [hgl, hla]⟩, e3]
          exact X14
        · rw [if_neg (by simpa using hla)]
          rw [if_neg Bool.false_ne_true]
          keq_hits
          refine ⟨⟨_, by ktr_unf⟩, ?_⟩
          keq_hits
          refine wpAny_mono (other (by rw [hgl]; simp [hla]) _ _ (by tb_rel) (by tb_start) (by tb_start) (by tb_start) (by tb_start) (by tb_start)) (fun _ s'' hR => r_nil ⟨rfl, hR⟩) fun _ _ x => x
  · have hk0 : k = 0 := Nat.eq_zero_of_not_pos fun e => absurd hpos (Int.not_le.mpr (Int.natCast_pos.mpr e))
    have hj : j = N := by rw [← hjk, hk0]; rfl
    rw [List.drop_of_length_le (by rw [hN, hj, Nat.add_comm 1]; exact Nat.le_refl _)] at he
    simp only [joinGo] at he
    rw [he] at X5
    refine head_none ?_
    keq_hits
    refine cur (by tb_rel) fun Hz => ?_
    exact h _ _ _ Hz.end (Hz.get (by ktn_open)) (Hz.N.fresh (List.mem_cons_self)) X5
end

-- part Wparts
section
noncomputable def gapS : List (List Nat) := [[98], [32], [40], [41], [38], [62], [13], [9]]
noncomputable def nameS : List (List Nat) := [[92], [34], [97], [40], [92], [38], [13], [60]]
noncomputable def sgI (ls : List (List Nat)) (x : Int) : List Nat := ls.getD (x / 3 % 8).toNat []
noncomputable def partStep (ps : List (List Nat)) (x : Int) : List (List Nat) :=
  if x % 3 = 0 then ps ++ [[]] else ps.dropLast ++ [ps.getLastD [] ++ sgI (if ps.length % 2 = 1 then gapS else nameS) x]
noncomputable def drawn (ns : List Int) : List Int := ((ns.take 8).map (· % 1000000000)) ++ [7, 0, 4, 2, 5, 3, 10]
noncomputable def partsGo (ns : List Int) : List (List Nat) := (drawn ns).foldl partStep [[]]
noncomputable def partsF (ns : List Int) : List (List Nat) := if (partsGo ns).length % 2 = 0 then partsGo ns ++ [[]] else partsGo ns
noncomputable def intOf : Value → Int | .int i _ => i | _ => 0
theorem intOf_of {n : Int} {v : Value} (h : ∃ t : Nat, v = .int n t) : intOf v = n := by obtain ⟨t, rfl⟩ := h; rfl
theorem wl_snoc (a : List (List Nat)) (y : List Nat) : wl (a ++ [y]) = wl a + y.length := by rw [wl_app]; simp [wl]
theorem partStep_size (ps : List (List Nat)) (x : Int) (h : ps ≠ []) : (partStep ps x).length ≤ ps.length + 1 ∧ 1 ≤ (partStep ps x).length ∧ wl (partStep ps x) ≤ wl ps + 1 := by
  have hp : 0 < ps.length := List.length_pos_iff.mpr h
  have hs : ∀ ls, (∀ y ∈ ls, y.length ≤ 1) → (sgI ls x).length ≤ 1 := fun ls hls => by
    unfold sgI
    rw [List.getD_eq_getElem?_getD]
    cases e : ls[(x / 3 % 8).toNat]? with
    | none => simp
    | some y => exact hls y (List.mem_of_getElem? e)
  have h1 := hs gapS (by decide)
  have h2 := hs nameS (by decide)
  have w := wl_last ps h
  unfold partStep
  split
  · exact ⟨by simp, by simp, by rw [wl_snoc]; simp⟩
  · refine ⟨by rw [List.length_append, List.length_dropLast]; simp; try omega, by simp, ?_⟩
    rw [wl_snoc, List.length_append]
    split <;> omega
theorem drawn_range {nsI : List Int} {n : Int} (h : n ∈ drawn nsI) : 0 ≤ n ∧ n < 1000000000 := by
  unfold drawn at h
  rcases List.mem_append.mp h with hm | hm
  · obtain ⟨y, _, rfl⟩ := List.mem_map.mp hm
    exact ⟨Int.emod_nonneg _ (by decide), Int.emod_lt_of_pos _ (by decide)⟩
  · exact (by decide : ∀ y ∈ [(7 : Int), 0, 4, 2, 5, 3, 10], 0 ≤ y ∧ y < 1000000000) n hm
inductive PartsI (w : World) (s : Shared) (L a it l4 : Addr) (zs : List Value) (nsI : List Int) (k : Nat) (s₁ : Shared) : Prop
  | mk (m : PySem.Str → Option Value) (i : Nat) (ps : List (List Nat)) (oit o : Obj) (h0 : Now w s (callEnv (fdAt w 107) L 107).locals m [(a, o), (it, oit), (l4, listOf zs.toArray 0)] s.gens s₁) (h1 : LIt l4 i oit)
      (h2 : m "parts" = some (.ref a)) (h3 : TLo ps o) (h4 : i + k = (drawn nsI).length) (h5 : ((drawn nsI).drop i).foldl partStep ps = partsGo nsI) (h6 : 1 ≤ ps.length) (h7 : ps.length ≤ i + 1) (h8 : wl ps ≤ i) : PartsI w s L a it l4 zs nsI k s₁
set_option maxHeartbeats 400000
theorem c_parts {w : World} {A : Around} {s : Shared} {vs : List Value} {nsI : List Int} {sl : Addr} {Q : Value → Shared → Prop} (B : Bs w s.heap) (hp : 0 < s.toks) (hA : OkA 1 A)
    (XS : s.heap.IsList sl vs.toArray) (hI : IntsAre vs nsI) (hlen : nsI.length ≤ 100)
    (h : ∀ l o s', Step s s' → s'.heap.get? l = some o → s.heap.get? l = none → TLo (partsF nsI) o → Q (.ref l) s') : Wp w A (call (.ref 107) [.ref sl]) Q s := by
  refine call_fn (fd := fdAt w 107) (body := topBody 15) (binds := [("script", .ref sl)]) B hp hA (by kernel_rfl!) (by kernel_rfl!) (by kernel_rfl!) (by kernel_rfl!) (by kernel_rfl!) (by kernel_rfl!) (by kernel_rfl!) (by kernel_rfl!) (by kernel_rfl!) binds1 fun A L s' H hA => ?_
  refine r_assign ?_ (by kernel_rfl!)
  keq_hits
  rename_i a s1 H1 _ _ s2 _ _
  refine r_for (by intro _; kernel_rfl!) ?_
  refine r_bin ?_
  refine r_comp (cl := []) (α := Int) (β := Int) (nsI.take 8) (fun _ => true) (fun n => n % 1000000000) intOf (fun n v => ∃ t : Nat, v = .int n t) (fun y v => ∃ u : Nat, v = .int y u) (fun _ _ => intOf_of)
    (by kernel_rfl!) (by kernel_rfl!) (by kernel_rfl!) (by kernel_rfl!) (by kernel_rfl!) ?_ (by intro _; kernel_rfl!)
  refine cur (by tb_rel) fun Hb => ?_
  refine r_sub ?_
  keq_hits
  refine cur (by tb_rel) fun Hc => ?_
  refine sub_slice (vs := vs) Hc (XS.at fun o e => Hc.F.keep _ _ e) (by have := hI.length; omega) .none (.int 8 _) .none (by decide) (by rfl) fun l1 s3 H3 a3 hl1 => ?_
  have hI8 : IntsAre (slicePick vs.toArray none (some 8) none).toList (nsI.take 8) := by
    have := kmk_upto (y := 8) hI (by decide)
    simpa using this
  have hl1' : s3.heap.IsList l1 (slicePick vs.toArray none (some 8) none).toList.toArray := by
    rw [Array.toArray_toList]
    exact ⟨_, H3.get List.mem_cons_self, rfl, 0, rfl⟩
  have h8 : (nsI.take 8).length ≤ 8 := by rw [List.length_take]; omega
  refine ⟨src_list hA.handled hl1' hI8.length (fun j v hv => ?_), by omega, ?_, ?_, ?_⟩
  · obtain ⟨n, t, e1, e2⟩ := hI8.at j v hv
    exact ⟨n, e2, t, e1⟩
  · intro C s₃ m₃ c v k hn hc hv hm
    exact wpAny_tests_nil ⟨rfl, Step.refl _⟩
  · intro C s₃ m₃ n v k hn hc ⟨u, hv⟩ hm _
    subst hv
    have Y : Co w C m₃ s₃ s₃ := ⟨hn, H3.bs.keeps k.keep, Nat.lt_of_lt_of_le H3.spos k.toks, Step.refl _⟩
    refine r_bin (c_local Y (by kernel_rfl!) (by kernel_rfl!) (by kernel_rfl!) hm ?_)
    refine r_bin (c_int Y fun t1 s1 Y1 => c_int Y1 fun t2 s2 Y2 => c_pow Y2 fun t3 s3 Y3 => ?_)
    exact c_modI Y3 (by decide) fun t4 s4 Y4 => ⟨⟨_, rfl⟩, Y4.st⟩
  · intro l2 ys n s4 ce ho hno hall
    rw [List.filter_eq_self.mpr (fun _ _ => rfl)] at hall
    have H4 := Now.cend Hb H3 ce ho hno
    have hys := hall.ints
    refine r_listE ?_
    keq_hits
    refine cur (by tb_rel) fun H5 => ?_
    refine r_addLI (xs := (nsI.take 8).map fun n => n % 1000000000) (ys := [7, 0, 4, 2, 5, 3, 10]) H5 ⟨_, H5.get (by ktn_open), rfl, _, rfl⟩ ⟨_, H5.get (by ktn_open), rfl, _, rfl⟩ hys (.cons _ _ (.cons _ _ (.cons _ _ (.cons _ _ (.cons _ _ (.cons _ _ (.cons _ _ .nil))))))) (by rw [List.length_map]; simp; omega) fun l4 s6 H6 hI4 hne4 => ?_
    have hdr : (nsI.take 8).map (fun n => n % 1000000000) ++ [7, 0, 4, 2, 5, 3, 10] = drawn nsI := rfl
    rw [hdr] at hI4
    have hdl : (drawn nsI).length ≤ 15 := by rw [← hdr, List.length_append, List.length_map]; simp; omega
    generalize ys ++ _ = zs at H6 hI4
    refine iter_list H6 ⟨_, H6.get List.mem_cons_self, rfl, _, rfl⟩ fun it oit s7 hit H7 a7 hne hne2 => ?_
    have hait : a ≠ it := hne (a, _) (by ktn_open)
    have ha4 : a ≠ l4 := hne4 (a, _) (by ktn_open)
    refine ⟨PartsI w s L a it l4 zs nsI, (drawn nsI).length,
      ⟨_, 0, [[]], oit, _, H7.drop (by simp only [List.forall_mem_cons]; exact ⟨by ktn_open, by ktn_open, by ktn_open, fun _ h => nomatch h⟩), hit, by tb_start, tlo_one, by omega, rfl, by simp, by simp, by simp [wl]⟩, ?_⟩
    rintro k s8 ⟨m, i, ps, oit, o, H8, hit8, hm, X8, hik, he, hp1, hp2, hwl⟩
    have hpn : ps ≠ [] := by intro e; rw [e] at hp1; simp at hp1
    refine next_list hA.handled H8.swap hit8 (fun p hp => ?_) ⟨_, H8.get (by ktn_open), rfl, _, rfl⟩ (fun v hv o9 s9 hit9 H9 a9 => ?_) (fun hv s9 H9 a9 => ?_)
    · revert p; simp only [List.forall_mem_cons]; exact ⟨hait, hne2, fun _ h => nomatch h⟩
    · obtain ⟨n, t9, hv1, hv2⟩ := hI4.at i v hv
      subst hv1
      have hi : i < (drawn nsI).length := by
        rcases Nat.lt_or_ge i (drawn nsI).length with h | h
        · exact h
        · rw [List.getElem?_eq_none h] at hv2; cases hv2
      have hdi : (drawn nsI).drop i = n :: (drawn nsI).drop (i + 1) := by
        rw [List.drop_eq_getElem_cons hi]
        rw [List.getElem?_eq_getElem hi] at hv2
        rw [Option.some.inj hv2]
      rw [hdi, List.foldl_cons] at he
      have hsz := partStep_size ps n hpn
      have hk0 := ar_pos hik hi
      refine head_name ?_
      keq_hits
      refine r_modI (by tb_rel) (by decide) fun t10 s10 H10 a10 => ?_
      keq_hits
      by_cases h3 : n % 3 = 0
      · rw [if_pos (decide_eq_true h3)]
        keq_hits
        refine ⟨⟨_, by ktr_unf⟩, ?_⟩
        keq_hits
        refine cur (Now.swap (by tb_rel)) fun H11 => ?_
        refine r_appendT H11 X8 (by simp only [List.forall_mem_cons]; exact ⟨hait.symm, ha4.symm, fun _ h => nomatch h⟩) (by omega) fun o12 s12 H12 X12 a12 => ?_
        keq_hits
        have e1 : partStep ps n = ps ++ [[]] := by unfold partStep; rw [if_pos h3]
        rw [e1] at he hsz
        exact loopEnd_next ⟨k - 1, ar_pred hk0, _, i + 1, _, _, _, H12, hit9, by tb_start, X12, ar_step hik hk0, he, hsz.2.1, Nat.le_trans hsz.1 (Nat.succ_le_succ hp2), Nat.le_trans hsz.2.2 (Nat.succ_le_succ hwl)⟩
      · rw [if_neg (by simpa using h3)]
        keq_hits
        refine r_modI (by tb_rel) (by decide) fun t11 s11 H11 a11 => ?_
        keq_hits
        have hg : ps.getLastD [] = ps.getLast hpn := by rw [List.getLastD_eq_getLast?, List.getLast?_eq_some_getLast hpn]; rfl
        have hwl2 := wl_last ps hpn
        rw [hg] at hwl2
        have hx8 : (drawn nsI)[i] = n := by rw [List.getElem?_eq_getElem hi] at hv2; exact Option.some.inj hv2
        have hrange : 0 ≤ n ∧ n < 1000000000 := drawn_range (by rw [← hx8]; exact List.getElem_mem hi)
        obtain ⟨hk9, hk8⟩ := ar_mod8 (n / 3)
        have hk7 : (n / 3 % 8).toNat ≤ 1000000 := Nat.le_trans (Nat.le_of_lt hk8) (by decide)
        have hps : ps.length ≤ 1000000 := Nat.le_trans hp2 (Nat.le_trans hi (Nat.le_trans hdl (by decide)))
        have hg15 : (ps.getLast hpn).length ≤ 15 := Nat.le_trans (Nat.le_of_add_left_le (Nat.le_of_eq hwl2.symm)) (Nat.le_trans hwl (Nat.le_trans (Nat.le_of_lt hi) hdl))
        have fin : ∀ (gs : List (List Nat)) (hgs : gs = if ps.length % 2 = 1 then gapS else nameS) (o' : Obj) (s' : Shared) (m' : PySem.Str → Option Value), Now w s (callEnv (fdAt w 107) L 107).locals m' [(a, o'), (it, o9), (l4, listOf zs.toArray 0)] s.gens s' →
            TLo (ps.dropLast ++ [ps.getLast hpn ++ sgI gs n]) o' → m' "parts" = some (.ref a) → ∃ j, j < k ∧ PartsI w s L a it l4 zs nsI j s' := fun gs hgs o' s' m' H' X' g1 => by
          have e1 : partStep ps n = ps.dropLast ++ [ps.getLast hpn ++ sgI gs n] := by unfold partStep; rw [if_neg h3, hg, hgs]
          rw [e1] at he hsz
          exact ⟨k - 1, ar_pred hk0, m', i + 1, _, o9, o', H', hit9, g1, X', ar_step hik hk0, he, hsz.2.1, Nat.le_trans hsz.1 (Nat.succ_le_succ hp2), Nat.le_trans hsz.2.2 (Nat.succ_le_succ hwl)⟩
        by_cases h2 : ps.length % 2 = 1
        · rw [if_pos (by rw [decide_eq_true_iff]; exact ar_odd.mpr h2)]
          keq_hits
          intro t12 s12 st12
          refine cur (Now.step (by tb_rel) st12) fun H12 => ?_
          refine getLneg (by ktr_unf) hpn fun t13 => ?_
          keq_hits
          refine cur (by tb_rel) fun Hg => ?_
          have Xg := Hg.get (by ktn_open)
          refine r_divI (by tb_rel) (by decide) hrange.1 hrange.2 (by decide) fun t14 s14 H14 a14 => ?_
          keq_hits
          refine r_modI (by tb_rel) (by decide) fun t15 s15 H15 a15 => ?_
          have Xg : TL s15.heap _ gapS := ⟨_, H15.get (by ktn_open), ⟨_, 0, rfl, .cons _ _ (.cons _ _ (.cons _ _ (.cons _ _ (.cons _ _ (.cons _ _ (.cons _ _ (.cons _ _ .nil)))))))⟩⟩
          refine sub_item (k := (n / 3 % 8).toNat) Xg hk9 hk8 hk7 (by kernel_rfl!) fun t16 => ?_
          have es : gapS[(n / 3 % 8).toNat] = sgI gapS n := by unfold sgI; rw [List.getD_eq_getElem?_getD, List.getElem?_eq_getElem hk8]; rfl
          rw [es]
          have hs1 : (sgI gapS n).length ≤ 1 := by rw [← es]; exact (by decide : ∀ y ∈ gapS, y.length ≤ 1) _ (List.getElem_mem hk8)
          have hs2 : (ps.getLast hpn).length + (sgI gapS n).length ≤ 1000000 := Nat.le_trans (Nat.add_le_add hg15 hs1) (by decide)
          keq_hits
          refine cur (Now.drop (ns' := [(a, o), (it, o9), (l4, listOf zs.toArray 0)]) (by tb_rel) (by simp only [List.forall_mem_cons]; exact ⟨by ktn_open, by ktn_open, by ktn_open, fun _ h => nomatch h⟩)) fun H20 => ?_
          refine setLneg H20 X8 (by simp only [List.forall_mem_cons]; exact ⟨hait.symm, ha4.symm, fun _ h => nomatch h⟩) hpn fun o21 s21 H21 X21 a21 => ?_
          keq_hits
          exact loopEnd_next (fin gapS (by rw [if_pos h2]) _ _ _ H21 X21 (by tb_start))
        · rw [if_neg (by rw [decide_eq_true_iff]; exact fun e => h2 (ar_odd.mp e))]
          keq_hits
          intro t12 s12 st12
          refine cur (Now.step (by tb_rel) st12) fun H12 => ?_
          refine getLneg (by ktr_unf) hpn fun t13 => ?_
          keq_hits
          refine cur (by tb_rel) fun Hg => ?_
          have Xg := Hg.get (by ktn_open)
          refine r_divI (by tb_rel) (by decide) hrange.1 hrange.2 (by decide) fun t14 s14 H14 a14 => ?_
          keq_hits
          refine r_modI (by tb_rel) (by decide) fun t15 s15 H15 a15 => ?_
          have Xg : TL s15.heap _ nameS := ⟨_, H15.get (by ktn_open), ⟨_, 0, rfl, .cons _ _ (.cons _ _ (.cons _ _ (.cons _ _ (.cons _ _ (.cons _ _ (.cons _ _ (.cons _ _ .nil)))))))⟩⟩
          refine sub_item (k := (n / 3 % 8).toNat) Xg hk9 hk8 hk7 (by kernel_rfl!) fun t16 => ?_
          have es : nameS[(n / 3 % 8).toNat] = sgI nameS n := by unfold sgI; rw [List.getD_eq_getElem?_getD, List.getElem?_eq_getElem hk8]; rfl
          rw [es]
          have hs1 : (sgI nameS n).length ≤ 1 := by rw [← es]; exact (by decide : ∀ y ∈ nameS, y.length ≤ 1) _ (List.getElem_mem hk8)
          have hs2 : (ps.getLast hpn).length + (sgI nameS n).length ≤ 1000000 := Nat.le_trans (Nat.add_le_add hg15 hs1) (by decide)
          keq_hits
          refine cur (Now.drop (ns' := [(a, o), (it, o9), (l4, listOf zs.toArray 0)]) (by tb_rel) (by simp only [List.forall_mem_cons]; exact ⟨by ktn_open, by ktn_open, by ktn_open, fun _ h => nomatch h⟩)) fun H20 => ?_
          refine setLneg H20 X8 (by simp only [List.forall_mem_cons]; exact ⟨hait.symm, ha4.symm, fun _ h => nomatch h⟩) hpn fun o21 s21 H21 X21 a21 => ?_
          keq_hits
          exact loopEnd_next (fin nameS (by rw [if_neg h2]) _ _ _ H21 X21 (by tb_start))
    · have hi : (drawn nsI).length ≤ i := by
        rw [← hI4.length]
        rcases Nat.lt_or_ge i zs.length with h | h
        · rw [List.getElem?_eq_getElem h] at hv; cases hv
        · exact h
      rw [List.drop_of_length_le hi] at he
      have he : ps = partsGo nsI := he
      have hpl : (partsGo nsI).length ≤ 100 := by rw [← he]; omega
      rw [he] at X8
      refine head_none ?_
      keq_hits
      refine r_modI (by tb_rel) (by decide) fun t10 s10 H10 a10 => ?_
      keq_hits
      by_cases h2 : (partsGo nsI).length % 2 = 0
      · have e1 : partsF nsI = partsGo nsI ++ [[]] := by unfold partsF; rw [if_pos h2]
        rw [if_pos (by rw [decide_eq_true_iff]; exact ar_even.mpr h2)]
        keq_hits
        refine ⟨⟨_, by ktr_unf⟩, ?_⟩
        keq_hits
        refine r_appendT (by tb_rel) X8 (by simp only [List.forall_mem_cons]; exact ⟨ha4.symm, fun _ h => nomatch h⟩) (by omega) fun o12 s12 H12 X12 a12 => ?_
        keq_hits
        refine cur (by tb_rel) fun Hz => ?_
        rw [← e1] at X12
        exact h _ _ _ Hz.end (Hz.get (by ktn_open)) (Hz.N.fresh (List.mem_cons_self)) X12
      · have e1 : partsF nsI = partsGo nsI := by unfold partsF; rw [if_neg h2]
        rw [if_neg (by rw [decide_eq_true_iff]; exact fun e => h2 (ar_even.mp e))]
        keq_hits
        refine cur (by tb_rel) fun Hz => ?_
        rw [← e1] at X8
        exact h _ _ _ Hz.end (Hz.get (by ktn_open)) (Hz.N.fresh (List.mem_cons_self)) X8
end

-- part G1
set_option maxRecDepth 100000
section
section
variable {M : Model} {A : Around} {R : GenEnd} {Y : Protocol} {n : Nat} {s₀ : Shared} {c : Code} {fs : List Frame} {s : Shared} {env : Env}

theorem seg_If {test : Expr} {body orelse : List Stmt} {pos : Pos} {K : Flow → Sem Fin} {H : Value → Sem Fin} {gd : Bool → Bool} {lv : List Value → List Value}
    (h : wpAny M (A.over c fs) (isTrue test env (eval test env)) (fun b s' => if b = true then Seg M A R Y n s₀ c ((execs body env).wrap K H gd lv) fs s' else Seg M A R Y n s₀ c ((execs orelse env).wrap K H gd lv) fs s') NoE s) :
    Seg M A R Y n s₀ c ((exec (.If test body orelse pos) env).wrap K H gd lv) fs s := by
  rw [exec_If]
  refine seg_bind_wrap (wpAny_standAt (seg_bind_wrap (wpAny_mono h (fun b s' h' => ?_) fun _ _ x => False.elim x)))
  cases b <;> exact h'
theorem seg_runOwn {code : Code} {K : Flow → Sem Fin} {H : Value → Sem Fin} {gd : Bool → Bool} {lv : List Value → List Value}
    (h : ∀ (k : Result → Sem Fin) p, (∀ f, k (.ok f) = K f) → Seg M A R Y n s₀ code (M.den code) (.ret k none (gd false) (lv []) c p [] :: fs) s) : Seg M A R Y n s₀ c ((runOwn code env).wrap K H gd lv) fs s :=
  seg_call fun p => h _ p fun f => rfl
theorem seg_For {target iter : Expr} {body orelse : List Stmt} {pos : Pos} {K : Flow → Sem Fin} {H : Value → Sem Fin} {gd : Bool → Bool} {lv : List Value → List Value} (hs : ∀ x, foldedSetIterable iter env x = pure x)
    (h : wpAny M (A.over c fs) (eval iter env) (fun x s₁ => wpAny M (A.over c fs) (pyIter x) (fun it s₂ => ∀ (k : Result → Sem Fin) p, (∀ f, k (.ok f) = K f) →
      Seg M A R Y n s₀ (.forLoop target it body orelse env) (M.den (.forLoop target it body orelse env)) (.ret k none (gd false) (lv []) c p [] :: fs) s₂) NoE s₁) NoE s) :
    Seg M A R Y n s₀ c ((exec (.For target iter body orelse pos) env).wrap K H gd lv) fs s := by
  rw [exec_For]
  refine seg_bind_wrap (wpAny_standAt (seg_bind_wrap (wpAny_mono h (fun x s₁ h₁ => ?_) fun _ _ x => False.elim x)))
  refine seg_bind_wrap (wpAny_of_eq (hs x) (seg_bind_wrap (wpAny_standAt (seg_bind_wrap (wpAny_holding (wpAny_mono h₁ (fun it s₂ h₂ => ?_) fun _ _ x => False.elim x))))))
  exact seg_runOwn h₂
end

noncomputable def turnK (code : Code) : Flow → Sem Fin
  | .next | .cont => .pure (.again code)
  | .brk => .pure (.done .next)
  | .ret v => .pure (.done (.ret v))
section
variable {prog : Program} {w : World} {A : Around} {R : GenEnd} {Y : Protocol} {n : Nat} {s₀ : Shared} {fs : List Frame} {s : Shared} {env : Env}
theorem seg_forLoop {target : Expr} {it : Value} {body : List Stmt} {k : Result → Sem Fin} {g : Bool} {l : List Value} {c₁ : Code} {p₁ : Pos}
    (hq : Code.quiet (.block [] env) = true)
    (h : wpAny (model prog w) (A.over (.forLoop target it body [] env) (.ret k none g l c₁ p₁ [] :: fs)) (pyNext it) (fun r s₁ => match r with
      | none => Seg (model prog w) A R Y n s₀ c₁ (k (.ok .next)) fs s₁
      | some v => wpAny (model prog w) (A.over (.forLoop target it body [] env) (.ret k none g l c₁ p₁ [] :: fs)) (letOwnedTupleGo target it v) (fun _ s₂ =>
          wpAny (model prog w) (A.over (.forLoop target it body [] env) (.ret k none g l c₁ p₁ [] :: fs)) (assign target env v) (fun _ s₃ =>
            ∀ HB, Seg (model prog w) A R Y n s₀ (.forLoop target it body [] env) ((execs body env).wrap (turnK (.forLoop target it body [] env)) HB id id) (.ret k none g l c₁ p₁ [] :: fs) s₃) NoE s₂) NoE s₁) NoE s) :
    Seg (model prog w) A R Y n s₀ (.forLoop target it body [] env) ((model prog w).den (.forLoop target it body [] env)) (.ret k none g l c₁ p₁ [] :: fs) s := by
  show Seg _ A R Y n s₀ _ ((forTurn target it body [] env).onRaise (fun x => do noteFrame x env; theTreesLotGoes x)) _ s
  unfold forTurn
  rw [Sem.onRaise_eq_wrap]
  refine seg_bind_wrap (wpAny_standAt (seg_bind_wrap (wpAny_onRaise (wpAny_mono h (fun r s₁ h₁ => ?_) fun _ _ x => False.elim x))))
  cases r with
  | none =>
    show Seg _ A R Y n s₀ _ (.pure (.again (.block [] env))) _ s₁
    refine seg_again hq ?_
    show Seg _ A R Y n s₀ _ (leafOf (.ok .next)) _ s₁
    exact seg_leaf (.ok .next) h₁
  | some v =>
    refine seg_bind_wrap (wpAny_mono h₁ (fun _ s₂ h₂ => seg_bind_wrap (wpAny_mono h₂ (fun _ s₃ h₃ => ?_) fun _ _ x => False.elim x)) fun _ _ x => False.elim x)
    rw [Sem.bind_eq_wrap', Sem.wrap_wrap]
    have := h₃ (fun e => (Sem.raise e).wrap .pure (fun e => ((do noteFrame e env; theTreesLotGoes e : Sem Unit).bind fun _ => .raise e)) id id)
    rw [Sem.wrap_congr (execs body env) (K' := turnK (.forLoop target it body [] env)) (H' := (fun e => (Sem.raise e).wrap .pure (fun e => ((do noteFrame e env; theTreesLotGoes e : Sem Unit).bind fun _ => .raise e)) id id)) _ _ (fun f => by cases f <;> rfl) (fun _ => rfl)]
    exact this
end
end

-- part G2
set_option maxRecDepth 100000
section
open Builtin.Str StrLaws PySem.Spec
noncomputable abbrev tupO (vs : Array Value) : Obj := { cls := .type "tuple", data := .seq vs }
section
variable {w : World} {A : Around} {b s s' : Shared} {m : PySem.Str → Option Value} {ns : List (Addr × Obj)} {G : Array GenState} {env : Env} {L l : Addr} {o o' : Obj}
theorem r_assign2 {x y : PySem.Str} {px py pt : Pos} {k1 : Nat} {tp : Addr} {v1 v2 : Value} {Q : Unit → Shared → Prop} (hh : A.handled = none) (H : Now w b env.locals m ns G s) (hT : s.heap.IsTuple tp #[v1, v2]) (hk : env.scope.kind = .function)
    (hx : env.kindOf x = some .local) (hy : env.kindOf y = some .local) (h : ∀ s', Now w b env.locals (upd (upd m x v1) y v2) ns G s' → s.toks ≤ s'.toks → Q () s') : Wp w A (assign (.Tuple [.Name x px, .Name y py] k1 pt) env (.ref tp)) Q s := by
  refine wpAny_assign_Tuple hh hT rfl rfl fun h' he => ?_
  have H' : Now w b env.locals m ns G { s with heap := h' } := H.step ⟨fun a o e => he a o (Nat.ne_of_lt (Heap.lt_size e)) e, rfl, rfl, Nat.le_refl _⟩
  refine wpAny_assignInOrder_more (wpAny_assign_Name (r_store H' hk hx fun s1 H1 a1 => ?_))
  refine wpAny_assignInOrder_more (wpAny_assign_Name (r_store H1 hk hy fun s2 H2 a2 => ?_))
  exact wpAny_pure (h _ H2 (Nat.le_trans a1 a2))
theorem r_newTuple {vs : List Value} {Q : Value → Shared → Prop} (H : Now w b L m ns G s) (hn : vs.length ≤ 1000000) (h : ∀ tp s', Now w b L m ns G s' → s'.heap.IsTuple tp vs.toArray → s.toks ≤ s'.toks → Q (.ref tp) s') : Wp w A (newTuple vs) Q s := by
  have e : (2 : Nat) ^ 24 = 16777216 := by decide
  refine newTuple_N H.F H.N (fun h' F' N' => h _ { s with heap := h' } ⟨H.B, F', fun p hp => N' p (List.mem_cons_of_mem _ hp), H.os, H.toks, H.pos, H.gens⟩ ⟨_, (N' _ List.mem_cons_self).1, rfl, 0, rfl⟩ (Nat.le_refl _)) (by unfold sizeLine; omega)
end

/-- all that stands beside a frame -/
noncomputable def full (b : Shared) (L : Addr) (h : Heap) : List (Addr × Obj) :=
  (List.range h.objs.size).filterMap fun a => if a ≠ L ∧ b.heap.get? a = none then (h.get? a).map fun o => (a, o) else none
theorem mem_full {b : Shared} {L a : Addr} {h : Heap} {o : Obj} (h1 : a ≠ L) (h2 : b.heap.get? a = none) (h3 : h.get? a = some o) : (a, o) ∈ full b L h := by
  refine List.mem_filterMap.mpr ⟨a, List.mem_range.mpr (Heap.lt_size h3), ?_⟩
  rw [if_pos ⟨h1, h2⟩, h3]; rfl
theorem of_full {b : Shared} {L : Addr} {h : Heap} {p : Addr × Obj} (hp : p ∈ full b L h) : p.1 ≠ L ∧ b.heap.get? p.1 = none ∧ h.get? p.1 = some p.2 := by
  obtain ⟨a, _, e⟩ := List.mem_filterMap.mp hp
  split at e
  · rename_i hc
    cases ho : h.get? a with
    | none => rw [ho] at e; cases e
    | some o => rw [ho] at e; cases e; exact ⟨hc.1, hc.2, ho⟩
  · cases e

/-- a frame that sleeps and wakes -/
structure Gs (w : World) (b : Shared) (L : Addr) (m : PySem.Str → Option Value) (s : Shared) : Prop where
  B : Bs w b.heap
  F : Fr b.heap L s.heap m
  os : (s.os, s.drawn) = (b.os, b.drawn)
  toks : b.toks ≤ s.toks
  pos : 0 < b.toks
/-- all but some places stand as they stood -/
structure Mv (D : Addr → Prop) (s₀ s : Shared) : Prop where
  keep : ∀ a o, ¬ D a → s₀.heap.get? a = some o → s.heap.get? a = some o
  os : (s.os, s.drawn) = (s₀.os, s₀.drawn)
  gens : s.gens = s₀.gens
section
variable {w : World} {b s s' s₀ : Shared} {L : Addr} {m m' : PySem.Str → Option Value} {D : Addr → Prop} {G : Array GenState}
theorem Mv.refl : Mv D s s := ⟨fun _ _ _ e => e, rfl, rfl⟩
theorem Mv.trans (x : Mv D s₀ s) (y : Mv D s s') : Mv D s₀ s' := ⟨fun a o hd e => y.keep a o hd (x.keep a o hd e), y.os.trans x.os, y.gens.trans x.gens⟩
theorem Gs.now (H : Gs w b L m s) : Now w b L m (full b L s.heap) s.gens s :=
  ⟨H.B, H.F, fun p hp => have q := of_full hp; ⟨q.2.2, q.1, q.2.1⟩, H.os, H.toks, H.pos, rfl⟩
theorem Now.gs {ns : List (Addr × Obj)} (H : Now w b L m ns G s) : Gs w b L m s := ⟨H.B, H.F, H.os, H.toks, H.pos⟩
theorem Gs.moved (H : Gs w b L m s) (H' : Now w b L m' (full b L s.heap) s.gens s') (hL : D L) : Mv D s s' := by
  refine ⟨fun a o hd e => ?_, ?_, H'.gens⟩
  · have hne : a ≠ L := fun e => hd (e ▸ hL)
    cases hb : b.heap.get? a with
    | none => exact H'.N.get (mem_full hne hb e)
    | some o' =>
      have := H.F.keep a o' hb
      rw [e] at this
      cases this
      exact H'.F.keep a o hb
  · rw [H'.os, H.os]
/-- the state after a step of the walk -/
theorem Gs.hop {wr : List Addr} {h' : Heap} {tk : Nat} (H : Gs w b L m s) (hw : ∀ a ∈ wr, b.heap.get? a = none ∧ a ≠ L) (hk : ∀ a o, a ∉ wr → s.heap.get? a = some o → h'.get? a = some o) (ht : b.toks ≤ tk) : Gs w b L m { s with heap := h', toks := tk } := by
  obtain ⟨oL, es, ep, hL, r⟩ := H.F.ns
  refine ⟨H.B, ⟨⟨oL, es, ep, hk _ _ (fun hm => (hw _ hm).2 rfl) hL, r⟩, fun c o e => hk _ _ (fun hm => ?_) (H.F.keep c o e), H.F.above⟩, H.os, ht, H.pos⟩
  rw [(hw _ hm).1] at e; cases e
end

noncomputable def escI : Bool → Nat → List Nat → List (Nat × List Nat)
  | true, i, c :: r => (i, [92, c]) :: escI false (i + 1) r
  | false, i, c :: r => if c = 92 then escI true (i + 1) r else (i, [c]) :: escI false (i + 1) r
  | true, i, [] => [(i - 1, [92])]
  | false, _, [] => []

/-- asleep: its places as they were -/
structure Alike (b : Shared) (D : Addr → Prop) (s₁ s'' : Shared) : Prop where
  same : ∀ a, D a → ∀ o, s₁.heap.get? a = some o → s''.heap.get? a = some o
  keep : Grown b.heap s''.heap
  os : (s''.os, s''.drawn) = (b.os, b.drawn)
  toks : b.toks ≤ s''.toks
noncomputable def Yp (b : Shared) (D : Addr → Prop) (all : List (Nat × List Nat)) : Protocol := fun k s₀ v s₁ kap =>
  ∃ (p : Nat) (y : List Nat) (tp : Addr) (t u : Nat), all[all.length - 1 - k]? = some (p, y) ∧ v = .ref tp ∧ s₁.heap.IsTuple tp #[.int (p : Int) t, .str (T y) u] ∧ Mv D s₀ s₁ ∧ ∀ s'', Alike b D s₁ s'' → kap (.send .none) s''
noncomputable def Rp (D : Addr → Prop) : GenEnd := fun k s₀ r s₁ => r = .ok (.ret .none) ∧ (k = 0 ∧ Mv D s₀ s₁)
end

-- part G3
section
noncomputable def gFor : Stmt := match (topBody 1).drop 2 with | x :: _ => x | [] => .Pass default
noncomputable def gTarget : Expr := match gFor with | .For t _ _ _ _ => t | _ => .Name "x" default
noncomputable def gBody : List Stmt := match gFor with | .For _ _ b _ _ => b | _ => []
noncomputable abbrev gEnv (w : World) (L : Addr) : Env := callEnv (fdAt w 21) L 21
noncomputable abbrev gLoop (w : World) (L e : Addr) : Code := .forLoop gTarget (.ref e) gBody [] (gEnv w L)
structure GSe (w : World) (b : Shared) (L : Addr) (m : PySem.Str → Option Value) (esc : Bool) (i : Nat) (s : Shared) : Prop where
  g : Gs w b L m s
  ef : m "escape" = some (.bool esc)
  p : ∃ (pv : Int) (t : Nat), m "pos" = some (.int pv t) ∧ (esc = true → pv = ((i - 1 : Nat) : Int))
theorem Gs.wake {w : World} {b s s'' : Shared} {L : Addr} {m : PySem.Str → Option Value} {D : Addr → Prop} (H : Gs w b L m s) (a : Alike b D s s'') (hL : D L) : Gs w b L m s'' := by
  obtain ⟨oL, es, ep, ho, r⟩ := H.F.ns
  exact ⟨H.B, ⟨⟨oL, es, ep, a.same L hL _ ho, r⟩, a.keep, H.F.above⟩, a.os, a.toks, H.pos⟩
section
variable {w : World} {A : Around} {b s s' s₀ : Shared} {m : PySem.Str → Option Value} {ns : List (Addr × Obj)} {G : Array GenState} {env : Env} {L : Addr} {R : GenEnd} {Y : Protocol} {n : Nat} {c : Code} {fs : List Frame}
theorem r_trueName {x : PySem.Str} {p : Pos} {v : Bool} {Q : Bool → Shared → Prop} (H : Now w b env.locals m ns G s) (hk : env.scope.kind = .function) (hl : env.kindOf x = some .local) (hd : (x == ("__debug__" : PySem.Str)) = false) (hv : m x = some (.bool v))
    (he : isTrue (.Name x p) env (eval (.Name x p) env) = (do let v ← eval (.Name x p) env; standAt (Expr.Name x p).pos; holding [v] (truthy v))) (h : Q v s) : Wp w A (isTrue (.Name x p) env (eval (.Name x p) env)) Q s :=
  r_truePlain he (r_local H hk hl hd hv (r_tb h))
theorem seg_next {st : Stmt} {rest : List Stmt} {K : Flow → Sem Fin} {H : Value → Sem Fin} {gd : Bool → Bool} {lv : List Value → List Value}
    (h : Wp w (A.over c fs) (exec st env) (fun f s' => f = .next ∧ Seg (model PW w) A R Y n s₀ c ((execs rest env).wrap K H gd lv) fs s') s) : Seg (model PW w) A R Y n s₀ c ((execs (st :: rest) env).wrap K H gd lv) fs s :=
  seg_execs_cons (seg_wrap (wpAny_mono h (fun f s' h' => by obtain ⟨rfl, h'⟩ := h'; exact h') fun _ _ x => False.elim x))
end
set_option maxHeartbeats 1000000
theorem gen_loop {w : World} {A : Around} {b : Shared} {L e it : Addr} {x : List Nat} {all : List (Nat × List Nat)} {St : Nat → Heap → Prop} {Mid : Nat → Addr → Heap → Prop} {D : Addr → Prop} {k : Result → Sem Fin} {c₁ : Code} {p₁ : Pos} (hA : A.handled = none)
    (W : ∀ A' : Around, A'.handled = none → WalksT PW w A' e [e, it] [e, it] x.length (fun i vals => ∃ (t u c : Nat), x[i]? = some c ∧ vals = #[.int (i : Int) t, .str (T [c]) u]) St Mid)
    (hLD : D L) (hDw : ∀ a ∈ [e, it], D a) (hwr : ∀ a ∈ [e, it], b.heap.get? a = none ∧ a ≠ L)
    (after : ∀ esc done s₀ s m, all = done ++ escI esc x.length [] → Mv D s₀ s → GSe w b L m esc x.length s → Seg (model PW w) A (Rp D) (Yp b D all) (escI esc x.length []).length s₀ c₁ (k (.ok .next)) [] s) :
    ∀ (l : List Nat) (esc : Bool) (i : Nat) (done : List (Nat × List Nat)) (s₀ s : Shared) (m : PySem.Str → Option Value), x.drop i = l → i ≤ x.length → all = done ++ escI esc i l → Mv D s₀ s → GSe w b L m esc i s → St i s.heap →
      Seg (model PW w) A (Rp D) (Yp b D all) (escI esc i l).length s₀ (gLoop w L e) ((model PW w).den (gLoop w L e)) [.ret k none false [] c₁ p₁ []] s := by
  have hh : (A.over (gLoop w L e) [.ret k none false [] c₁ p₁ []]).handled = none := hA
  intro l
  induction l with
  | nil =>
    intro esc i done s₀ s m hl hi hall hmv hg hst
    have hix : i = x.length := by have := congrArg List.length hl; rw [List.length_drop] at this; simp at this; omega
    subst hix
    refine seg_forLoop (by kernel_rfl!) ?_
    refine wpAny_with_toks (Nat.le_refl s.toks) ((W _ hh).done s _ _ hst fun h' tk hk ht => ?_)
    exact after esc done s₀ _ m hall (hmv.trans ⟨fun a o ha e => hk a o (fun hm => ha (hDw _ hm)) e, rfl, rfl⟩) ⟨hg.g.hop hwr hk (Nat.le_trans hg.g.toks ht), hg.ef, hg.p⟩
  | cons c r ih =>
    intro esc i done s₀ s m hl hi hall hmv hg hst
    have hix : i < x.length := by
      rcases Nat.lt_or_ge i x.length with h | h
      · exact h
      · rw [List.drop_of_length_le h] at hl; cases hl
    have hc : x[i]? = some c := by
      have := List.drop_eq_getElem_cons hix
      rw [hl] at this
      rw [List.getElem?_eq_getElem hix, (List.cons.inj this).1]
    have hr : x.drop (i + 1) = r := by
      have := List.drop_eq_getElem_cons hix
      rw [hl] at this
      exact (List.cons.inj this).2.symm
    refine seg_forLoop (by kernel_rfl!) ?_
    refine wpAny_with_toks (Nat.le_refl s.toks) ((W _ hh).item i s _ _ hix hst fun tp vals h1 tk1 hPt hfree hT hmid hk1 ht1 => ?_)
    obtain ⟨t, u, c', hc', rfl⟩ := hPt
    rw [hc] at hc'
    cases hc'
    refine (W _ hh).go _ _ _ i tp _ _ _ hmid fun h2 hst2 hk2 => ?_
    have hk12 : ∀ a o, a ∉ [e, it] → s.heap.get? a = some o → h2.get? a = some o := fun a o ha ho => hk2 a o ha (hk1 a o ha ho)
    have hT2 : h2.IsTuple tp #[.int (i : Int) t, .str (T [c]) u] := hT.at fun o ho => hk2 tp o ((W _ hh).apart i tp _ hmid) ho
    have hg2 : Gs w b L m { s with heap := h2, toks := tk1 } := hg.g.hop hwr hk12 (Nat.le_trans hg.g.toks ht1)
    have hmv2 : Mv D s₀ { s with heap := h2, toks := tk1 } := hmv.trans ⟨fun a o ha e => hk12 a o (fun hm => ha (hDw _ hm)) e, rfl, rfl⟩
    refine r_assign2 hh hg2.now hT2 (by kernel_rfl!) (by kernel_rfl!) (by kernel_rfl!) fun s3 H3 a3 => ?_
    intro HB
    have mv23 : Mv (· = L) { s with heap := h2, toks := tk1 } s3 := hg2.moved H3 rfl
    have st3 : St (i + 1) s3.heap := (W _ hh).frame _ _ _ hst2 fun a ha o ho => mv23.keep a o (hwr a ha).2 ho
    have hmv3 : Mv D s₀ s3 := hmv2.trans (hg2.moved H3 hLD)
    have hg3 := H3.gs
    have hso : ∀ {s' s'' : Shared}, St (i + 1) s'.heap → Alike b D s' s'' → St (i + 1) s''.heap := fun hst al => (W _ hh).frame _ _ _ hst fun a ha o ho => al.same a (hDw a ha) o ho
    have hst' : ∀ {s' s'' : Shared} {m' : PySem.Str → Option Value}, Gs w b L m' s' → St (i + 1) s'.heap → ∀ {m'' : PySem.Str → Option Value}, Now w b L m'' (full b L s'.heap) s'.gens s'' → St (i + 1) s''.heap := fun hg hst _ H =>
      (W _ hh).frame _ _ _ hst fun a ha o ho => (hg.moved (D := (· = L)) H rfl).keep a o (hwr a ha).2 ho
    have hidx : ∀ (p : Nat × List Nat) (rest : List (Nat × List Nat)), all = done ++ p :: rest → all[all.length - 1 - rest.length]? = some p := fun p rest e => by
      rw [e]
      rw [show (done ++ p :: rest).length - 1 - rest.length = done.length by simp only [List.length_append, List.length_cons]; omega]
      simp
    cases esc with
    | true =>
      refine seg_execs_cons (seg_If (r_trueName hg3.now (by kernel_rfl!) (by kernel_rfl!) (by kernel_rfl!) (v := true) (upd_ne (by kernel_rfl!) (upd_ne (by kernel_rfl!) hg.ef)) (by kernel_rfl!) ?_))
      rw [if_pos rfl]
      refine seg_execs_cons (seg_Expr_Yield (by rfl) (by rfl) (by rfl) (wpAny_mono (Q := fun v s' => ∀ kap : Resume → Shared → Prop, _ → Yp b D all (escI false (i + 1) r).length s₀ v s' kap) ?_ (fun _ _ x => x) fun _ _ x => False.elim x) (by kernel_rfl!) (by kernel_rfl!))
      refine cur hg3.now fun Hn => ?_
      refine Tuple_ ?_
      keq_hits
      refine r_newTuple (by tb_rel) (by simp) fun tp s4 H4 hT4 a4 => ?_
      intro kap hkap
      refine ⟨i, [92] ++ [c], tp, _, _, hidx _ (escI false (i + 1) r) (by rw [hall]; simp [escI]), rfl, hT4, hmv3.trans (hg3.moved H4 hLD), fun s'' al => hkap .none s'' ?_⟩
      have hg4 := H4.gs.wake al hLD
      refine seg_next (rest := []) (wpAny_Assign_Name (r_bool (r_store hg4.now (by kernel_rfl!) (by kernel_rfl!) fun s5 H5 a5 => ⟨rfl, ?_⟩)) (by kernel_rfl!))
      show Seg (model PW w) A (Rp D) (Yp b D all) _ _ (gLoop w L e) (.pure (.again (gLoop w L e))) _ s5
      exact seg_again (by kernel_rfl!) (ih false (i + 1) (done ++ [(i, [92, c])]) s'' s5 _ hr (by omega) (by rw [hall]; simp [escI]) (hg4.moved H5 hLD)
        ⟨H5.gs, upd_same, ⟨_, _, upd_ne (by kernel_rfl!) (upd_ne (by kernel_rfl!) upd_same), fun h => by cases h⟩⟩ (hst' hg4 (hso (hst' hg3 st3 H4) al) H5))
    | false =>
      refine seg_execs_cons (seg_If (r_trueName hg3.now (by kernel_rfl!) (by kernel_rfl!) (by kernel_rfl!) (v := false) (upd_ne (by kernel_rfl!) (upd_ne (by kernel_rfl!) hg.ef)) (by kernel_rfl!) ?_))
      rw [if_neg Bool.false_ne_true]
      refine seg_execs_cons (seg_If ?_)
      refine cur hg3.now fun Hn => ?_
      refine r_cmp ?_ (by kernel_rfl!)
      keq_hits
      refine cur (by tb_rel) fun H4 => ?_
      by_cases hc92 : c = 92
      · rw [if_pos (by simp [hc92])]
        refine seg_next (rest := []) (wpAny_Assign_Name (r_bool (r_store H4 (by kernel_rfl!) (by kernel_rfl!) fun s5 H5 a5 => ⟨rfl, ?_⟩)) (by kernel_rfl!))
        have e1 : escI false i (c :: r) = escI true (i + 1) r := by simp [escI, hc92]
        rw [e1] at hall ⊢
        show Seg (model PW w) A (Rp D) (Yp b D all) _ _ (gLoop w L e) (.pure (.again (gLoop w L e))) _ s5
        exact seg_again (by kernel_rfl!) (ih true (i + 1) done s₀ s5 _ hr (by omega) hall (hmv3.trans (hg3.moved H5 hLD))
          ⟨H5.gs, upd_same, ⟨_, _, upd_ne (by kernel_rfl!) (upd_ne (by kernel_rfl!) upd_same), fun _ => rfl⟩⟩ (hst' hg3 st3 H5))
      · rw [if_neg (by simp [hc92])]
        have e1 : escI false i (c :: r) = (i, [c]) :: escI false (i + 1) r := by simp [escI, hc92]
        rw [e1] at hall ⊢
        refine seg_execs_cons (seg_Expr_Yield (n := (escI false (i + 1) r).length) (by rfl) (by rfl) (by rfl) (wpAny_mono (Q := fun v s' => ∀ kap : Resume → Shared → Prop, _ → Yp b D all (escI false (i + 1) r).length s₀ v s' kap) ?_ (fun _ _ x => x) fun _ _ x => False.elim x) (by kernel_rfl!) (by kernel_rfl!))
        refine Tuple_ ?_
        keq_hits
        refine r_newTuple (by tb_rel) (by simp) fun tp s4 H4 hT4 a4 => ?_
        intro kap hkap
        refine ⟨i, [c], tp, _, _, hidx _ _ hall, rfl, hT4, hmv3.trans (hg3.moved H4 hLD), fun s'' al => hkap .none s'' ?_⟩
        have hg4 := H4.gs.wake al hLD
        show Seg (model PW w) A (Rp D) (Yp b D all) _ _ (gLoop w L e) (.pure (.again (gLoop w L e))) _ s''
        exact seg_again (by kernel_rfl!) (ih false (i + 1) (done ++ [(i, [c])]) s'' s'' _ hr (by omega) (by rw [hall]; simp) .refl
          ⟨hg4, upd_ne (by kernel_rfl!) (upd_ne (by kernel_rfl!) hg.ef), ⟨_, _, upd_ne (by kernel_rfl!) upd_same, fun h => by cases h⟩⟩ (hso (hst' hg3 st3 H4) al))
end

-- part G4
section
noncomputable def DD (L ag : Addr) (a : Addr) : Prop := L ≤ a ∧ a ≠ ag
theorem walksT_mono {prog : Program} {w : World} {A : Around} {I : Addr} {fp wr : List Addr} {n : Nat} {Pt Pt' : Nat → Array Value → Prop} {St : Nat → Heap → Prop} {Mid : Nat → Addr → Heap → Prop} (W : WalksT prog w A I fp wr n Pt St Mid) (h : ∀ i v, Pt i v → Pt' i v) :
    WalksT prog w A I fp wr n Pt' St Mid :=
  { sub := W.sub, frame := W.frame, go := W.go, apart := W.apart, done := W.done, self := W.self, item := fun i s Q E hi st hQ => W.item i s Q E hi st fun T vals h' tk hP => hQ T vals h' tk (h i vals hP) }
theorem enum_conv {w : World} {A' : Around} {e it : Addr} {x : List Nat} {n : Nat} {St : Nat → Heap → Prop} (hne : e ≠ it) (hx : n = x.length) (D : Draws PW w A'.in1 it [it] n (fun i v => ∃ c u, (T x).cps[i]? = some c ∧ v = .str ⟨#[c]⟩ u) St) :
    WalksT PW w A' e [e, it] [e, it] x.length (fun i vals => ∃ (t u c : Nat), x[i]? = some c ∧ vals = #[.int (i : Int) t, .str (T [c]) u]) (fun i h => (∃ old, IsEnum h e it i old) ∧ St i h) (fun i T h => (∃ x, IsEnumOut h e it ((i : Int) + 1) x T) ∧ St (i + 1) h ∧ T ≠ e ∧ T ≠ it) := by
  subst hx
  exact walksT_mono (WalksT.enumerateD D e hne (by simpa using hne) (by simp)) (by
    rintro i vals ⟨t', y, ⟨c, u, hc, rfl⟩, rfl⟩
    exact ⟨t', u, c, by simpa using hc, rfl⟩)
theorem walks_text {w : World} {e it : Addr} {x : List Nat} {t : Tok} (hne : e ≠ it) :
    ∃ (St : Nat → Heap → Prop) (Mid : Nat → Addr → Heap → Prop), (∀ A' : Around, A'.handled = none → WalksT PW w A' e [e, it] [e, it] x.length (fun i vals => ∃ (t u c : Nat), x[i]? = some c ∧ vals = #[.int (i : Int) t, .str (T [c]) u]) St Mid) ∧
      ∀ h, IsEnum h e it 0 .none → h.IsStrIter it (strIterType (T x)) (T x) t 0 → St 0 h := by
  have hx : (T x).cps.size = x.length := by simp
  cases ha : (T x).cps.all (· < 128)
  · have e1 : strIterType (T x) = "str_iterator" := by unfold strIterType; rw [ha]; rfl
    exact ⟨_, _, fun A' hA' => enum_conv hne hx (Draws.strWide (prog := PW) (w := w) (A := A'.in1) hA' it (T x) t), fun h he hi => ⟨⟨_, he⟩, e1 ▸ hi⟩⟩
  · have e1 : strIterType (T x) = "str_ascii_iterator" := by unfold strIterType; rw [ha]; rfl
    exact ⟨_, _, fun A' hA' => enum_conv hne hx (Draws.strAscii (prog := PW) (w := w) (A := A'.in1) hA' it (T x) t), fun h he hi => ⟨⟨_, he⟩, e1 ▸ hi⟩⟩
set_option maxHeartbeats 1000000
theorem gen_start {w : World} {A : Around} {b s : Shared} {L ag : Addr} {x : List Nat} {tx : Nat} (hA : A.handled = none) (hg : Gs w b L (upd noN "addr" (.str (T x) tx)) s) (hag : ∃ o, s.heap.get? ag = some o) (hL : L ≠ ag) :
    Seg (model PW w) A (Rp (DD L ag)) (Yp b (DD L ag) (escI false 0 x)) (escI false 0 x).length s (.func (topBody 1) (gEnv w L)) ((model PW w).den (.func (topBody 1) (gEnv w L))) [] s := by
  have hLD : DD L ag L := ⟨Nat.le_refl _, hL⟩
  refine seg_func ?_
  refine seg_next (wpAny_Assign_Name (r_int hg.now fun t1 s1 H1 a1 => r_store H1 (by kernel_rfl!) (by kernel_rfl!) fun s2 H2 a2 => ⟨rfl, ?_⟩) (by kernel_rfl!))
  refine seg_next (wpAny_Assign_Name (r_bool (r_store H2 (by kernel_rfl!) (by kernel_rfl!) fun s3 H3 a3 => ⟨rfl, ?_⟩)) (by kernel_rfl!))
  refine seg_execs_cons (seg_For (by intro _; kernel_rfl!) ?_)
  refine r_callT1 (id := "enumerate") H3 (by kernel_rfl!) (by kernel_rfl!) (by kernel_rfl!) (by kernel_rfl!) (by kernel_rfl!) (by kernel_rfl!) boot_enumerate (by decide) (by kernel_rfl!) ?_
  refine r_local H3 (by kernel_rfl!) (by kernel_rfl!) (by kernel_rfl!) (by tb_start) ?_
  refine PySem.call_enumerate_str fun h' he hi hsz hk => ?_
  have H4 : Now w b L _ (full b L s.heap) s.gens { s3 with heap := h' } := H3.step ⟨hk, rfl, rfl, Nat.le_refl _⟩
  refine wpAny_pyIter_enum he ?_
  intro k p hkK
  obtain ⟨St, Mid, W, hW⟩ := walks_text (w := w) (e := s3.heap.objs.size + 1) (it := s3.heap.objs.size) (x := x) (t := tx) (Nat.succ_ne_self _)
  have old : ∀ a o, s.heap.get? a = some o → a < s3.heap.objs.size := fun a o ho => by
    by_cases hal : a = L
    · subst hal
      obtain ⟨oL, _, _, hoL, _⟩ := H3.F.ns
      exact Heap.lt_size hoL
    · exact Heap.lt_size ((hg.moved (D := (· = L)) H3 rfl).keep a o hal ho)
  have hLs : L < s3.heap.objs.size := by obtain ⟨oL, _, _, hoL, _⟩ := H3.F.ns; exact Heap.lt_size hoL
  have hags : ag < s3.heap.objs.size := by obtain ⟨o, ho⟩ := hag; exact old ag o ho
  have hfresh : ∀ a, s3.heap.objs.size ≤ a → b.heap.get? a = none ∧ a ≠ L ∧ DD L ag a := fun a ha => by
    refine ⟨?_, Nat.ne_of_gt (Nat.lt_of_lt_of_le hLs ha), Nat.le_trans (Nat.le_of_lt hLs) ha, Nat.ne_of_gt (Nat.lt_of_lt_of_le hags ha)⟩
    cases e : b.heap.get? a with
    | none => rfl
    | some o => exact absurd (Heap.lt_size (H3.F.keep a o e)) (Nat.not_lt.mpr ha)
  have hb : ∀ a ∈ [s3.heap.objs.size + 1, s3.heap.objs.size], s3.heap.objs.size ≤ a := fun a ha => by
    rcases List.mem_cons.mp ha with rfl | ha
    · exact Nat.le_succ _
    · rw [List.mem_singleton.mp ha]; exact Nat.le_refl _
  refine gen_loop hA W hLD (fun a ha => (hfresh a (hb a ha)).2.2) (fun a ha => ⟨(hfresh a (hb a ha)).1, (hfresh a (hb a ha)).2.1⟩) ?_ x false 0 [] s _ _ rfl (Nat.zero_le _) rfl (hg.moved H4 hLD) ⟨H4.gs, by tb_start, ⟨_, _, by tb_start, fun h => by cases h⟩⟩ (hW _ he hi)
  intro esc done s₀ s5 m5 hall hmv5 hg5
  rw [hkK]
  cases esc with
  | true =>
    refine seg_execs_cons (seg_If (r_trueName hg5.g.now (by kernel_rfl!) (by kernel_rfl!) (by kernel_rfl!) (v := true) hg5.ef (by kernel_rfl!) ?_))
    rw [if_pos rfl]
    obtain ⟨pv, tp5, hp5, hpe⟩ := hg5.p
    have hpe := hpe rfl
    subst hpe
    refine seg_execs_cons (seg_Expr_Yield (n := 0) (by rfl) (by rfl) (by rfl) (wpAny_mono (Q := fun v s' => ∀ kap : Resume → Shared → Prop, _ → Yp b (DD L ag) (escI false 0 x) 0 s₀ v s' kap) ?_ (fun _ _ x => x) fun _ _ x => False.elim x) (by kernel_rfl!) (by kernel_rfl!))
    refine cur (L := (gEnv w L).locals) hg5.g.now fun Hn => ?_
    refine Tuple_ ?_
    keq_hits
    refine r_newTuple (by tb_rel) (by simp) fun tp s6 H6 hT6 a6 => ?_
    intro kap hkap
    refine ⟨x.length - 1, [92], tp, _, _, ?_, rfl, hT6, hmv5.trans (hg5.g.moved H6 hLD), fun s'' al => hkap .none s'' ?_⟩
    · rw [hall]; simp [escI]
    · show Seg (model PW w) A _ _ _ _ _ (leafOf (.ok (.ret .none))) [] s''
      exact seg_end _ ⟨rfl, rfl, .refl⟩
  | false =>
    refine seg_execs_cons (seg_If (r_trueName hg5.g.now (by kernel_rfl!) (by kernel_rfl!) (by kernel_rfl!) (v := false) hg5.ef (by kernel_rfl!) ?_))
    rw [if_neg Bool.false_ne_true]
    show Seg (model PW w) A _ _ _ _ _ (leafOf (.ok (.ret .none))) [] s5
    exact seg_end _ ⟨rfl, rfl, hmv5⟩
end

-- part G5
set_option maxRecDepth 100000
section
noncomputable def GAt (w : World) (A : Around) (b : Shared) (L ag : Addr) (all : List (Nat × List Nat)) (k : Nat) (gs : GenState) (s₁ : Shared) : Prop :=
  gs.bare = true ∧ ∀ s'', Alike b (DD L ag) s₁ s'' → (∃ o, s''.heap.get? ag = some o) → gs.Goes (model PW w) A (Rp (DD L ag)) (Yp b (DD L ag) all) k (.send .none) s''
noncomputable def GObj (g : Nat) (o : Obj) : Prop := o.cls = .type "generator" ∧ (∃ nm qn, o.data = .fields #[.int g 0, nm, qn]) ∧ o.slots = #[]
section
variable {w : World} {A : Around} {b s s' s₁ : Shared} {m m' : PySem.Str → Option Value} {ns : List (Addr × Obj)} {G : Array GenState} {env : Env} {L Lc ag : Addr} {o go : Obj} {all : List (Nat × List Nat)} {k g : Nat} {gs : GenState}

/-- a StopIteration: its address, its class -/
noncomputable def StopAt (e : Value) (h : Heap) : Prop := ∃ x o, e = .ref x ∧ h.get? x = some o ∧ o.cls = .type "StopIteration"
/-- the end of a generator as an exception: two objects more, nothing else moved -/
theorem stop_raised {α β : Type} {M : Model} {E : Value → Shared → Prop} {Q : β → Shared → Prop} {f : α → Sem β} (hh : A.handled = none)
    (h : ∀ e h', Grown s.heap h' → StopAt e h' → E e { s with heap := h' }) : wpAny M A (newExc (.type "StopIteration") [] >>= fun e => (raiseNew e : Sem α) >>= f) Q E s := by
  have hm : firstArgMember (.type "StopIteration") [] = pure Value.none := by simp only [firstArgMember]; rfl
  have made : wpAny M A (newExc (.type "StopIteration") []) (fun e s' => ∃ h', s' = { s with heap := h' } ∧ Grown s.heap h' ∧ StopAt e h') E s := by
    unfold newExc
    refine wpAny_bind (wpAny_newObj_type (wpAny_bind ?_) (by size_fits))
    rw [hm]
    exact wpAny_pure (wpAny_newObj_type ⟨_, rfl, fun a o ha => Heap.get?_push_of_some _ (Heap.get?_push_of_some _ ha), _, _, rfl, Heap.get?_push_size _ rfl, rfl⟩ (by size_fits))
  refine wpAny_bind (wpAny_mono made (fun e s' he => ?_) fun _ _ x => x)
  obtain ⟨h', rfl, hg, hs⟩ := he
  exact wpAny_bind (wpAny_raiseNew_none hh (h e h' hg hs))
/-- one step of a generator, by what its waking gives -/
theorem next_by {Q : Option Value → Shared → Prop} (hT : s.TypeIs (.ref ag) "generator")
    (h : wpAny (model PW w) A.in1 (Builtin.Generator.genWake (.ref ag) (.send .none)) (fun f s' => ∃ v, f = .done (.ret v) ∧ Q (some v) s') (fun e s' => StopAt e s'.heap ∧ Q none s') s) :
    Wp w A (pyNext (.ref ag)) Q s := by
  have asked : wpAny (model PW w) A (callSpecial? (.ref ag) (Str.ofString "__next__")) (fun r s' => ∃ v, r = some v ∧ Q (some v) s') (fun e s' => StopAt e s'.heap ∧ Q none s') s :=
    wpAny_callSpecial?_slot hT slot_gen_next (wpAny_call_entry slot_gen_next hT entry_gen_next (wpAny_mono h (fun f s' ⟨v, e, q⟩ => ⟨v, e, v, rfl, q⟩) fun _ _ x => x) (args_gen_next _))
  refine wpAny_bind (m := (callSpecial? (.ref ag) (Str.ofString "__next__")).attempt) (wpAny_attempt (wpAny_mono asked (fun r s' hr => ?_) fun e s' he => ?_))
  · obtain ⟨v, rfl, q⟩ := hr
    exact wpAny_pure q
  · obtain ⟨⟨x, o, rfl, ho, hc⟩, q⟩ := he
    exact wpAny_bind (wpAny_isInstance (b := true) ⟨o, ho, hc⟩ isSubtype_stop (wpAny_pure q))
/-- the waking: up to the next sign it gives, or to its end; a state that it leaves is bare -/
theorem wake_gen {n : Nat} {P : Nat → Shared → Shared → Prop} {Y : Protocol} {Q : Value → Shared → Prop} {E : Value → Shared → Prop} (hh : A.handled = none) (hl : s.heap.NoLimit) (hroom : A.depth < recursionLimit)
    (hg : s.heap.IsGen ag g) (hgs : s.gens[g]? = some gs) (hgo : gs.Goes (model PW w) A.in1 (fun n s₀ r s₁ => r = .ok (.ret .none) ∧ P n s₀ s₁) Y n (.send .none) (s.setGen g .running))
    (hY : ∀ v s₁ gs', gs'.bare = true → Y (n - 1) (s.setGen g .running) v s₁ (fun r' s'' => match n with
        | 0 => False
        | m + 1 => gs'.Goes (model PW w) A.in1 (fun n s₀ r s₁ => r = .ok (.ret .none) ∧ P n s₀ s₁) Y m r' s'') → Q v (s₁.setGen g gs'))
    (hP : ∀ s₁, P n (s.setGen g .running) s₁ → ∀ e h', Grown s₁.heap h' → StopAt e h' → E e { s₁.setGen g .finished with heap := h' }) :
    wpAny (model PW w) A.in1 (Builtin.Generator.genWake (.ref ag) (.send .none)) (fun f s' => ∃ v, f = .done (.ret v) ∧ Q v s') E s := by
  unfold Builtin.Generator.genWake
  refine wpAny_bind (wpAny_holding (wpAny_genNumber hg (wpAny_bind (wpAny_genState hgs ?_))))
  have woken : ∀ {k : GenResult → Sem PySem.Fin}, (∀ v, k (.yielded v) = ret v) → (∃ f : PUnit → Sem PySem.Fin, k (.returned .none) = newExc (.type "StopIteration") [] >>= fun e => raiseNew e >>= f) →
      wpAny (model PW w) A.in1 (.resume g (.send .none) [] k) (fun f s' => ∃ v, f = .done (.ret v) ∧ Q v s') E s := fun {k} k1 k2 => by
    obtain ⟨f, k2⟩ := k2
    refine wpAny_resumeQ hgs hgo (fun x s₁ hx => ?_) fun v s₁ gs' hb hv => ?_
    · rw [hx.1]
      show wpAny _ _ (k (.returned .none)) _ _ _
      rw [k2]
      exact stop_raised hh fun e h' hk hs => hP s₁ hx.2 e h' hk hs
    · rw [k1]
      exact wpAny_pure ⟨v, rfl, hY v s₁ gs' hb hv⟩
  cases gs with
  | fresh c => exact wpAny_bind (wpAny_roomToWake hl hroom (woken (fun _ => rfl) ⟨_, rfl⟩))
  | suspended k l c p fs cl => exact wpAny_bind (wpAny_roomToWake hl hroom (woken (fun _ => rfl) ⟨_, rfl⟩))
  | running => exact False.elim hgo
  | finished => exact False.elim hgo

theorem bare_set {G : Array GenState} {g : Nat} {x : GenState} (hx : x.bare = true) (h : AllBare G) : AllBare (G.setIfInBounds g x) := fun y hy => by
  obtain ⟨i, hi⟩ := Array.mem_iff_getElem?.mp hy
  by_cases e : g = i
  · subst e
    rw [Array.getElem?_setIfInBounds_self] at hi
    split at hi
    · cases hi; exact hx
    · cases hi
  · rw [Array.getElem?_setIfInBounds_ne e] at hi
    exact h y (Array.mem_iff_getElem?.mpr ⟨i, hi⟩)

theorem next_gen {Q : Option Value → Shared → Prop} (hA : OkA 1 A) (H : Now w b Lc m ns G s) (hns : ∀ p ∈ ns, ¬ DD L ag p.1) (hLc : ¬ DD L ag Lc) (hb : ∀ a o, b.heap.get? a = some o → ¬ DD L ag a)
    (hm : (ag, go) ∈ ns) (hgo : GObj g go) (hgs : G[g]? = some gs) (X : GAt w A.in1 b L ag all k gs s₁) (al : Alike b (DD L ag) s₁ s)
    (h1 : ∀ p y k', k = k' + 1 → all[all.length - k]? = some (p, y) → ∀ tp t u gs' G' s', s'.heap.IsTuple tp #[.int ((p : Nat) : Int) t, .str (T y) u] → Now w b Lc m ns G' s' → G'[g]? = some gs' → (AllBare G → AllBare G') → GAt w A.in1 b L ag all k' gs' s' → Q (some (.ref tp)) s')
    (h2 : k = 0 → ∀ G' s', Now w b Lc m ns G' s' → (AllBare G → AllBare G') → Q none s') : Wp w A (pyNext (.ref ag)) Q s := by
  have hob := H.get hm
  obtain ⟨hc, ⟨nm, qn, hd⟩, hsl⟩ := hgo
  have hG : s.gens = G := H.gens
  have hgs' : s.gens[g]? = some gs := by rw [hG]; exact hgs
  have move : ∀ (s₂ : Shared) (x : GenState) (h' : Heap), Mv (DD L ag) (s.setGen g .running) s₂ → Grown s₂.heap h' → s.toks ≤ s₂.toks → Now w b Lc m ns (s₂.gens.setIfInBounds g x) { s₂.setGen g x with heap := h' } := fun s₂ x h' mv hg ht => by
    have keep : ∀ a o, ¬ DD L ag a → s.heap.get? a = some o → h'.get? a = some o := fun a o hd e => hg _ _ (mv.keep a o hd e)
    obtain ⟨oL, es, ep, hoL, r⟩ := H.F.ns
    refine ⟨H.B, ⟨⟨oL, es, ep, keep _ _ hLc hoL, r⟩, fun a o e => keep a o (hb a o e) (H.F.keep a o e), H.F.above⟩, fun p hp => ⟨keep _ _ (hns p hp) (H.N p hp).1, (H.N p hp).2⟩, ?_, Nat.le_trans H.toks ht, H.pos, rfl⟩
    exact mv.os.trans H.os
  have gens2 : ∀ (s₂ : Shared) (x : GenState), Mv (DD L ag) (s.setGen g .running) s₂ → x.bare = true → AllBare G → AllBare (s₂.gens.setIfInBounds g x) := fun s₂ x mv hx hall => by
    rw [mv.gens]
    refine bare_set hx (bare_set rfl ?_)
    rw [hG]; exact hall
  have hlt : g < s.gens.size := by
    rcases Nat.lt_or_ge g s.gens.size with h | h
    · exact h
    · rw [Array.getElem?_eq_none h] at hgs'; cases hgs'
  refine wpAny_with_toks (Nat.le_refl s.toks) (wpAny_mono (Q := fun r s' => s.toks ≤ s'.toks → Q r s') (next_by ⟨_, hob, hc⟩ (wake_gen (Q := fun v s' => s.toks ≤ s'.toks → Q (some v) s') (P := fun k s₀ s₁ => k = 0 ∧ Mv (DD L ag) s₀ s₁) hA.handled H.bs.lim hA.room ⟨go, nm, qn, hob, hc, hd, hsl⟩ hgs' (X.2 (s.setGen g .running) ⟨al.same, al.keep, al.os, al.toks⟩ ⟨_, hob⟩) (fun v s₂ gs' hbare hY => ?_) (fun s₂ hP e h' hk hs => ⟨hs, ?_⟩))) (fun _ _ x => x) fun _ _ x => False.elim x)
  · intro ht
    have ht : s.toks ≤ s₂.toks := ht
    obtain ⟨p, y, tp, t, u, hidx, rfl, hT, mv, hkap⟩ := hY
    have H2 := move s₂ gs' s₂.heap mv (fun _ _ e => e) ht
    have al2 : Alike b (DD L ag) s₂ (s₂.setGen g gs') := ⟨fun _ _ _ e => e, H2.F.keep, H2.os, H2.toks⟩
    cases k with
    | zero => exact (hkap s₂ ⟨fun _ _ _ e => e, H2.F.keep, H2.os, H2.toks⟩).elim
    | succ k' =>
      refine h1 p y k' rfl (by rw [show all.length - (k' + 1) = all.length - 1 - (k' + 1 - 1) by rw [Nat.add_sub_cancel, Nat.sub_sub, Nat.add_comm 1]]; exact hidx) tp t u gs' _ (s₂.setGen g gs') hT H2 ?_ (gens2 s₂ gs' mv hbare) ⟨hbare, fun s'' al'' _ => hkap s'' ⟨al''.same, al''.keep, al''.os, al''.toks⟩⟩
      rw [mv.gens]
      simp [Shared.setGen, hlt]
  · obtain ⟨hk0, mv⟩ := hP
    intro ht
    exact h2 hk0 _ _ (move s₂ .finished h' mv hk ht) (gens2 s₂ .finished mv rfl)

noncomputable def snapD (L ag : Addr) (h : Heap) : List (Addr × Obj) := (List.range h.objs.size).filterMap fun a => if L ≤ a ∧ a ≠ ag then (h.get? a).map fun o => (a, o) else none
theorem mem_snap {h : Heap} {a : Addr} (hd : DD L ag a) (ho : h.get? a = some o) : (a, o) ∈ snapD L ag h := by
  refine List.mem_filterMap.mpr ⟨a, List.mem_range.mpr (Heap.lt_size ho), ?_⟩
  rw [if_pos (show L ≤ a ∧ a ≠ ag from hd), ho]; rfl
theorem of_snap {h : Heap} {p : Addr × Obj} (hp : p ∈ snapD L ag h) : DD L ag p.1 ∧ h.get? p.1 = some p.2 := by
  obtain ⟨a, _, e⟩ := List.mem_filterMap.mp hp
  split at e
  · rename_i hc
    cases ho : h.get? a with
    | none => rw [ho] at e; cases e
    | some o => rw [ho] at e; cases e; exact ⟨hc, ho⟩
  · cases e
theorem Now.snap (H : Now w b Lc m ns G s) (hLc : ¬ DD L ag Lc) (hb : ∀ a o, b.heap.get? a = some o → ¬ DD L ag a) : Now w b Lc m (ns ++ snapD L ag s.heap) G s :=
  ⟨H.B, H.F, fun p hp => by
    rcases List.mem_append.mp hp with hp | hp
    · exact H.N p hp
    · have q := of_snap hp
      refine ⟨q.2, fun e => hLc (e ▸ q.1), ?_⟩
      cases e : b.heap.get? p.1 with
      | none => rfl
      | some o => exact absurd q.1 (hb _ _ e), H.os, H.toks, H.pos, H.gens⟩
theorem Now.alike {h : Heap} (H : Now w b Lc m (ns ++ snapD L ag h) G s') (e : h = s₁.heap) : Alike b (DD L ag) s₁ s' :=
  ⟨fun a hd o ho => H.N.get (List.mem_append_right _ (mem_snap hd (e ▸ ho))), H.F.keep, H.os, H.toks⟩

theorem call_gen {x : List Nat} {tx : Nat} {Q : Value → Shared → Prop} (hA : OkA 2 A) (H : Now w b Lc m ns G s)
    (h : ∀ L ag go gs G' s', GObj G.size go → Now w b Lc m ((ag, go) :: ns) G' s' → G'[G.size]? = some gs → (AllBare G → AllBare G') → GAt w A.in1 b L ag (escI false 0 x) (escI false 0 x).length gs s' →
      (∀ p ∈ (ag, go) :: ns, ¬ DD L ag p.1) → ¬ DD L ag Lc → (∀ a o, b.heap.get? a = some o → ¬ DD L ag a) → (∀ p ∈ ns, p.1 ≠ ag) → Q (.ref ag) s') : Wp w A (call (.ref 21) [.str (T x) tx]) Q s := by
  have hf : fnAt w 21 = some (fdAt w 21) := by kernel_rfl!
  obtain ⟨o, ho, hd⟩ := fnAt_get H.bs hf
  have hbind : bindArgs (fdAt w 21) ⟨[Value.str (T x) tx], []⟩ = pure [(("addr" : PySem.Str), Value.str (T x) tx)] := by kernel_rfl!
  have hG := H.gens
  refine wpAny_call (codeAny_call_generator hA.room ho hd (by kernel_rfl!) (by kernel_rfl!) (body := topBody 1) (by kernel_rfl!) (codeRec_of H.bs.k (by kernel_rfl!)) ?_)
  rw [hbind]
  refine wpAny_pure (wpAny_newFunctionEnv (fun x hx => ?_) (fun x hx => ?_) (fun h₀ hns₀ hsb₀ => ?_) (by kernel_rfl!))
  · have hc : ((fdAt w 21).scope.names.all fun x => x.2 != .cell) = true := by kernel_rfl!
    have := List.all_eq_true.mp hc x hx
    simpa using this
  · have hc : ([(("addr" : PySem.Str), Value.str (T []) 0)].all fun x => (fdAt w 21).scope.names.lookup x.1 == some .local) = true := by kernel_rfl!
    rw [List.mem_singleton.mp hx]
    simpa using hc
  · have old : ∀ a o, s.heap.get? a = some o → h₀.get? a = some o := fun a o e => hsb₀.extBut a o (Nat.ne_of_lt (Heap.lt_size e)) (Heap.get?_push_of_some _ e)
    rw [binds1] at hns₀
    have hz : h₀.objs.size = s.heap.objs.size + 1 := by rw [hsb₀.1, Heap.size_push]
    have hlim : h₀.NoLimit := H.bs.lim.keeps old
    refine ⟨hlim, ?_⟩
    have st : Step s { s with heap := h₀.push { cls := .type "generator", data := .fields #[.int s.gens.size 0, .str (fdAt w 21).name (s.toks + 1), .str (fdAt w 21).qualname (s.toks + 1 + 1)] }, toks := s.toks + 1 + 1 + 1 } :=
      ⟨fun a o e => Heap.get?_push_of_some _ (old a o e), rfl, rfl, by show s.toks ≤ s.toks + 1 + 1 + 1; omega⟩
    have hnone : s.heap.get? h₀.objs.size = none := by
      cases e : s.heap.get? h₀.objs.size with
      | none => rfl
      | some o' => exact absurd (Heap.lt_size (old _ _ e)) (Nat.lt_irrefl _)
    have H1 := H.add (l := h₀.objs.size) (Heap.get?_push_size _ rfl) hnone st
    have below : ∀ a o, s.heap.get? a = some o → ¬ DD s.heap.objs.size h₀.objs.size a := fun a o e hd => absurd (Heap.lt_size e) (Nat.not_lt.mpr hd.1)
    have hLL : s.heap.objs.size ≠ h₀.objs.size := by rw [hz]; exact (Nat.succ_ne_self _).symm
    have dnot : ¬ DD s.heap.objs.size h₀.objs.size h₀.objs.size := fun hd => hd.2 rfl
    refine h s.heap.objs.size h₀.objs.size _ (.fresh (.func (topBody 1) (gEnv w s.heap.objs.size))) (s.gens.push (.fresh (.func (topBody 1) (gEnv w s.heap.objs.size)))) _ ⟨rfl, ⟨_, _, by rw [hG]⟩, rfl⟩
      ⟨H1.B, H1.F, H1.N, H1.os, H1.toks, H1.pos, rfl⟩ ?_ ?_ ⟨rfl, fun s'' al hex => ⟨rfl, ?_⟩⟩ ?_ ?_ ?_ ?_
    · rw [← hG]; simp
    · intro hall
      rw [hG]
      exact hall.push rfl
    · refine gen_start (tx := tx) hA.handled ⟨H.B, ⟨?_, al.keep, ?_⟩, al.os, al.toks, H.pos⟩ hex hLL
      · obtain ⟨oL, es, ep, hoL, r⟩ := hns₀
        exact ⟨oL, es, ep, al.same _ ⟨Nat.le_refl _, hLL⟩ _ (Heap.get?_push_of_some _ hoL), r⟩
      · show b.heap.objs.size ≤ s.heap.objs.size
        have hF := H.F.above
        obtain ⟨oL, _, _, hoL, _⟩ := H.F.ns
        exact Nat.le_trans hF (Nat.le_of_lt (Heap.lt_size hoL))
    · intro p hp
      rcases List.mem_cons.mp hp with rfl | hp
      · exact dnot
      · exact below _ _ (H.N p hp).1
    · obtain ⟨oL, _, _, hoL, _⟩ := H.F.ns
      exact below _ _ hoL
    · exact fun a o e => below _ _ (H.F.keep a o e)
    · intro p hp e
      exact absurd (H.N p hp).1 (by rw [e, hnone]; simp)
end
end

-- part G6
set_option maxRecDepth 100000
section
open Builtin.Str StrLaws PySem.Spec
theorem range_empty {a b : Int} (h : b ≤ a) : sliceRange a b 1 = [] := by
  unfold sliceRange
  simp only [show (1 : Int) > 0 by decide, if_true, if_neg (Int.not_lt.mpr h)]
  rfl
theorem clipN (a n : Nat) : max (0 : Int) (min (a : Int) (n : Int)) = ((min a n : Nat) : Int) := by
  rcases Nat.le_total a n with h | h
  · rw [Int.min_eq_left (Int.ofNat_le.mpr h), Nat.min_eq_left h]; exact Int.max_eq_right (Int.natCast_nonneg _)
  · rw [Int.min_eq_right (Int.ofNat_le.mpr h), Nat.min_eq_right h]; exact Int.max_eq_right (Int.natCast_nonneg _)
theorem cutRange (a b n : Nat) : strSliceIndices (some (a : Int)) (some (b : Int)) 1 n = sliceRange ((min a n : Nat) : Int) ((min b n : Nat) : Int) 1 := by
  unfold strSliceIndices
  simp only [show (1 : Int) > 0 by decide, if_true, if_neg (Int.not_lt.mpr (Int.natCast_nonneg a)), if_neg (Int.not_lt.mpr (Int.natCast_nonneg b)), clipN]
theorem slice_any {l : List Nat} {a b : Nat} : Txt.slice (T l) (some (a : Int)) (some (b : Int)) = T (cut a b l) := by
  have e2 : Txt.slice (T l) (some (a : Int)) (some (b : Int)) = Txt.slice (T l) (some ((min a l.length : Nat) : Int)) (some ((max (min a l.length) (min b l.length) : Nat) : Int)) := by
    have ha : min (min a l.length) l.length = min a l.length := Nat.min_eq_left (Nat.min_le_right ..)
    have hb : min (max (min a l.length) (min b l.length)) l.length = max (min a l.length) (min b l.length) := Nat.min_eq_left (Nat.max_le.mpr ⟨Nat.min_le_right .., Nat.min_le_right ..⟩)
    unfold Txt.slice
    rw [T_len, cutRange, cutRange, ha, hb]
    by_cases h : min a l.length ≤ min b l.length
    · rw [Nat.max_eq_right h]
    · have h := Nat.le_of_not_le h
      rw [Nat.max_eq_left h, range_empty (Int.ofNat_le.mpr h), range_empty (Int.le_refl _)]
  rw [e2, slice_ss (Nat.le_max_left ..) (Nat.max_le.mpr ⟨Nat.min_le_right .., Nat.min_le_right ..⟩)]
  congr 1
  unfold cut
  by_cases h : a ≤ l.length
  · rw [Nat.min_eq_left h]
    by_cases hb : b ≤ l.length
    · rw [Nat.min_eq_left hb]
      congr 1
      rcases Nat.le_total a b with e | e
      · rw [Nat.max_eq_right e]
      · rw [Nat.max_eq_left e, Nat.sub_self, Nat.sub_eq_zero_of_le e]
    · have hb := Nat.le_of_not_le hb
      rw [Nat.min_eq_right hb, Nat.max_eq_right h, List.take_of_length_le (Nat.le_of_eq List.length_drop), List.take_of_length_le (by rw [List.length_drop]; exact Nat.sub_le_sub_right hb a)]
  · have h := Nat.le_of_not_le h
    rw [Nat.min_eq_right h, List.drop_of_length_le (Nat.le_refl _), List.drop_of_length_le h]; simp
section
variable {w : World} {A : Around} {b s s' : Shared} {m : PySem.Str → Option Value} {ns : List (Addr × Obj)} {G : Array GenState} {env : Env} {L l ag : Addr} {o go : Obj} {g : Nat}
theorem cut_any {l : List Nat} {i j : Int} {ti tj : Tok} {a c : Nat} {Q : Value → Shared → Prop} (H : Now w b L m ns G s) (hi : i = (a : Int)) (hj : j = (c : Int)) (hl : l.length ≤ 1000000)
    (h : ∀ (t : Nat) s', Now w b L m ns G s' → s.toks ≤ s'.toks → Q (.str (T (cut a c l)) t) s') :
    ∃ lp up, Value.int i ti = partValue lp ∧ Value.int j tj = partValue up ∧ Cut w A (T l) (lp.map (·.1)) (up.map (·.1)) Q s :=
  ⟨some (i, ti), some (j, tj), rfl, rfl, by rw [T_len]; exact hl, fun t s' st => by
    subst hi hj
    show Q (.str (Txt.slice (T l) (some (a : Int)) (some (c : Int))) t) s'
    rw [slice_any]; exact h t s' (H.step st) st.toks⟩
theorem Now.endA (H : Now w b L m ns G s) (hg : AllBare b.gens → AllBare G) : Aft b s := ⟨H.F.keep, H.os, H.toks, fun h => by rw [H.gens]; exact hg h⟩
theorem go_gen {elts : List Expr} {x1 : Nat} {pos : Pos} {tp : Addr} {Q : Unit → Shared → Prop} (ho : s.heap.get? ag = some go) (hg : GObj g go) (h : Q () s) : Wp w A (letOwnedTupleGo (.Tuple elts x1 pos) (.ref ag) (.ref tp)) Q s := by
  obtain ⟨hc, ⟨nm, qn, hd⟩, _⟩ := hg
  unfold letOwnedTupleGo
  refine wpAny_bind (wpAny_load ho ?_)
  rw [hc, hd]
  show wpAny _ A (if (["enumerate", "zip", "dict_itemiterator", "dict_reverseitemiterator", "odict_iterator", "itertools.zip_longest", "itertools.pairwise"].contains "generator" &&
      (#[.int g 0, nm, qn] : Array Value)[0]? == some (rawInt tp)) = true then _ else _) Q _ s
  rw [if_neg (by
    intro h
    rw [show (["enumerate", "zip", "dict_itemiterator", "dict_reverseitemiterator", "odict_iterator", "itertools.zip_longest", "itertools.pairwise"].contains "generator") = false from by decide, Bool.false_and] at h
    cases h)]
  exact wpAny_pure h
theorem head_tuple {elts : List Expr} {x1 : Nat} {pos : Pos} {body rest : List Stmt} {Q : Flow → Shared → Prop} {tp : Addr} {I : Nat → Shared → Prop} {k : Nat} (ho : s.heap.get? ag = some go) (hg : GObj g go)
    (h : Wp w A (assign (.Tuple elts x1 pos) env (.ref tp)) (fun _ s₃ => Wp w A (execs body env) (loopEnd I k w A rest env Q) s₃) s) : Head w A (.Tuple elts x1 pos) body rest env Q (.ref ag) I k (some (.ref tp)) s :=
  go_gen ho hg h
noncomputable def optV (t : Nat) : Option Nat → Value | none => .none | some o => .int (o : Int) t
theorem r_isNone {t : Nat} {op : Option Nat} {Q : Value → Shared → Prop} (h : Q (.bool op.isNone) s) : Wp w A (compareOp .Is (optV t op) .none) Q s := by
  cases op with
  | none => exact wpAny_is_self (by rfl) h
  | some o => exact is_int_none h
end
end

-- part Wstrip
section
noncomputable def stripStep (x : List Nat) (st : Nat × Option Nat × List (List Nat)) (it : Nat × List Nat) : Nat × Option Nat × List (List Nat) :=
  if it.2 = [34] then (match st.2.1 with
    | none => (st.1, some it.1, st.2.2)
    | some o => (it.1 + 1, none, if st.1 ≠ o then st.2.2 ++ [cut st.1 o x] else st.2.2)) else st
noncomputable def stripEnd (x : List Nat) : Nat × Option Nat × List (List Nat) := (escI false 0 x).foldl (stripStep x) (0, none, [])
noncomputable def stripF (x : List Nat) : List Nat := if 34 ∈ x then (if (stripEnd x).1 < x.length then (stripEnd x).2.2 ++ [x.drop (stripEnd x).1] else (stripEnd x).2.2).flatten else x
theorem escI_len : ∀ (l : List Nat) (e : Bool) (i : Nat), (escI e i l).length ≤ l.length + 1
  | [], true, _ => by simp [escI]
  | [], false, _ => by simp [escI]
  | c :: r, true, i => by have := escI_len r false (i + 1); simp [escI]; omega
  | c :: r, false, i => by
    have h1 := escI_len r true (i + 1)
    have h2 := escI_len r false (i + 1)
    simp only [escI]
    split <;> simp <;> omega
inductive StripI (w : World) (A : Around) (s : Shared) (L a ag Lg : Addr) (go : Obj) (x : List Nat) (all : List (Nat × List Nat)) (k : Nat) (s4 : Shared) : Prop
  | mk (m : PySem.Str → Option Value) (gs : GenState) (G' : Array GenState) (s₁ : Shared) (st1 : Nat) (op : Option Nat) (res : List (List Nat)) (o : Obj) (t0 t1 t2 : Nat) (iv : Int) (h0 : Now w s (callEnv (fdAt w 28) L 28).locals m [(a, o), (ag, go)] G' s4) (h1 : G'[s.gens.size]? = some gs) (h2 : (AllBare s.gens → AllBare G')) (h3 : GAt w A.in1 s Lg ag all k gs s₁) (h4 : Alike s (DD Lg ag) s₁ s4) (h5 : m "addr" = some (.str (T x) t0)) (h6 : m "start" = some (.int iv t1)) (h7 : iv = (st1 : Int)) (h8 : m "open_pos" = some (optV t2 op)) (h9 : m "result" = some (.ref a)) (h10 : TLo res o) (h11 : k ≤ all.length) (h12 : (all.drop (all.length - k)).foldl (stripStep x) (st1, op, res) = stripEnd x) (h13 : res.length ≤ all.length - k) (h14 : wl res ≤ 600 * (all.length - k)) : StripI w A s L a ag Lg go x all k s4
set_option maxHeartbeats 1000000
theorem c_strip {w : World} {A : Around} {s : Shared} {x : List Nat} {t : Tok} {Q : Value → Shared → Prop} (B : Bs w s.heap) (hp : 0 < s.toks) (hA : OkA 4 A) (hx : x.length ≤ 600)
    (h : ∀ (t : Nat) s', Aft s s' → Q (.str (T (stripF x)) t) s') : Wp w A (call (.ref 28) [.str (T x) t]) Q s := by
  have ar_wl : ∀ {n k a b : Nat}, k + 1 ≤ n → a ≤ 600 * (n - (k + 1)) → b ≤ a + 600 → b ≤ 600 * (n - k) := fun {n k a b} hk h hb => by rw [← ar_back hk, Nat.mul_succ]; exact Nat.le_trans hb (Nat.add_le_add_right h 600)
  refine call_fn (fd := fdAt w 28) (body := topBody 2) (binds := [("addr", .str (T x) t)]) B hp hA (by kernel_rfl!) (by kernel_rfl!) (by kernel_rfl!) (by kernel_rfl!) (by kernel_rfl!) (by kernel_rfl!) (by kernel_rfl!) (by kernel_rfl!) (by kernel_rfl!) binds1 fun A L s' H hA => ?_
  refine r_if ?_
  keq_hits
  by_cases hq : 34 ∈ x
  · rw [if_neg (by simpa using hq)]
    keq_hits
    rename_i a s1 H1 _ _ s2 _ _
    refine r_for (by intro _; kernel_rfl!) ?_
    refine r_call1 (a := 21) (by tb_rel) (by kernel_rfl!) (by kernel_rfl!) (by kernel_rfl!) (by kernel_rfl!) (by kernel_rfl!) (by kernel_rfl!) (by kernel_rfl!) ?_
    keq_hits
    refine cur (by tb_rel) fun Hz => ?_
    refine ⟨Hz.bs, call_gen (hA.mono (by omega)) Hz fun Lg ag go gs0 G0 s3 hgo H3 hgs0 hbare0 X0 hns hLc hb0 hag => ?_⟩
    refine wpAny_pyIter_gen (a := ag) (g := s.gens.size) (let ⟨hc, ⟨nm, qn, hd⟩, hsl⟩ := hgo; ⟨go, nm, qn, H3.get List.mem_cons_self, hc, hd, hsl⟩) ?_
    have hxM : x.length ≤ 1000000 := Nat.le_trans hx (by decide)
    have haag : a ≠ ag := hag (a, _) List.mem_cons_self
    have hel := Nat.le_trans (escI_len x false 0) (Nat.succ_le_succ hx)
    generalize hall : escI false 0 x = all at X0 hel
    refine ⟨StripI w A s L a ag Lg go x all, all.length,
      ⟨_, gs0, G0, s3, 0, none, [], _, _, _, 0, (0 : Int), H3.swap, hgs0, hbare0, X0, ⟨fun _ _ _ e => e, H3.F.keep, H3.os, H3.toks⟩, by tb_start, by tb_start, rfl, by show _ = some Value.none; tb_start, by tb_start, tlo_nil, Nat.le_refl _, by rw [Nat.sub_self, List.drop_zero, ← hall]; rfl, by simp, by simp [wl]⟩, ?_⟩
    rintro k s4 ⟨m, gs, G', s₁, st1, op, res, o, t0, t1, t2, iv, H4, hgs, hbare, X, al, hm0, hm1, hiv, hm2, hm3, XT, hk, he, hrl, hwl⟩
    have hna : ∀ p ∈ [(a, o), (ag, go)], ¬ DD Lg ag p.1 := by
      simp only [List.forall_mem_cons]
      exact ⟨hns (a, _) (by ktn_open), hns _ List.mem_cons_self, fun _ h => nomatch h⟩
    refine next_gen (hA.mono (by omega)) H4 hna hLc hb0 (by ktn_open) hgo hgs X al ?_ ?_
    · intro p y k' hkk hidx tp tt tu gs' G2 s5 hT H5 hgs2 hbare2 X2
      subst hkk
      have hlt : all.length - (k' + 1) < all.length := by omega
      have hdrop : all.drop (all.length - (k' + 1)) = (p, y) :: all.drop (all.length - k') := by
        rw [List.drop_eq_getElem_cons hlt]
        rw [List.getElem?_eq_getElem hlt] at hidx
        rw [Option.some.inj hidx, ar_back hk]
      rw [hdrop, List.foldl_cons] at he
      refine head_tuple (H5.get (by ktn_open)) hgo ?_
      refine cur (H5.snap hLc hb0) fun H6 => ?_
      refine r_assign2 hA.handled H6 hT (by kernel_rfl!) (by kernel_rfl!) (by kernel_rfl!) fun s7 H7 a7 => ?_
      have hcl : ∀ a b : Nat, (cut a b x).length ≤ 600 := fun a b => Nat.le_trans (cut_len a b x) hx
      have close : ∀ (m' : PySem.Str → Option Value) (st1' : Nat) (op' : Option Nat) (res' : List (List Nat)) (o' : Obj) (t0' t1' t2' : Nat) (iv' : Int) (s9 : Shared), Now w s (callEnv (fdAt w 28) L 28).locals m' ([(a, o'), (ag, go)] ++ snapD Lg ag s5.heap) G2 s9 →
          m' "addr" = some (.str (T x) t0') → m' "start" = some (.int iv' t1') → iv' = (st1' : Int) → m' "open_pos" = some (optV t2' op') → m' "result" = some (.ref a) → TLo res' o' → stripStep x (st1, op, res) (p, y) = (st1', op', res') → res'.length ≤ res.length + 1 → wl res' ≤ wl res + 600 →
          ∃ j, j < k' + 1 ∧ StripI w A s L a ag Lg go x all j s9 := fun m' st1' op' res' o' t0' t1' t2' iv' s9 H9 g0 g1 g2 g3 g4 X9 hst hl9 hw9 => by
        rw [hst] at he
        exact ⟨k', Nat.lt_succ_self _, m', gs', G2, s5, st1', op', res', o', t0', t1', t2', iv', H9.drop fun p hp => List.mem_append_left _ hp, hgs2, fun hb => hbare2 (hbare hb), X2, H9.alike rfl, g0, g1, g2, g3, g4, X9, Nat.le_trans (Nat.le_succ _) hk, he, by rw [← ar_back hk]; exact Nat.le_trans hl9 (Nat.succ_le_succ hrl), ar_wl hk hwl hw9⟩
      have hcl2 : ∀ p ∈ (ag, go) :: snapD Lg ag s5.heap, p.1 ≠ a := fun p hp => by
        rcases List.mem_cons.mp hp with rfl | hp
        · exact haag.symm
        · intro e
          exact hna (a, o) List.mem_cons_self (e ▸ (of_snap hp).1)
      refine r_if ?_
      keq_hits
      by_cases hy : y = [34]
      · rw [if_pos (decide_eq_true hy)]
        cases op with
        | none =>
          have hm2 : m "open_pos" = some Value.none := hm2
          keq_hits
          refine wpAny_is_self (by rfl) ?_
          keq_hits
          rw [if_pos rfl]
          keq_hits
          exact loopEnd_next (close _ st1 (some p) res o _ _ tt iv _ (by tb_rel) (by tb_start) (by tb_start) hiv (by show _ = some (Value.int (p : Int) tt); tb_start) (by tb_start) XT (by unfold stripStep; rw [if_pos hy]) (Nat.le_succ _) (Nat.le_add_right _ _))
        | some q =>
          have hm2 : m "open_pos" = some (Value.int (q : Int) t2) := hm2
          keq_hits
          refine is_int_none ?_
          keq_hits
          rw [if_neg Bool.false_ne_true]
          refine r_fork (fun s' => ∃ o', Now w s (callEnv (fdAt w 28) L 28).locals (upd (upd m "pos" (.int ((p : Nat) : Int) tt)) "ch" (.str (T y) tu)) ([(a, o'), (ag, go)] ++ snapD Lg ag s5.heap) G2 s' ∧ TLo (if st1 ≠ q then res ++ [cut st1 q x] else res) o') ?_ ?_
          · rintro s9 ⟨o9, H9, X9⟩
            keq_hits
            refine loopEnd_next (close _ (p + 1) none _ o9 _ _ 0 ((p : Int) + 1) _ (by tb_rel) (by tb_start) (by tb_start) rfl (by show _ = some Value.none; tb_start) (by tb_start) X9 (by unfold stripStep; rw [if_pos hy]) ?_ ?_)
            · split <;> simp
            · split
              · rw [wl_snoc]; have := hcl st1 q; omega
              · omega
          · keq_hits
            by_cases hne : iv = (q : Int)
            · rw [if_neg (by simp [hne])]
              keq_hits
              refine cur (by tb_rel) fun H9 => ⟨rfl, o, H9, ?_⟩
              rw [if_neg (by omega)]; exact XT
            · rw [if_pos (by simp [hne])]
              keq_hits
              refine ⟨⟨_, Now.tl (by tb_rel) (List.mem_append_left _ List.mem_cons_self) XT⟩, ?_⟩
              keq_hits
              refine cut_any (a := st1) (c := q) (by tb_rel) hiv rfl hxM fun t9 s9 H9 a9 => ?_
              refine r_appendT H9 XT hcl2 (by omega) fun o10 s10 H10 X10 a10 => ?_
              refine r_nil ⟨rfl, o10, H10, ?_⟩
              rw [if_pos (by omega)]; exact X10
      · rw [if_neg (by simpa using hy)]
        keq_hits
        exact loopEnd_next (close _ st1 op res o _ _ _ iv _ (by tb_rel) (by tb_start) (by tb_start) hiv (by tb_start) (by tb_start) XT (by unfold stripStep; rw [if_neg hy]) (Nat.le_succ _) (Nat.le_add_right _ _))
    · intro hk0 G2 s5 H5 hbare2
      subst hk0
      rw [Nat.sub_zero, List.drop_length] at he
      have he : (st1, op, res) = stripEnd x := he
      refine head_none ?_
      have hag2 : ∀ p ∈ [(ag, go)], p.1 ≠ a := by simp only [List.forall_mem_cons]; exact ⟨haag.symm, fun _ h => nomatch h⟩
      have hal := hel
      have hrM : res.length ≤ 1000000 := Nat.le_trans hrl (Nat.le_trans hal (by decide))
      have hds : (x.drop st1).length ≤ 600 := by rw [List.length_drop]; omega
      have fin : ∀ (res' : List (List Nat)) (o' : Obj) (m' : PySem.Str → Option Value) (s9 : Shared), Now w s (callEnv (fdAt w 28) L 28).locals m' [(a, o'), (ag, go)] G2 s9 → TLo res' o' → m' "result" = some (.ref a) → stripF x = res'.flatten → wl res' ≤ 600 * 602 →
          Now w s (callEnv (fdAt w 28) L 28).locals m' [(a, o'), (ag, go)] G2 s9 ∧ TLo res' o' ∧ m' "result" = some (.ref a) ∧ (res'.map List.length).sum ≤ 1000000 ∧ stripF x = res'.flatten := fun res' o' m' s9 H9 X9 g1 g2 g3 => ⟨H9, X9, g1, by unfold wl at g3; omega, g2⟩
      refine r_fork (fun s9 => ∃ (res' : List (List Nat)) (o' : Obj) (m' : PySem.Str → Option Value), Now w s (callEnv (fdAt w 28) L 28).locals m' [(a, o'), (ag, go)] G2 s9 ∧ TLo res' o' ∧ m' "result" = some (.ref a) ∧ (res'.map List.length).sum ≤ 1000000 ∧ stripF x = res'.flatten) ?_ ?_
      · rintro s9 ⟨res', o', m', H9, X9, g1, g2, g3⟩
        keq_hits
        rw [g3] at h
        exact h _ _ (Now.endA (by tb_rel) fun hb => hbare2 (hbare hb))
      · keq_hits
        have e1 : (stripEnd x).1 = st1 := by rw [← he]
        have e2 : (stripEnd x).2.2 = res := by rw [← he]
        by_cases hlt : iv < (x.length : Int)
        · rw [if_pos (decide_eq_true hlt)]
          keq_hits
          refine ⟨⟨_, by ktr_unf⟩, ?_⟩
          keq_hits
          refine cut_sn' (a := st1) (by tb_rel) hiv hxM fun t9 s9 H9 a9 => ?_
          refine r_appendT H9 XT hag2 hrM fun o10 s10 H10 X10 a10 => ?_
          refine r_nil ⟨rfl, _, _, _, fin _ _ _ _ H10 X10 hm3 ?_ ?_⟩
          · unfold stripF; rw [if_pos hq, e1, e2, if_pos (by omega)]
          · rw [wl_snoc]; exact Nat.le_trans (Nat.add_le_add (Nat.le_trans hwl (Nat.mul_le_mul_left 600 hal)) hds) (by decide)
        · rw [if_neg (by simpa using hlt)]
          keq_hits
          refine cur (by tb_rel) fun H9 => ⟨rfl, _, _, _, fin _ _ _ _ H9 XT hm3 ?_ ?_⟩
          · unfold stripF; rw [if_pos hq, e1, e2, if_neg (by omega)]
          · exact Nat.le_trans hwl (Nat.le_trans (Nat.mul_le_mul_left 600 hal) (by decide))
  · rw [if_pos (by simpa using hq)]
    keq_hits
    have e : stripF x = x := by unfold stripF; rw [if_neg hq]
    rw [e] at h
    exact h _ _ (Now.end (by tb_rel)).aft
end

-- part Wcheck
section
noncomputable def checkGo : List (Nat × List Nat) → Int → Bool
  | [], o => decide (o = 0)
  | (_, y) :: r, o => if y = [40] then checkGo r (o + 1) else if y = [41] then (if o - 1 < 0 then false else checkGo r (o - 1)) else checkGo r o
noncomputable def checkF (x : List Nat) : Bool := checkGo (escI false 0 (stripF x)) 0
inductive CheckI (w : World) (A : Around) (s : Shared) (L ag Lg : Addr) (go : Obj) (g : Nat) (all : List (Nat × List Nat)) (fin : Bool) (k : Nat) (s4 : Shared) : Prop
  | mk (m : PySem.Str → Option Value) (gs : GenState) (G' : Array GenState) (s₁ : Shared) (o : Int) (t1 : Nat) (h0 : Now w s (callEnv (fdAt w 35) L 35).locals m [(ag, go)] G' s4) (h1 : G'[g]? = some gs) (h2 : (AllBare s.gens → AllBare G')) (h3 : GAt w A.in1 s Lg ag all k gs s₁) (h4 : Alike s (DD Lg ag) s₁ s4) (h5 : m "opens" = some (.int o t1)) (h6 : k ≤ all.length) (h7 : checkGo (all.drop (all.length - k)) o = fin) : CheckI w A s L ag Lg go g all fin k s4
set_option maxHeartbeats 1000000
theorem c_check {w : World} {A : Around} {s : Shared} {x : List Nat} {t : Tok} {Q : Value → Shared → Prop} (B : Bs w s.heap) (hp : 0 < s.toks) (hA : OkA 5 A) (hx : x.length ≤ 600)
    (h : ∀ s', Aft s s' → Q (.bool (checkF x)) s') : Wp w A (call (.ref 35) [.str (T x) t]) Q s := by
  refine call_fn (fd := fdAt w 35) (body := topBody 3) (binds := [("addr", .str (T x) t)]) B hp hA (by kernel_rfl!) (by kernel_rfl!) (by kernel_rfl!) (by kernel_rfl!) (by kernel_rfl!) (by kernel_rfl!) (by kernel_rfl!) (by kernel_rfl!) (by kernel_rfl!) binds1 fun A L s' H hA => ?_
  refine r_assign ?_ (by kernel_rfl!)
  refine r_call1 (a := 28) (by tb_rel) (by kernel_rfl!) (by kernel_rfl!) (by kernel_rfl!) (by kernel_rfl!) (by kernel_rfl!) (by kernel_rfl!) (by kernel_rfl!) ?_
  keq_hits
  refine ⟨H.bs, c_strip H.bs H.spos hA hx fun t1 s1 af1 => ?_⟩
  refine cur (H.aft af1) fun H1 => ?_
  have hbare1 : AllBare s.gens → AllBare s1.gens := fun hb => af1.gens (by rw [H.gens]; exact hb)
  keq_hits
  refine r_for (by intro _; kernel_rfl!) ?_
  refine r_call1 (a := 21) (by tb_rel) (by kernel_rfl!) (by kernel_rfl!) (by kernel_rfl!) (by kernel_rfl!) (by kernel_rfl!) (by kernel_rfl!) (by kernel_rfl!) ?_
  keq_hits
  refine cur (by tb_rel) fun Hz => ?_
  refine ⟨Hz.bs, call_gen (hA.mono (by omega)) Hz fun Lg ag go gs0 G0 s3 hgo H3 hgs0 hbare0 X0 hns hLc hb0 hag => ?_⟩
  refine wpAny_pyIter_gen (a := ag) (g := s1.gens.size) (let ⟨hc, ⟨nm, qn, hd⟩, hsl⟩ := hgo; ⟨go, nm, qn, H3.get List.mem_cons_self, hc, hd, hsl⟩) ?_
  have hfin : checkF x = checkGo (escI false 0 (stripF x)) 0 := rfl
  rw [hfin] at h
  generalize escI false 0 (stripF x) = all at X0 h
  refine ⟨CheckI w A s L ag Lg go s1.gens.size all (checkGo all 0), all.length, ⟨_, gs0, G0, s3, 0, _, H3, hgs0, fun hb => hbare0 (hbare1 hb), X0, ⟨fun _ _ _ e => e, H3.F.keep, H3.os, H3.toks⟩, by tb_start, Nat.le_refl _, by rw [Nat.sub_self, List.drop_zero]⟩, ?_⟩
  rintro k s4 ⟨m, gs, G', s₁, o, t1, H4, hgs, hbare, X, al, hm1, hk, he⟩
  refine next_gen (hA.mono (by omega)) H4 hns hLc hb0 List.mem_cons_self hgo hgs X al ?_ ?_
  · intro p y k' hkk hidx tp tt tu gs' G2 s5 hT H5 hgs2 hbare2 X2
    subst hkk
    have hlt : all.length - (k' + 1) < all.length := by omega
    have hdrop : all.drop (all.length - (k' + 1)) = (p, y) :: all.drop (all.length - k') := by
      rw [List.drop_eq_getElem_cons hlt]
      rw [List.getElem?_eq_getElem hlt] at hidx
      rw [Option.some.inj hidx, ar_back hk]
    rw [hdrop, checkGo] at he
    refine head_tuple (H5.get List.mem_cons_self) hgo ?_
    refine cur (H5.snap hLc hb0) fun H6 => ?_
    refine r_assign2 hA.handled H6 hT (by kernel_rfl!) (by kernel_rfl!) (by kernel_rfl!) fun s7 H7 a7 => ?_
    have close : ∀ (m' : PySem.Str → Option Value) (o' : Int) (t1' : Nat) (s9 : Shared), Now w s (callEnv (fdAt w 35) L 35).locals m' ([(ag, go)] ++ snapD Lg ag s5.heap) G2 s9 → m' "opens" = some (.int o' t1') → checkGo (all.drop (all.length - k')) o' = checkGo all 0 →
        ∃ j, j < k' + 1 ∧ CheckI w A s L ag Lg go s1.gens.size all (checkGo all 0) j s9 := fun m' o' t1' s9 H9 g1 g2 =>
      ⟨k', Nat.lt_succ_self _, m', gs', G2, s5, o', t1', H9.drop fun p hp => List.mem_append_left _ hp, hgs2, fun hb => hbare2 (hbare hb), X2, H9.alike rfl, g1, Nat.le_trans (Nat.le_succ _) hk, g2⟩
    refine r_if ?_
    keq_hits
    by_cases h1 : y = [40]
    · rw [if_pos (decide_eq_true h1)]
      rw [if_pos h1] at he
      keq_hits
      exact loopEnd_next (close _ (o + 1) _ _ (by tb_rel) (by tb_start) he)
    · rw [if_neg (by simpa using h1)]
      rw [if_neg h1] at he
      keq_hits
      by_cases h2 : y = [41]
      · rw [if_pos (decide_eq_true h2)]
        rw [if_pos h2] at he
        keq_hits
        by_cases h3 : o - 1 < 0
        · rw [if_pos (decide_eq_true h3)]
          rw [if_pos h3] at he
          keq_hits
          rw [← he] at h
          exact h _ (Now.endA (by tb_rel) fun hb => hbare2 (hbare hb))
        · rw [if_neg (by simpa using h3)]
          rw [if_neg h3] at he
          keq_hits
          exact loopEnd_next (close _ (o - 1) _ _ (by tb_rel) (by tb_start) he)
      · rw [if_neg (by simpa using h2)]
        rw [if_neg h2] at he
        keq_hits
        exact loopEnd_next (close _ o _ _ (by tb_rel) (by tb_start) he)
  · intro hk0 G2 s5 H5 hbare2
    subst hk0
    rw [Nat.sub_zero, List.drop_length, checkGo] at he
    refine head_none ?_
    keq_hits
    rw [he]
    exact h _ (Now.endA (by tb_rel) fun hb => hbare2 (hbare hb))
end

-- part Wpre
section
noncomputable def emp : List Nat := [40, 39, 39, 44, 32, 39, 39, 41]
noncomputable def preOne (v : List Nat) : List Nat := if checkF v = true then v else emp
inductive PreI (w : World) (s : Shared) (L a it lw : Addr) (ls : List (List Nat)) (k : Nat) (s4 : Shared) : Prop
  | mk (m : PySem.Str → Option Value) (i : Nat) (G' : Array GenState) (oit o : Obj) (h0 : Now w s (callEnv (fdAt w 42) L 42).locals m [(a, o), (it, oit)] G' s4) (h1 : (AllBare s.gens → AllBare G')) (h2 : LIt lw i oit) (h3 : m "accepted_values" = some (.ref a)) (h4 : TLo ((ls.take i).map preOne) o) (h5 : i + k = ls.length) : PreI w s L a it lw ls k s4
set_option maxHeartbeats 1000000
theorem c_pre {w : World} {A : Around} {s : Shared} {ls : List (List Nat)} {lw : Addr} {Q : Value → Shared → Prop} (B : Bs w s.heap) (hp : 0 < s.toks) (hA : OkA 6 A) (XL : TL s.heap lw ls) (hx : ∀ v ∈ ls, v.length ≤ 600) (hn : ls.length ≤ 100)
    (h : ∀ l o s', Aft s s' → s'.heap.get? l = some o → s.heap.get? l = none → TLo (ls.map preOne) o → Q (.ref l) s') : Wp w A (call (.ref 42) [.ref lw]) Q s := by
  refine call_fn (fd := fdAt w 42) (body := topBody 4) (binds := [("email_header_fields", .ref lw)]) B hp hA (by kernel_rfl!) (by kernel_rfl!) (by kernel_rfl!) (by kernel_rfl!) (by kernel_rfl!) (by kernel_rfl!) (by kernel_rfl!) (by kernel_rfl!) (by kernel_rfl!) binds1 fun A L s' H hA => ?_
  obtain ⟨vs, hl, hvs⟩ := XL.list
  have hvl := TLo.len hvs
  refine r_assign ?_ (by kernel_rfl!)
  keq_hits
  rename_i a s1 H1 _ _ s2 _ _
  refine r_for (by intro _; kernel_rfl!) ?_
  keq_hits
  refine cur (by tb_rel) fun Hz => ?_
  refine iter_list Hz (hl.at fun o e => Hz.F.keep _ _ e) fun it oit s3 hit H3 a3 hne hne2 => ?_
  have hait : a ≠ it := hne (a, _) (by ktn_open)
  refine ⟨PreI w s L a it lw ls, ls.length, ⟨_, 0, _, oit, _, H3.swap, id, hit, by tb_start, tlo_nil, by omega⟩, ?_⟩
  rintro k s4 ⟨m, i, G', oit, o, H4, hbare, hit4, hm, XT, hik⟩
  refine next_list hA.handled H4.swap hit4 (by simp only [List.forall_mem_cons]; exact ⟨hait, fun _ h => nomatch h⟩) (hl.at fun o e => H4.F.keep _ _ e) (fun v hv o9 s9 hit9 H9 a9 => ?_) (fun hv s9 H9 a9 => ?_)
  · have hi : i < ls.length := by
      rcases Nat.lt_or_ge i ls.length with h | h
      · exact h
      · rw [List.getElem?_eq_none (by omega)] at hv; cases hv
    obtain ⟨t9, ht9⟩ := hvs.at (j := i) (y := T ls[i]) (by simp [hi])
    rw [ht9] at hv
    cases hv
    have hv6 := hx _ (List.getElem_mem hi)
    have htake : (ls.take (i + 1)).map preOne = (ls.take i).map preOne ++ [preOne ls[i]] := by
      rw [List.take_succ_eq_append_getElem hi, List.map_append]; rfl
    refine head_name ?_
    refine r_store H9 (by kernel_rfl!) (by kernel_rfl!) fun s10 H10 a10 => ?_
    refine cur H10.swap fun H10b => ?_
    refine r_fork (fun s' => ∃ (m' : PySem.Str → Option Value) (G2 : Array GenState) (t : Nat), Now w s (callEnv (fdAt w 42) L 42).locals m' [(a, o), (it, o9)] G2 s' ∧ (AllBare s.gens → AllBare G2) ∧ m' "accepted_values" = some (.ref a) ∧ m' "v" = some (.str (T (preOne ls[i])) t)) ?_ ?_
    · rintro s10 ⟨m', G2, t, H10, hb10, g1, g2⟩
      keq_hits
      refine ⟨⟨_, by ktr_unf⟩, ?_⟩
      keq_hits
      refine r_appendT H10 XT (by simp only [List.forall_mem_cons]; exact ⟨hait.symm, fun _ h => nomatch h⟩) (by rw [List.length_map, List.length_take]; omega) fun o11 s11 H11 X11 a11 => ?_
      keq_hits
      rw [← htake] at X11
      exact loopEnd_next ⟨k - 1, by omega, m', i + 1, G2, o9, o11, H11, hb10, hit9, g1, X11, by omega⟩
    · refine r_not ?_
      refine r_truePlain (by kernel_rfl!) ?_
      refine cur (by tb_rel) fun H12 => ?_
      refine r_call1 (a := 35) H12 (by kernel_rfl!) (by kernel_rfl!) (by kernel_rfl!) (by kernel_rfl!) (by kernel_rfl!) (by kernel_rfl!) (by kernel_rfl!) ?_
      keq_hits
      refine ⟨H12.bs, c_check H12.bs H12.spos hA hv6 fun s13 af => ?_⟩
      refine cur (H12.aft af) fun H13 => ?_
      have hb13 : AllBare s.gens → AllBare s13.gens := fun hb => af.gens (by rw [H12.gens]; exact hbare hb)
      keq_hits
      by_cases hc : checkF ls[i] = true
      · have e1 : preOne ls[i] = ls[i] := by unfold preOne; rw [if_pos hc]
        rw [if_neg (by simp [hc]), e1]
        refine r_nil ⟨rfl, _, _, _, H13, hb13, by tb_start, by tb_start⟩
      · have e1 : preOne ls[i] = emp := by unfold preOne; rw [if_neg hc]
        rw [if_pos (by simpa using hc), e1]
        keq_hits
        have ee : emp = [40, 39, 39, 44, 32, 39, 39, 41] := rfl
        rw [ee]
        exact ⟨rfl, _, _, _, by tb_rel, hb13, by tb_start, by tb_start⟩
  · have hi : ls.length ≤ i := by
      rcases Nat.lt_or_ge i vs.length with h | h
      · rw [List.getElem?_eq_getElem h] at hv; cases hv
      · omega
    rw [List.take_of_length_le hi] at XT
    refine head_none ?_
    keq_hits
    refine cur (by tb_rel) fun Hz => ?_
    exact h _ _ _ (Hz.endA hbare) (Hz.get (by ktn_open)) (Hz.N.fresh (List.mem_cons_self)) XT
end

-- part L1
set_option maxRecDepth 100000
section
open Builtin.Str StrLaws PySem.Spec
noncomputable def snapL (fp : List Addr) (h : Heap) : List (Addr × Obj) := fp.filterMap fun a => (h.get? a).map fun o => (a, o)
theorem mem_snapL {fp : List Addr} {h : Heap} {a : Addr} {o : Obj} (hd : a ∈ fp) (ho : h.get? a = some o) : (a, o) ∈ snapL fp h := List.mem_filterMap.mpr ⟨a, hd, by rw [ho]; rfl⟩
theorem of_snapL {fp : List Addr} {h : Heap} {p : Addr × Obj} (hp : p ∈ snapL fp h) : p.1 ∈ fp ∧ h.get? p.1 = some p.2 := by
  obtain ⟨a, ha, e⟩ := List.mem_filterMap.mp hp
  cases ho : h.get? a with
  | none => rw [ho] at e; cases e
  | some o => rw [ho] at e; cases e; exact ⟨ha, ho⟩
theorem Tb.obj {w : World} {h h' : Heap} {d : Addr} {tb : List (Nat × List Nat)} (X : Tb w h d tb) (e : ∀ o, h.get? d = some o → h'.get? d = some o) : Tb w h' d tb := by
  obtain ⟨lo, kvs, ⟨o, es, ep, ho, r⟩, ht⟩ := X
  exact ⟨lo, kvs, ⟨o, es, ep, e _ ho, r⟩, ht⟩
section
variable {w : World} {A : Around} {b s s' s₁ : Shared} {m m' : PySem.Str → Option Value} {ns ns' : List (Addr × Obj)} {G G' : Array GenState} {env : Env} {L l : Addr} {o : Obj}
theorem Now.snapL {fp : List Addr} (H : Now w b L m ns G s) (hf : ∀ a ∈ fp, a ≠ L ∧ b.heap.get? a = none) : Now w b L m (ns ++ snapL fp s.heap) G s :=
  ⟨H.B, H.F, fun p hp => by
    rcases List.mem_append.mp hp with hp | hp
    · exact H.N p hp
    · have q := of_snapL hp
      exact ⟨q.2, hf _ q.1⟩, H.os, H.toks, H.pos, H.gens⟩
/-- a step of the walk that changes places of its own -/
theorem Now.hop {wr : List Addr} {h' : Heap} {tk : Nat} (H : Now w b L m ns G s) (hw : ∀ a ∈ wr, b.heap.get? a = none ∧ a ≠ L) (hn : ∀ p ∈ ns, p.1 ∉ wr) (hk : ∀ a o, a ∉ wr → s.heap.get? a = some o → h'.get? a = some o) (ht : s.toks ≤ tk) : Now w b L m ns G { s with heap := h', toks := tk } := by
  obtain ⟨oL, es, ep, hL, r⟩ := H.F.ns
  refine ⟨H.B, ⟨⟨oL, es, ep, hk _ _ (fun hm => (hw _ hm).2 rfl) hL, r⟩, fun c o e => hk _ _ (fun hm => ?_) (H.F.keep c o e), H.F.above⟩, fun p hp => ⟨hk _ _ (hn p hp) (H.N p hp).1, (H.N p hp).2⟩, H.os, Nat.le_trans H.toks ht, H.pos, H.gens⟩
  rw [(hw _ hm).1] at e; cases e

theorem r_compA {α β : Type} {elt iter : Expr} {x y : PySem.Str} {px py : Pos} {ifs : List Expr} {scope : Scope} {cl : List (PySem.Str × Addr)} {pos spos : Pos} {rest : List Stmt} {Q : Flow → Shared → Prop} (src : List α) (p : α → Bool) (f : α → β) (dec : Value → α) (enc : α → Value → Prop) (out : β → Value → Prop)
    (hdec : ∀ a v, enc a v → dec v = a) (H : Now w b env.locals m ns G s) (hsw : swapsWith (.ListComp elt [⟨.Name x px, iter, ifs, 0⟩] scope pos) (some (.Name y py)) spos.line env = pure true) (hclos : closureFor scope env = pure cl) (hcellB : (scope.names.all fun y => y.2 != .cell) = true) (hkind : scope.kind = .function)
    (hnamesB : (scope.names.all fun y => y.2 != .local || scope.names.lookup y.1 == some .local) = true) (hx : scope.names.lookup x = some .local) (hy : env.kindOf y = some .local) (hek : env.scope.kind = .function)
    (h : Wp w A (eval iter env) (fun xv s₁ => ∃ ns', Now w b env.locals m ns' G s₁ ∧ Source w A s₁ xv src enc ∧ src.length ≤ 1000000 ∧
      (∀ C s₃ m₃ a v, Kept s₁ s₃ → s₃.heap.Ns C m₃ → a ∈ src → enc a v → m₃ x = some v →
        Wp w A (forIn ifs true fun c r => if r = true then do let ok ← isTrue c (compEnvC scope cl C env) (eval c (compEnvC scope cl C env)); pure (ForInStep.yield ok) else pure (ForInStep.yield r)) (fun ok s₄ => ok = p a ∧ Step s₃ s₄) s₃) ∧
      (∀ C s₃ m₃ a v, Kept s₁ s₃ → s₃.heap.Ns C m₃ → a ∈ src → enc a v → m₃ x = some v → p a = true → Wp w A (eval elt (compEnvC scope cl C env)) (fun y s₄ => out (f a) y ∧ Step s₃ s₄) s₃) ∧
      (∀ l ys n s', Now w b env.locals (upd m y (.ref l)) ((l, listOf (List.toArray ys) n) :: ns') G s' → All2 out ((src.filter p).map f) ys → (∀ p ∈ ns', p.1 ≠ l) → Wp w A (execs rest env) Q s')) s)
    (hs : ∀ x, foldedSetIterable iter env x = pure x) : Wp w A (execs (.Assign [.Name y py] (.ListComp elt [⟨.Name x px, iter, ifs, 0⟩] scope pos) spos :: rest) env) Q s := by
  have hcell : ∀ y ∈ scope.names, y.2 ≠ .cell := fun y hy => by have := List.all_eq_true.mp hcellB y hy; simpa using this
  have hnames : ∀ y ∈ scope.names, y.2 = .local → scope.names.lookup y.1 = some .local := fun y hy hl => by
    have := List.all_eq_true.mp hnamesB y hy
    simp only [Bool.or_eq_true, bne_iff_ne, ne_eq, beq_iff_eq] at this
    exact this.resolve_left (fun h => h hl)
  refine r_cons ?_
  refine wpAny_with_toks (Nat.le_refl s.toks) (wpAny_mono (Q := fun f s' => s.toks ≤ s'.toks → thenDo w A rest env Q f s') ?_ (fun _ _ x => x) fun _ _ x => False.elim x)
  refine wpAny_Assign_ListComp_free (fun v => p (dec v)) (fun v y => out (f (dec v)) y) hsw hclos hcell hkind hnames hx hy (by rw [hek]; rfl) (wpAny_mono h (fun xv s₁ h₁ => ?_) fun _ _ e => e) hs
  obtain ⟨ns', H₁, S, hsz, ht, he, hq⟩ := h₁
  refine S _ fun o fp St W st hfp => ?_
  have e24 : (2 : Nat) ^ 24 = 16777216 := by decide
  have lt1 : ∀ b o', s₁.heap.get? b = some o' → b ∉ [s₁.heap.objs.size] := fun b o' e hm => by rw [List.mem_singleton.mp hm] at e; exact absurd (Heap.lt_size e) (Nat.lt_irrefl _)
  have grown : ∀ s₃ : Shared, (∀ b o', b ∉ [s₁.heap.objs.size] → (s₁.heap.push o).get? b = some o' → s₃.heap.get? b = some o') → Grown s₁.heap s₃.heap := fun s₃ hk b o' e => hk b o' (lt1 b o' e) (Heap.get?_push_of_some _ e)
  have hLs : env.locals ∉ [s₁.heap.objs.size] := by obtain ⟨oL, _, _, hoL, _⟩ := H₁.F.ns; exact lt1 _ _ hoL
  refine ⟨s₁.heap.objs.size, fp, [s₁.heap.objs.size], src.length, _, St, m, rfl, W, by unfold sizeLine; omega, st, ?_, hLs, H₁.F.ns.push o, ⟨?_, ?_⟩, ?_⟩
  · intro b hb
    show b < (s₁.heap.push o).objs.size
    rw [Heap.size_push]
    exact Nat.lt_succ_of_le (hfp b hb)
  · rintro C i v s₃ m₃ E' _ ⟨a, ha, hav⟩ hn hm hk htk
    refine wpAny_mono (ht C s₃ m₃ a v ⟨grown s₃ hk, htk⟩ hn (List.mem_of_getElem? ha) hav hm) (fun ok s₄ h₄ => ⟨?_, h₄.2.keeps⟩) fun _ _ x => False.elim x
    rw [hdec a v hav]; exact h₄.1
  · rintro C i v s₃ m₃ E' _ ⟨a, ha, hav⟩ hp hn hm hk htk
    have hd := hdec a v hav
    refine wpAny_mono (he C s₃ m₃ a v ⟨grown s₃ hk, htk⟩ hn (List.mem_of_getElem? ha) hav hm (by rw [← hd]; exact hp)) (fun y s₄ h₄ => ⟨?_, h₄.2.keeps⟩) fun _ _ x => False.elim x
    rw [hd]; exact h₄.1
  · intro D h' tk ys vs hD hl hpl hlen hP hF hn hk
    intro htk
    obtain ⟨n, hpl⟩ := hpl
    have keep : ∀ a o', a ≠ env.locals → s₁.heap.get? a = some o' → h'.get? a = some o' := fun a o' hne e => hk a o' hne (lt1 a o' e) (Heap.get?_push_of_some _ e)
    have hD1 : s₁.heap.get? D = none := by
      cases e : s₁.heap.get? D with
      | none => rfl
      | some o' =>
        have hD : (s₁.heap.push o).get? D = none := hD
        rw [Heap.get?_push_of_some _ e] at hD; cases hD
    have hbL : b.heap.get? env.locals = none := by
      cases e : b.heap.get? env.locals with
      | none => rfl
      | some o' => exact absurd (Heap.lt_size e) (Nat.not_lt.mpr H₁.F.above)
    have hbase : ∀ c o', b.heap.get? c = some o' → c ≠ env.locals := fun c o' e h => by rw [h, hbL] at e; cases e
    refine hq D ys.toList n _ ⟨H₁.B, ⟨hn, fun c o' e => keep c o' (hbase c o' e) (H₁.F.keep c o' e), H₁.F.above⟩, ?_, H₁.os, Nat.le_trans H.toks htk, H₁.pos, H₁.gens⟩ (paired_all2 p f dec enc out hdec (fun v y h => h) src vs ys.toList hlen hP hF) fun p hp e => by
      have := (H₁.N p hp).1
      rw [e, hD1] at this; cases this
    intro p hp
    rcases List.mem_cons.mp hp with rfl | hp
    · refine ⟨by simpa using hpl, fun e => ?_, ?_⟩
      · have e : D = env.locals := e
        obtain ⟨oL, _, _, hoL, _⟩ := H₁.F.ns
        rw [e, hoL] at hD1; cases hD1
      · cases e : b.heap.get? D with
        | none => rfl
        | some o' => rw [H₁.F.keep _ _ e] at hD1; cases hD1
    · exact ⟨keep _ _ (H₁.N p hp).2.1 (H₁.N p hp).1, (H₁.N p hp).2⟩
end
end

-- part Wturn
section
noncomputable def oddOne (n : List Nat) : Bool := has2 92 34 (rep2 92 92 [] (n ++ [34]))
noncomputable def oddF (P : List (List Nat)) : List (List Nat) := (evens (P.drop 1)).filter oddOne
/-- what the law asks of one writing -/
structure OneOK (P : List (List Nat)) (line : List Nat) (tb : List (Nat × List Nat)) (t : List Nat) : Prop where
  eq : t = signsF tb line
  rd : (tb.lookup 34).isSome = false → readF t = joinedF tb P
  lf : (tb.lookup 34).isSome = false → decide (stripF t = (evens (readF t)).flatten) = decide (oddF P = [])
  out : ((tb.lookup 34).isSome = true ∨ oddF P ≠ []) → stripF t = outside t
  len : t.length ≤ 600
  lk : ∀ c, (look tb c).length ≤ 10
  wt : wt tb P ≤ 100000
  sl : (stripF t).length ≤ 10000
noncomputable def dueOne (t : List Nat) : List Nat := if closedF (stripF t) = true then t else emp
structure LK (m m' : PySem.Str → Option Value) : Prop where
  line : m' "line" = m "line"
  odd : m' "odd" = m "odd"
  due : m' "due" = m "due"
  written : m' "written" = m "written"
  table : m' "table" = m "table"
  text : m' "text" = m "text"
noncomputable def lFor : Stmt := match (topBody 22).drop 6 with | x :: _ => x | [] => .Pass default
noncomputable def lTarget : Expr := match lFor with | .For t _ _ _ _ => t | _ => .Name "x" default
noncomputable def lBody : List Stmt := match lFor with | .For _ _ b _ _ => b | _ => []
noncomputable abbrev lEnv (w : World) (L : Addr) : Env := callEnvC (fdAt w 150) L 150
theorem OkA.u {k : Nat} {A : Around} (h : OkA k A) : OkA k A := h
theorem readF_sum : ∀ (n : Nat) (l : List Nat), l.length ≤ n → wl (readF l) ≤ l.length := by
  intro n
  induction n with
  | zero =>
    intro l hl
    have : l = [] := List.length_eq_zero_iff.mp (by omega)
    subst this
    rw [readF, dif_neg (by simp)]; simp [wl]
  | succ n ih =>
    intro l hl
    rw [readF]
    split
    · rename_i h
      have hp := place_lt h
      have h1 := pq_len _ (l.drop (place l + 1)) (Nat.le_refl _)
      have h2 := ih (l.drop (place l + 2 + (pq (l.drop (place l + 1))).length + (pq (l.drop (place l + 1))).count 34)) (by rw [List.length_drop]; omega)
      rw [List.length_drop] at h1 h2
      simp only [wl, List.map_cons, List.sum_cons, List.length_take] at h2 ⊢
      omega
    · simp [wl]
theorem readF_len : ∀ (n : Nat) (l : List Nat), l.length ≤ n → (readF l).length ≤ 2 * l.length + 1 := by
  intro n
  induction n with
  | zero =>
    intro l hl
    have : l = [] := List.length_eq_zero_iff.mp (by omega)
    subst this
    rw [readF, dif_neg (by simp)]; simp
  | succ n ih =>
    intro l hl
    rw [readF]
    split
    · rename_i h
      have hp := place_lt h
      have h2 := ih (l.drop (place l + 2 + (pq (l.drop (place l + 1))).length + (pq (l.drop (place l + 1))).count 34)) (by rw [List.length_drop]; omega)
      rw [List.length_drop] at h2
      simp only [List.length_cons] at h2 ⊢
      omega
    · simp
set_option maxHeartbeats 2000000
theorem law_turn {w : World} {A : Around} {b s : Shared} {m : PySem.Str → Option Value} {NS : List (Addr × Obj)} {G : Array GenState} {L lp lo d a : Addr} {o oc olp olo : Obj} {P : List (List Nat)} {line t : List Nat} {tb : List (Nat × List Nat)} {N : Nat} {dues : List (List Nat)} {tl tt : Nat} {I : Nat → Shared → Prop} {k : Nat} {rest : List Stmt} {Q : Flow → Shared → Prop}
    (hA : OkA 6 A) (H : Now w b (lEnv w L).locals m ((a, o) :: NS) G s) (hap : ∀ p ∈ NS, p.1 ≠ a) (hoc : oc.data = .cell (some (.ref lp))) (hmc : (L + 1, oc) ∈ NS) (hmp : (lp, olp) ∈ NS) (XP : TLo P olp) (hmo : (lo, olo) ∈ NS) (XO : TLo (oddF P) olo)
    (XT : Tb w s.heap d tb) (K : OneOK P line tb t) (hP : P.length = 2 * N + 1) (hN : N ≤ 1000) (hpl : ∀ p ∈ P, p.length ≤ 10000) (hll : line.length ≤ 10000) (XD : TLo dues o) (hdl : dues.length ≤ 100)
    (hmd : ∃ od, (d, od) ∈ NS)
    (g1 : m "line" = some (.str (T line) tl)) (g2 : m "odd" = some (.ref lo)) (g3 : m "due" = some (.ref a)) (g4 : m "table" = some (.ref d)) (g5 : m "text" = some (.str (T t) tt))
    (close : ∀ s' m' G' o', Now w b (lEnv w L).locals m' ((a, o') :: NS) G' s' → (AllBare G → AllBare G') → TLo (dues ++ [dueOne t]) o' → m' "line" = m "line" → m' "odd" = m "odd" → m' "due" = m "due" → m' "written" = m "written" → ∃ j, j < k ∧ I j s') :
    Wp w A (execs lBody (lEnv w L)) (loopEnd I k w A rest (lEnv w L) Q) s := by
  obtain ⟨od, hmd⟩ := hmd
  have hob := H.get (List.mem_cons_of_mem _ hmd)
  have XTat : ∀ {s' : Shared} {m' : PySem.Str → Option Value} {ns' : List (Addr × Obj)} {G' : Array GenState}, Now w b (lEnv w L).locals m' ns' G' s' → (d, od) ∈ ns' → Tb w s'.heap d tb := fun H' hm => XT.obj fun o₁ e₁ => by rw [hob] at e₁; cases e₁; exact H'.get hm
  -- the writing is the line sign by sign
  refine r_if ?_
  refine r_cmp ?_ (by kernel_rfl!)
  keq_hits
  refine r_call2 (a := 119) (by tb_rel) (by kernel_rfl!) (by kernel_rfl!) (by kernel_rfl!) (by kernel_rfl!) (by kernel_rfl!) (by kernel_rfl!) (by kernel_rfl!) (by kernel_rfl!) ?_
  keq_hits
  refine ⟨H.bs, c_signs H.bs H.spos (hA.mono (by omega)) hll XT (fun c _ => K.lk c) fun t1 s1 st1 => ?_⟩
  refine cur (H.step st1) fun H1 => ?_
  keq_hits
  rw [if_neg (by simp [K.eq])]
  keq_hits
  -- left
  refine r_call1 (a := 28) (by tb_rel) (by kernel_rfl!) (by kernel_rfl!) (by kernel_rfl!) (by kernel_rfl!) (by kernel_rfl!) (by kernel_rfl!) (by kernel_rfl!) ?_
  keq_hits
  refine ⟨H1.bs, c_strip H1.bs H1.spos (hA.mono (by omega)) K.len fun t2 s2 af2 => ?_⟩
  refine cur (H1.aft af2) fun H2 => ?_
  have hb2 : AllBare G → AllBare s2.gens := fun hb => af2.gens (by rw [H1.gens]; exact hb)
  refine r_store (by tb_rel) (by kernel_rfl!) (by kernel_rfl!) fun s3 H3 a3 => ?_
  have lk3 : LK m (upd m "left" (.str (T (stripF t)) t2)) := ⟨upd_ne (by kernel_rfl!) rfl, upd_ne (by kernel_rfl!) rfl, upd_ne (by kernel_rfl!) rfl, upd_ne (by kernel_rfl!) rfl, upd_ne (by kernel_rfl!) rfl, upd_ne (by kernel_rfl!) rfl⟩
  have XT3 := XTat H3 (List.mem_cons_of_mem _ hmd)
  refine r_fork (fun s' => ∃ m', Now w b (lEnv w L).locals m' ((a, o) :: NS) s2.gens s' ∧ LK m m' ∧ m' "left" = some (.str (T (stripF t)) t2)) ?_ ?_
  · rintro s4 ⟨m4, H4, k4, hl4⟩
    have g1' := k4.line.trans g1
    have g2' := k4.odd.trans g2
    have g3' := k4.due.trans g3
    have g4' := k4.table.trans g4
    have g5' := k4.text.trans g5
    have XT4 := XTat H4 (List.mem_cons_of_mem _ hmd)
    have tail : ∀ s5, Now w b (lEnv w L).locals m4 ((a, o) :: NS) s2.gens s5 → Wp w A (execs [match lBody.drop 4 with | x :: _ => x | [] => .Pass default] (lEnv w L)) (loopEnd I k w A rest (lEnv w L) Q) s5 := fun s5 H5 => by
      refine r_expr ?_ (by kernel_rfl!) (by kernel_rfl!)
      refine r_ap (by kernel_rfl!) (by kernel_rfl!) ?_
      keq_hits
      refine ⟨⟨_, by ktr_unf⟩, ?_⟩
      refine r_ifexp ?_
      refine r_truePlain (by kernel_rfl!) ?_
      refine r_call1 (a := 145) (by tb_rel) (by kernel_rfl!) (by kernel_rfl!) (by kernel_rfl!) (by kernel_rfl!) (by kernel_rfl!) (by kernel_rfl!) (by kernel_rfl!) ?_
      keq_hits
      refine ⟨H5.bs, c_closed H5.bs H5.spos (hA.mono (by omega)) K.sl fun s6 st6 => ?_⟩
      refine cur (H5.step st6) fun H6 => ?_
      keq_hits
      have fin : ∀ (y : List Nat) (ty : Nat) (s7 : Shared), Now w b (lEnv w L).locals m4 ((a, o) :: NS) s2.gens s7 → y = dueOne t → Wp w A (call (.builtin "list.append") [.ref a, .str (T y) ty]) (fun _ s' => Wp w A (execs [] (lEnv w L)) (loopEnd I k w A rest (lEnv w L) Q) s') s7 := fun y ty s7 H7 hy => by
        refine r_appendT H7 XD hap (by omega) fun o8 s8 H8 X8 a8 => ?_
        keq_hits
        rw [hy] at X8
        exact loopEnd_next (close _ m4 _ o8 H8 hb2 X8 k4.line k4.odd k4.due k4.written)
      by_cases hc : closedF (stripF t) = true
      · rw [if_pos hc]
        keq_hits
        exact fin t _ _ (by tb_rel) (by unfold dueOne; rw [if_pos hc])
      · rw [if_neg hc]
        keq_hits
        exact fin _ _ _ (by tb_rel) (by unfold dueOne; rw [if_neg hc]; rfl)
    refine r_if ?_
    refine r_and ?_
    refine r_or ?_
    refine r_cmp ?_ (by kernel_rfl!)
    keq_hits
    refine cur (by tb_rel) fun H5 => ?_
    refine r_inTb (XTat H5 (List.mem_cons_of_mem _ hmd)) fun s6 st6 => ?_
    refine cur (H5.step st6) fun H6 => ?_
    keq_hits
    cases hq : (tb.lookup 34).isSome with
    | true =>
      rw [if_pos rfl, if_pos rfl]
      keq_hits
      refine r_call1 (a := 140) (by tb_rel) (by kernel_rfl!) (by kernel_rfl!) (by kernel_rfl!) (by kernel_rfl!) (by kernel_rfl!) (by kernel_rfl!) (by kernel_rfl!) ?_
      keq_hits
      refine cur (by tb_rel) fun H9 => ?_
      refine ⟨H9.bs, c_outside H9.bs H9.spos (hA.mono (by omega)) (by have := K.len; omega) fun t10 s10 st10 => ?_⟩
      refine cur (H9.step st10) fun H10 => ?_
      keq_hits
      rw [if_neg (by simp [K.out (.inl hq)])]
      rw [if_neg Bool.false_ne_true]
      exact r_nil (thenDo_next (tail _ (H10.drop fun p hp => hp)))
    | false =>
      rw [if_neg Bool.false_ne_true]
      keq_hits
      refine r_neL hA (ls := oddF P) (ms := []) (Now.tl (by tb_rel) (by first | exact List.mem_cons_of_mem _ (List.mem_cons_of_mem _ hmo) | exact List.mem_cons_of_mem _ hmo) XO) (Now.tl (by tb_rel) List.mem_cons_self tlo_nil) ?_
      keq_hits
      by_cases ho : oddF P = []
      · rw [if_neg (by simp [ho])]
        keq_hits
        rw [if_neg Bool.false_ne_true]
        keq_hits
        rw [if_neg Bool.false_ne_true]
        exact r_nil (thenDo_next (tail _ (Now.drop (by tb_rel) fun p hp => List.mem_cons_of_mem _ hp)))
      · rw [if_pos (by simp [ho])]
        rw [if_pos rfl]
        keq_hits
        refine r_call1 (a := 140) (by tb_rel) (by kernel_rfl!) (by kernel_rfl!) (by kernel_rfl!) (by kernel_rfl!) (by kernel_rfl!) (by kernel_rfl!) (by kernel_rfl!) ?_
        keq_hits
        refine cur (by tb_rel) fun H9 => ?_
        refine ⟨H9.bs, c_outside H9.bs H9.spos (hA.mono (by omega)) (by have := K.len; omega) fun t10 s10 st10 => ?_⟩
        refine cur (H9.step st10) fun H10 => ?_
        keq_hits
        rw [if_neg (by simp [K.out (.inr ho)])]
        rw [if_neg Bool.false_ne_true]
        exact r_nil (thenDo_next (tail _ (H10.drop fun p hp => List.mem_cons_of_mem _ hp)))
  · refine r_cmp ?_ (by kernel_rfl!)
    keq_hits
    refine cur (by tb_rel) fun H5 => ?_
    refine r_notInTb (XTat H5 (List.mem_cons_of_mem _ hmd)) fun s6 st6 => ?_
    refine cur (H5.step st6) fun H6 => ?_
    keq_hits
    cases hq : (tb.lookup 34).isSome with
    | true =>
      rw [if_neg (by simp)]
      keq_hits
      exact ⟨rfl, _, by tb_rel, lk3, upd_same⟩
    | false =>
      rw [if_pos (by simp)]
      keq_hits
      refine r_call1 (a := 133) (by tb_rel) (by kernel_rfl!) (by kernel_rfl!) (by kernel_rfl!) (by kernel_rfl!) (by kernel_rfl!) (by kernel_rfl!) (by kernel_rfl!) ?_
      keq_hits
      refine ⟨H6.bs, c_read H6.bs H6.spos (hA.mono (by omega)) (by have := K.len; omega) fun ls os s7 st7 ho7 hn7 X7 => ?_⟩
      refine cur (H6.add ho7 hn7 st7) fun H7 => ?_
      keq_hits
      refine r_call2 (a := 126) (by tb_rel) (by kernel_rfl!) (by kernel_rfl!) (by kernel_rfl!) (by kernel_rfl!) (by kernel_rfl!) (by kernel_rfl!) (by kernel_rfl!) (by kernel_rfl!) ?_
      refine cur (by tb_rel) fun H8 => ?_
      refine r_cell (c := L + 1) H8 (List.mem_cons_of_mem _ (List.mem_cons_of_mem _ hmc)) hoc (by kernel_rfl!) (by kernel_rfl!) (by kernel_rfl!) (by kernel_rfl!) ?_
      keq_hits
      refine ⟨H8.bs, c_joined (N := N) (P := P) H8.bs H8.spos (hA.mono (by omega)) (H8.tl (List.mem_cons_of_mem _ (List.mem_cons_of_mem _ hmp)) XP) (XTat H8 (List.mem_cons_of_mem _ (List.mem_cons_of_mem _ hmd))) hP hN hpl (fun p _ c _ => K.lk c) K.wt fun lj oj s9 st9 ho9 hn9 X9 => ?_⟩
      refine cur (H8.add ho9 hn9 st9) fun H9 => ?_
      refine r_neL hA (ls := readF t) (ms := joinedF tb P) (H9.tl (by ktn_open) X7) (H9.tl (by ktn_open) X9) ?_
      keq_hits
      rw [if_neg (by simp [K.rd hq])]
      keq_hits
      have hrs := readF_sum _ t (Nat.le_refl _)
      have hev := evens_sum _ (readF t) (Nat.le_refl _)
      have hlt6 := K.len
      have hwr : ((readF t).map List.length).sum ≤ t.length := hrs
      refine sub_evens (ls := readF t) (by tb_rel) (Now.tl (by tb_rel) (by ktn_open) X7) ?_ (by kernel_rfl!) fun le oe s10 H10 Xe a10 he10 => ?_
      · have := readF_len _ t (Nat.le_refl _); omega
      keq_hits
      refine cur (by tb_rel) fun H11 => ?_
      refine r_eqL hA (ls := oddF P) (ms := []) (H11.tl (List.mem_cons_of_mem _ (List.mem_cons_of_mem _ (List.mem_cons_of_mem _ (List.mem_cons_of_mem _ (List.mem_cons_of_mem _ hmo))))) XO) (H11.tl List.mem_cons_self tlo_nil) ?_
      refine SeqAt.RcNeAt.bool_bool _ _ _ _ _ _ ?_
      keq_hits
      rw [if_neg (by rw [K.lf hq]; simp)]
      keq_hits
      exact ⟨rfl, _, H11.drop fun p hp => List.mem_cons_of_mem _ (List.mem_cons_of_mem _ (List.mem_cons_of_mem _ (List.mem_cons_of_mem _ hp))), ⟨upd_ne (by kernel_rfl!) lk3.line, upd_ne (by kernel_rfl!) lk3.odd, upd_ne (by kernel_rfl!) lk3.due, upd_ne (by kernel_rfl!) lk3.written, upd_ne (by kernel_rfl!) lk3.table, upd_ne (by kernel_rfl!) lk3.text⟩, upd_ne (by kernel_rfl!) upd_same⟩
end

-- part Wend
section
noncomputable def pieceF (P : List (List Nat)) (k : Nat) : List Nat := if k % 2 = 1 then quoted (P.getD k []) else P.getD k []
noncomputable def lineF (P : List (List Nat)) : List Nat := ((List.range P.length).map (pieceF P)).flatten
noncomputable def tb1 : List (Nat × List Nat) := [(38, amp), (60, lth), (62, gth)]
noncomputable def tb2 : List (Nat × List Nat) := [(38, amp), (60, lth), (62, gth), (13, crd)]
noncomputable def tb3 : List (Nat × List Nat) := [(38, amp), (60, lth), (34, quo), (13, crd), (9, tab9)]
structure PureOK (P : List (List Nat)) : Prop where
  odd : ∃ N, P.length = 2 * N + 1
  size : P.length ≤ 100
  part : ∀ p ∈ P, p.length ≤ 100
  line : (lineF P).length ≤ 60
  o1 : OneOK P (lineF P) tb1 (esc1 (lineF P))
  o2 : OneOK P (lineF P) tb2 (esc2 (lineF P))
  o3 : OneOK P (lineF P) tb3 (esc3 (lineF P))
  c1 : checkF (esc1 (lineF P)) = closedF (stripF (esc1 (lineF P)))
  c2 : checkF (esc2 (lineF P)) = closedF (stripF (esc2 (lineF P)))
  c3 : checkF (esc3 (lineF P)) = closedF (stripF (esc3 (lineF P)))
theorem Now.addA {w : World} {b s s' : Shared} {L l : Addr} {m : PySem.Str → Option Value} {ns : List (Addr × Obj)} {G : Array GenState} {o : Obj} (H : Now w b L m ns G s) (af : Aft s s') (ho : s'.heap.get? l = some o) (hn : s.heap.get? l = none) : Now w b L m ((l, o) :: ns) s'.gens s' := by
  have H2 : Now w b L m ((l, o) :: ns) G { s' with gens := s.gens } := H.add (s' := { s' with gens := s.gens }) ho hn ⟨af.keep, af.os, rfl, af.toks⟩
  exact ⟨H2.B, H2.F, H2.N, H2.os, H2.toks, H2.pos, rfl⟩
inductive LawI (w : World) (s : Shared) (L a : Addr) (NS : List (Addr × Obj)) (St : Nat → Heap → Prop) (ts : List (List Nat)) (m₀ : PySem.Str → Option Value) (k : Nat) (s4 : Shared) : Prop
  | mk (m : PySem.Str → Option Value) (i : Nat) (o : Obj) (G' : Array GenState) (h0 : Now w s (lEnv w L).locals m ((a, o) :: NS) G' s4) (h1 : St i s4.heap) (h2 : (AllBare s.gens → AllBare G')) (h3 : i + k = 3) (h4 : TLo ((ts.take i).map dueOne) o) (h5 : m "line" = m₀ "line") (h6 : m "odd" = m₀ "odd") (h7 : m "due" = m₀ "due") (h8 : m "written" = m₀ "written") : LawI w s L a NS St ts m₀ k s4
set_option maxHeartbeats 2000000
theorem law_end {w : World} {A : Around} {s s20 : Shared} {m : PySem.Str → Option Value} {NS : List (Addr × Obj)} {L lp lo d1 d2 d3 a lw ltb : Addr} {o oc olp olo od1 od2 od3 : Obj} {P : List (List Nat)} {N tl t1 t2 t3 : Nat} {Q : Flow → Shared → Prop}
    (hA : OkA 6 A) (H : Now w s (lEnv w L).locals m ((a, o) :: NS) s.gens s20) (hap : ∀ p ∈ NS, p.1 ≠ a) (XD : TLo [] o) (hoc : oc.data = .cell (some (.ref lp))) (hmc : (L + 1, oc) ∈ NS) (hmp : (lp, olp) ∈ NS) (XP : TLo P olp) (hmo : (lo, olo) ∈ NS) (XO : TLo (oddF P) olo)
    (hm1 : (d1, od1) ∈ NS) (hm2 : (d2, od2) ∈ NS) (hm3 : (d3, od3) ∈ NS) (XT1 : Tb w s20.heap d1 tb1) (XT2 : Tb w s20.heap d2 tb2) (XT3 : Tb w s20.heap d3 tb3)
    (hmw : (lw, listOf (List.toArray [.str (T (esc1 (lineF P))) t1, .str (T (esc2 (lineF P))) t2, .str (T (esc3 (lineF P))) t3]) 0) ∈ NS) (hmt : (ltb, listOf (List.toArray [.ref d1, .ref d2, .ref d3]) 0) ∈ NS)
    (K : PureOK P) (hN : P.length = 2 * N + 1)
    (g1 : m "line" = some (.str (T (lineF P)) tl)) (g2 : m "odd" = some (.ref lo)) (g3 : m "due" = some (.ref a)) (g4 : m "tables" = some (.ref ltb)) (g5 : m "written" = some (.ref lw))
    (h : ∀ s', Aft s s' → Q (.ret (.bool true)) s') : Wp w A (execs ((topBody 22).drop 6) (lEnv w L)) Q s20 := by
  have hPs := K.size
  refine r_for (by intro _; kernel_rfl!) ?_
  with_reducible refine r_callT2 (id := "zip") H (by kernel_rfl!) (by kernel_rfl!) (by kernel_rfl!) (by kernel_rfl!) (by kernel_rfl!) (by kernel_rfl!) boot_zip (by decide) (by kernel_rfl!) (by kernel_rfl!) ?_
  refine r_local H (by kernel_rfl!) (by kernel_rfl!) (by kernel_rfl!) g4 ?_
  refine r_local H (by kernel_rfl!) (by kernel_rfl!) (by kernel_rfl!) g5 ?_
  have hlt : ∀ p ∈ (a, o) :: NS, p.1 < s20.heap.objs.size := fun p hp => Heap.lt_size (H.N p hp).1
  have hltb := hlt _ (List.mem_cons_of_mem _ hmt)
  have hltw := hlt _ (List.mem_cons_of_mem _ hmw)
  refine call_zip_2 ⟨_, H.get (List.mem_cons_of_mem _ hmt), rfl, _, rfl⟩ ⟨_, H.get (List.mem_cons_of_mem _ hmw), rfl, _, rfl⟩ fun h' hz hp1 hp2 hi1 hi2 hsz hk => ?_
  refine wpAny_pyIter_zip hz ?_
  have hL : L < s20.heap.objs.size := by obtain ⟨oL, _, _, hoL, _⟩ := H.F.ns; exact Heap.lt_size hoL
  have fresh : ∀ q, s20.heap.objs.size ≤ q → s.heap.get? q = none ∧ q ≠ L := fun q hq => by
    refine ⟨?_, Nat.ne_of_gt (Nat.lt_of_lt_of_le hL hq)⟩
    cases e : s.heap.get? q with
    | none => rfl
    | some o' => exact absurd (Heap.lt_size (H.F.keep q o' e)) (Nat.not_lt.mpr hq)
  have H1 : Now w s (lEnv w L).locals m ((a, o) :: NS) s.gens { s20 with heap := h' } := H.step ⟨hk, rfl, rfl, Nat.le_refl _⟩
  generalize s20.heap.objs.size = n at *
  obtain ⟨St, Mid, W, hst0⟩ : ∃ St Mid, WalksT PW w A (n + 4) [n + 4, n + 2, n + 3, n, n + 1, ltb, lw] [n + 4, n + 3, n, n + 1] 3 (fun i vals => ∃ x y, (List.toArray [Value.ref d1, .ref d2, .ref d3])[i]? = some x ∧ (List.toArray [Value.str (T (esc1 (lineF P))) t1, .str (T (esc2 (lineF P))) t2, .str (T (esc3 (lineF P))) t3])[i]? = some y ∧ vals = #[x, y]) St Mid ∧ St 0 h' :=
    ⟨_, _, WalksT.zip2 (prog := PW) (w := w) (A := A) hA.handled (n + 4) (n + 2) (n + 3) n (n + 1) ltb lw (zipApart_new hltb hltw) (List.toArray [.ref d1, .ref d2, .ref d3]) (List.toArray [.str (T (esc1 (lineF P))) t1, .str (T (esc2 (lineF P))) t2, .str (T (esc3 (lineF P))) t3]),
      hz, hp1, ⟨_, _, hp2⟩, hi1, hi2, ⟨_, H1.get (List.mem_cons_of_mem _ hmt), rfl, _, rfl⟩, ⟨_, H1.get (List.mem_cons_of_mem _ hmw), rfl, _, rfl⟩⟩
  have hwr : ∀ q ∈ [n + 4, n + 3, n, n + 1], n ≤ q := by simp only [List.forall_mem_cons]; exact ⟨by omega, by omega, by omega, by omega, fun _ h => nomatch h⟩
  have hwr2 : ∀ q ∈ [n + 4, n + 3, n, n + 1], s.heap.get? q = none ∧ q ≠ (lEnv w L).locals := fun q hq => fresh q (hwr q hq)
  have hnsw : ∀ p : Addr × Obj, p.1 < n → p.1 ∉ [n + 4, n + 3, n, n + 1] := fun p hp hm => absurd (hwr _ hm) (Nat.not_le.mpr hp)
  have hfp : ∀ q ∈ [n + 4, n + 2, n + 3, n, n + 1, ltb, lw], (q ≠ (lEnv w L).locals ∧ s.heap.get? q = none) ∧ q ≠ a := by
    have ha : a < n := hlt _ List.mem_cons_self
    have big : ∀ q, n ≤ q → (q ≠ (lEnv w L).locals ∧ s.heap.get? q = none) ∧ q ≠ a := fun q hq => ⟨⟨(fresh q hq).2, (fresh q hq).1⟩, Nat.ne_of_gt (Nat.lt_of_lt_of_le ha hq)⟩
    simp only [List.forall_mem_cons]
    exact ⟨big _ (by omega), big _ (by omega), big _ (by omega), big _ (by omega), big _ (by omega), ⟨(H1.N _ (List.mem_cons_of_mem _ hmt)).2, hap _ hmt⟩, ⟨(H1.N _ (List.mem_cons_of_mem _ hmw)).2, hap _ hmw⟩, fun _ h => nomatch h⟩
  have ho1 := H.get (List.mem_cons_of_mem _ hm1)
  have ho2 := H.get (List.mem_cons_of_mem _ hm2)
  have ho3 := H.get (List.mem_cons_of_mem _ hm3)
  refine ⟨LawI w s L a NS St [esc1 (lineF P), esc2 (lineF P), esc3 (lineF P)] m, 3, ⟨m, 0, o, s.gens, H1, hst0, id, rfl, XD, rfl, rfl, rfl, rfl⟩, ?_⟩
  rintro k s4 ⟨m4, i, o4, G4, H4, hst4, hb4, hik, X4, e1, e2, e3, e4⟩
  by_cases hi : i < 3
  · refine wpAny_with_toks (Nat.le_refl s4.toks) (W.item i s4 _ _ hi hst4 fun tp vals h1 tk1 hPt hfree hT hmid hk1 ht1 => ?_)
    obtain ⟨x, y, hx, hy, rfl⟩ := hPt
    refine W.go _ _ _ i tp _ _ _ hmid fun h2 hst2 hk2 => ?_
    have hk12 : ∀ q o, q ∉ [n + 4, n + 3, n, n + 1] → s4.heap.get? q = some o → h2.get? q = some o := fun q o hq e => hk2 q o hq (hk1 q o hq e)
    have hT2 : h2.IsTuple tp #[x, y] := hT.at fun o e => hk2 tp o (W.apart i tp _ hmid) e
    have H5 := (H4.hop hwr2 (fun p hp => hnsw p (by
      rcases List.mem_cons.mp hp with rfl | hp
      · exact hlt (a, o) List.mem_cons_self
      · exact hlt p (List.mem_cons_of_mem _ hp))) hk12 ht1).snapL (fp := [n + 4, n + 2, n + 3, n, n + 1, ltb, lw]) (fun q hq => (hfp q hq).1)
    refine r_assign2 hA.handled H5 hT2 (by kernel_rfl!) (by kernel_rfl!) (by kernel_rfl!) fun s6 H6 a6 => ?_
    have lk : ∀ (z : PySem.Str) (r : Option Value), decide (z = "text") = false → decide (z = "table") = false → m4 z = r → upd (upd m4 "table" x) "text" y z = r := fun z r h1 h2 h3 => upd_ne h1 (upd_ne h2 h3)
    have turn : ∀ (d : Addr) (od : Obj) (tb : List (Nat × List Nat)) (t : List Nat) (tt : Nat), x = .ref d → y = .str (T t) tt → (d, od) ∈ NS → s20.heap.get? d = some od → Tb w s20.heap d tb → OneOK P (lineF P) tb t → [esc1 (lineF P), esc2 (lineF P), esc3 (lineF P)][i]? = some t →
        Wp w A (execs lBody (lEnv w L)) (loopEnd (LawI w s L a NS St [esc1 (lineF P), esc2 (lineF P), esc3 (lineF P)] m) k w A ((topBody 22).drop 7) (lEnv w L) Q) s6 := fun d od tb t tt hxd hyt hmd hod XT OK hti => by
      refine law_turn (N := N) (d := d) (t := t) (tb := tb) (line := lineF P) (lp := lp) (lo := lo) (oc := oc) (olp := olp) (olo := olo) (P := P) (tl := tl) (tt := tt) (dues := ([esc1 (lineF P), esc2 (lineF P), esc3 (lineF P)].take i).map dueOne) hA H6 ?_ hoc (List.mem_append_left _ hmc) (List.mem_append_left _ hmp) XP (List.mem_append_left _ hmo) XO
        (XT.obj fun o₁ e₁ => by rw [hod] at e₁; cases e₁; exact H6.get (List.mem_cons_of_mem _ (List.mem_append_left _ hmd))) OK hN (by omega) (fun p hp => by have := K.part p hp; omega) (by have := K.line; omega) X4 (by rw [List.length_map, List.length_take]; exact Nat.le_trans (Nat.min_le_right _ _) (by decide : 3 ≤ 100)) ⟨od, List.mem_append_left _ hmd⟩
        (lk _ _ (by kernel_rfl!) (by kernel_rfl!) (e1.trans g1)) (lk _ _ (by kernel_rfl!) (by kernel_rfl!) (e2.trans g2)) (lk _ _ (by kernel_rfl!) (by kernel_rfl!) (e3.trans g3)) (by rw [hxd]; exact upd_ne (by kernel_rfl!) upd_same) (by rw [hyt]; exact upd_same) ?_
      · intro p hp
        rcases List.mem_append.mp hp with hp | hp
        · exact hap p hp
        · exact (hfp _ (of_snapL hp).1).2
      · intro s' m' G' o' H' hb' X' c1 c2 c3 c4
        have hlen3 : i < [esc1 (lineF P), esc2 (lineF P), esc3 (lineF P)].length := hi
        have htk : ([esc1 (lineF P), esc2 (lineF P), esc3 (lineF P)].take (i + 1)).map dueOne = ([esc1 (lineF P), esc2 (lineF P), esc3 (lineF P)].take i).map dueOne ++ [dueOne t] := by
          rw [List.take_succ_eq_append_getElem hlen3, List.map_append]
          rw [List.getElem?_eq_getElem hlen3] at hti
          rw [Option.some.inj hti]; rfl
        rw [← htk] at X'
        refine ⟨k - 1, ar_pred (ar_pos hik hi), m', i + 1, o', G', H'.drop (fun p hp => ?_), W.frame _ _ _ hst2 (fun q hq o ho => H'.N.get (List.mem_cons_of_mem _ (List.mem_append_right _ (mem_snapL hq ho)))), fun hb => hb' (hb4 hb), ar_step hik (ar_pos hik hi), X',
          c1.trans (lk _ _ (by kernel_rfl!) (by kernel_rfl!) e1), c2.trans (lk _ _ (by kernel_rfl!) (by kernel_rfl!) e2), c3.trans (lk _ _ (by kernel_rfl!) (by kernel_rfl!) e3), c4.trans (lk _ _ (by kernel_rfl!) (by kernel_rfl!) e4)⟩
        rcases List.mem_cons.mp hp with rfl | hp
        · exact List.mem_cons_self
        · exact List.mem_cons_of_mem _ (List.mem_append_left _ hp)
    rcases (show ∀ i : Nat, i < 3 → i = 0 ∨ i = 1 ∨ i = 2 from by decide) i hi with rfl | rfl | rfl
    · have hx : Value.ref d1 = x := by simpa using hx
      have hy : Value.str (T (esc1 (lineF P))) t1 = y := by simpa using hy
      exact turn d1 od1 tb1 _ t1 hx.symm hy.symm hm1 ho1 XT1 K.o1 rfl
    · have hx : Value.ref d2 = x := by simpa using hx
      have hy : Value.str (T (esc2 (lineF P))) t2 = y := by simpa using hy
      exact turn d2 od2 tb2 _ t2 hx.symm hy.symm hm2 ho2 XT2 K.o2 rfl
    · have hx : Value.ref d3 = x := by simpa using hx
      have hy : Value.str (T (esc3 (lineF P))) t3 = y := by simpa using hy
      exact turn d3 od3 tb3 _ t3 hx.symm hy.symm hm3 ho3 XT3 K.o3 rfl
  · have hi3 : i = 3 := by omega
    subst hi3
    refine wpAny_with_toks (Nat.le_refl s4.toks) (W.done s4 _ _ hst4 fun h9 tk9 hk9 ht9 => ?_)
    have H9 := H4.hop hwr2 (fun p hp => hnsw p (by
      rcases List.mem_cons.mp hp with rfl | hp
      · exact hlt (a, o) List.mem_cons_self
      · exact hlt p (List.mem_cons_of_mem _ hp))) hk9 ht9
    have X4 : TLo ([esc1 (lineF P), esc2 (lineF P), esc3 (lineF P)].map dueOne) o4 := X4
    have Xw : TLo [esc1 (lineF P), esc2 (lineF P), esc3 (lineF P)] (listOf (List.toArray [.str (T (esc1 (lineF P))) t1, .str (T (esc2 (lineF P))) t2, .str (T (esc3 (lineF P))) t3]) 0) := ⟨_, 0, rfl, .cons _ _ (.cons _ _ (.cons _ _ .nil))⟩
    refine head_none ?_
    refine r_ret (r_cmpE ?_ (by kernel_rfl!))
    with_reducible refine r_call1 (a := 42) H9 (by kernel_rfl!) (by kernel_rfl!) (by kernel_rfl!) (by kernel_rfl!) (by kernel_rfl!) (by kernel_rfl!) (by kernel_rfl!) ?_
    refine r_local H9 (by kernel_rfl!) (by kernel_rfl!) (by kernel_rfl!) (e4.trans g5) ?_
    refine ⟨H9.bs, c_pre H9.bs H9.spos hA (H9.tl (List.mem_cons_of_mem _ hmw) Xw) ?_ (by simp) fun lr or s10 af ho hno X => ?_⟩
    · simp only [List.forall_mem_cons]
      exact ⟨K.o1.len, K.o2.len, K.o3.len, fun _ h => nomatch h⟩
    have H10 := H9.addA af ho hno
    refine r_local H10 (by kernel_rfl!) (by kernel_rfl!) (by kernel_rfl!) (e3.trans g3) ?_
    refine r_eqL hA (H10.tl List.mem_cons_self X) (H10.tl (List.mem_cons_of_mem _ List.mem_cons_self) X4) ?_
    have hpd : [esc1 (lineF P), esc2 (lineF P), esc3 (lineF P)].map preOne = [esc1 (lineF P), esc2 (lineF P), esc3 (lineF P)].map dueOne := by
      simp only [List.map_cons, List.map_nil, preOne, dueOne, K.c1, K.c2, K.c3]
    rw [decide_eq_true hpd]
    exact h _ (H10.endA fun hb => af.gens (by rw [H9.gens]; exact hb4 hb))
end

-- part Wcell
set_option maxRecDepth 100000
section
section
variable {w : World} {A : Around} {s : Shared}
/-- a frame with cells and one bound local: what stands after the binding, with the counter moved on by one -/
theorem frame_one {M : Model} {E : Value → Shared → Prop} {sc : Scope} {g : Addr} {n y : PySem.Str} {v : Value} {q : PySem.Str} {fn : Option Addr} {cd : Value} {bi : Addr} {Q : Env → Shared → Prop}
    (hk : sc.kind = .function) (hn : sc.names.lookup n = some .local) (hc : cellsFrom (s.heap.objs.size + 1) sc.names [] = [(y, s.heap.objs.size + 1)])
    (hQ : ∀ h', Heap.Ns h' s.heap.objs.size (upd noN n v) → Grown s.heap h' → h'.IsCell (s.heap.objs.size + 1) none →
      Q (newEnv sc s.heap.objs.size g (cellsFrom (s.heap.objs.size + 1) sc.names []) q fn cd none bi) { s with heap := h', toks := s.toks + 1 }) :
    wpAny M A (newFunctionEnv sc g [] [(n, v)] q fn cd none bi) Q E s := by
  have hz : (s.heap.push { cls := .type "frame", data := .dict #[] }).objs.size = s.heap.objs.size + 1 := Heap.size_push ..
  have cells := cellsFrom_ok sc.names (s.heap.push { cls := .type "frame", data := .dict #[] }) (s.heap.objs.size + 1) [] ⟨fun _ _ h => (nomatch h), List.Pairwise.nil⟩ (by rw [hz]; exact Nat.le_refl _)
  rw [hz, hc] at cells
  have hcell := (cells.empty y _ List.mem_cons_self).1
  have hns := (Heap.Ns.new s.heap (.type "frame")).keeps (pushCells_keeps sc.names _)
  have hgr : Grown s.heap (pushCells (s.heap.push { cls := .type "frame", data := .dict #[] }) sc.names) := fun a o e => pushCells_keeps _ _ a o (Heap.get?_push_of_some _ e)
  unfold newFunctionEnv
  simp only [Option.isSome_none, Bool.false_eq_true, if_false]
  refine wpAny_bind (wpAny_alloc (wpAny_bind (wpAny_layCells _ (fun name kind cells => ?_) _ _ _ _ ?_)))
  · cases kind == NameKind.cell <;> simp
  rw [show ({ s with heap := s.heap.push { cls := .type "frame", data := .dict #[] } } : Shared).heap.objs.size = s.heap.objs.size + 1 from hz, List.forIn_cons]
  refine wpAny_bind (wpAny_bind (wpAny_bind (wpAny_storeName_local (m := fun _ => none) hn hns (fun h' e1 e2 => wpAny_pure ?_) (by simp only [hk]; rfl))))
  show wpAny M A (forIn [] PUnit.unit _) _ E _
  rw [List.forIn_nil]
  exact wpAny_pure (wpAny_pure (hQ h' e1 (fun a o e => e2.extBut a o (Nat.ne_of_lt (Heap.lt_size e)) (hgr a o e)) (hcell.sameBut e2 (Nat.succ_ne_self _))))
theorem call_fnC1 {k : Nat} {a : Addr} {fd : FuncData} {body : List Stmt} {v : Value} {n : PySem.Str} {y : PySem.Str} {Q : Value → Shared → Prop} (B : Bs w s.heap) (hA : OkA (k + 1) A)
    (hf : fnAt w a = some fd) (hbody : fd.body = .stmts body) (hb : bindArgs fd ⟨[v], []⟩ = pure [(n, v)]) (hcd : codeIn (KK w) fd.code fd.qualname = true) (hclo : fd.closure = [])
    (hkind : fd.scope.names.lookup n = some .local)
    (hcell : ∀ L, cellsFrom (L + 1) fd.scope.names [] = [(y, L + 1)])
    (hco : fd.scope.isCoroutine = false) (hgen : fd.scope.isGenerator = false) (hk : fd.scope.kind = .function)
    (h : ∀ (A' : Around) L oc s', oc.data = .cell none → Now w { s with toks := s.toks + 1 } (callEnvC fd L a).locals (upd noN n v) [(L + 1, oc)] s.gens s' → OkA k A' → Wp w A' (execs body (callEnvC fd L a)) (fun f s'' => Q (retOf f) s'') s') :
    Wp w A (call (.ref a) [v]) Q s := by
  obtain ⟨o, ho, hd⟩ := fnAt_get B hf
  refine wpAny_call (codeAny_call_function hA.room ho hd hco hgen hbody (codeRec_of B.k hcd) ?_)
  rw [hb, hclo]
  refine wpAny_pure (frame_one hk hkind (hcell _) fun h' hns hgr hc => ?_)
  obtain ⟨oc, hoc, hdc⟩ := hc
  refine ⟨B.lim.keeps hgr, codeAny_func (wpAny_mono (h _ s.heap.objs.size oc _ hdc ⟨B, ⟨hns, hgr, Nat.le_refl _⟩, fun p hp => ?_, rfl, Nat.le_refl _, Nat.succ_pos _, rfl⟩ (hA.deeper _)) (fun f s'' x => by cases f <;> exact x) fun _ _ x => False.elim x)⟩
  rw [List.mem_singleton.mp hp]
  refine ⟨hoc, Nat.succ_ne_self _, ?_⟩
  cases e : s.heap.get? (s.heap.objs.size + 1) with
  | none => rfl
  | some o' => exact absurd (Heap.lt_size e) (Nat.not_lt.mpr (Nat.le_succ _))
end
end

-- part Q1
section
noncomputable def Mo : Bool → Bool → List Nat → List Nat → List Nat
  | _, _, p, [] => p
  | true, true, p, c :: r => Mo true false (p ++ [c]) r
  | false, true, p, c :: r => c :: Mo false false p r
  | true, false, p, c :: r => if c = 92 then Mo true true (p ++ [c]) r else if c = 34 then Mo false false [] r else Mo true false (p ++ [c]) r
  | false, false, p, c :: r => if c = 92 then c :: Mo false true p r else if c = 34 then Mo true false [34] r else c :: Mo false false p r
theorem Mo_len : ∀ (l : List Nat) (i e : Bool) (p : List Nat), (Mo i e p l).length ≤ p.length + l.length
  | [], i, e, p => by cases i <;> cases e <;> simp [Mo]
  | c :: r, true, true, p => by have := Mo_len r true false (p ++ [c]); simp [Mo] at this ⊢; omega
  | c :: r, false, true, p => by have := Mo_len r false false p; simp [Mo] at this ⊢; omega
  | c :: r, true, false, p => by
    have h1 := Mo_len r true true (p ++ [c])
    have h2 := Mo_len r false false []
    have h3 := Mo_len r true false (p ++ [c])
    simp only [Mo]; simp at h1 h2 h3 ⊢
    split
    · omega
    · split <;> omega
  | c :: r, false, false, p => by
    have h1 := Mo_len r false true p
    have h2 := Mo_len r true false [34]
    have h3 := Mo_len r false false p
    simp only [Mo]; simp at h1 h2 h3 ⊢
    split
    · simp; omega
    · split
      · omega
      · simp; omega
theorem Mo_none : ∀ (l : List Nat), 34 ∉ l → ∀ e, Mo false e [] l = l
  | [], _, e => by cases e <;> rfl
  | c :: r, h, e => by
    have hr := Mo_none r (fun hh => h (List.mem_cons_of_mem _ hh))
    have hc : c ≠ 34 := fun hh => h (by rw [hh]; exact List.mem_cons_self)
    cases e
    · simp only [Mo]
      rw [hr, hr]
      split
      · rfl
      · rfl
    · simp only [Mo]; rw [hr]
theorem drop_cut {x : List Nat} {a o : Nat} (h : a ≤ o) : cut a o x ++ x.drop o = x.drop a := by
  unfold cut
  have : x.drop o = (x.drop a).drop (o - a) := by rw [List.drop_drop]; congr 1; omega
  rw [this, List.take_append_drop]
theorem cut_eq (x : List Nat) (a b : Nat) : cut a b x = (x.take b).drop a := by unfold cut; rw [List.drop_take]
theorem take_succ_of {x r : List Nat} {i c : Nat} (h : x.drop i = c :: r) : x.take (i + 1) = x.take i ++ [c] ∧ x.drop (i + 1) = r ∧ i < x.length := by
  have hi : i < x.length := by
    apply Nat.lt_of_not_le; intro hle
    rw [List.drop_of_length_le hle] at h; cases h
  rw [List.drop_eq_getElem_cons hi] at h
  cases h
  refine ⟨?_, rfl, hi⟩
  rw [List.take_succ_eq_append_getElem hi]
theorem take_drop_succ {x r : List Nat} {i c a : Nat} (h : x.drop i = c :: r) (ha : a ≤ i) : (x.take (i + 1)).drop a = (x.take i).drop a ++ [c] := by
  obtain ⟨e1, _, e3⟩ := take_succ_of h
  rw [e1, List.drop_append_of_le_length (by rw [List.length_take]; omega)]
theorem cut_self (x : List Nat) (a : Nat) : cut a a x = [] := by unfold cut; simp
noncomputable abbrev sF (x : List Nat) (st : Nat × Option Nat × List (List Nat)) : List Nat := st.2.2.flatten ++ x.drop st.1
theorem strip_scan (x : List Nat) : ∀ (l : List Nat) (i : Nat), x.drop i = l → ∀ (e : Bool) (st : Nat) (res : List (List Nat)),
    (st ≤ i → sF x ((escI e i l).foldl (stripStep x) (st, none, res)) = res.flatten ++ ((x.take i).drop st ++ Mo false e [] l)) ∧
    (∀ o, st ≤ o → o ≤ i → sF x ((escI e i l).foldl (stripStep x) (st, some o, res)) = res.flatten ++ (cut st o x ++ Mo true e ((x.take i).drop o) l))
  | [], i, h, e, st, res => by
    have hi : x.length ≤ i := by simpa using h
    have ht : x.take i = x := List.take_of_length_le hi
    cases e
    · refine ⟨fun h1 => ?_, fun o h1 h2 => ?_⟩
      · simp [escI, Mo, ht, sF]
      · simp only [escI, Mo, ht, sF, List.foldl_nil]; rw [drop_cut h1]
    · have hs : stripStep x = stripStep x := rfl
      refine ⟨fun h1 => ?_, fun o h1 h2 => ?_⟩
      · simp [escI, Mo, ht, sF, stripStep]
      · simp only [escI, Mo, ht, sF, List.foldl_cons, List.foldl_nil, stripStep]
        rw [if_neg (by simp)]
        rw [drop_cut h1]
  | c :: r, i, h, true, st, res => by
    obtain ⟨e1, e2, e3⟩ := take_succ_of h
    obtain ⟨n, s⟩ := strip_scan x r (i + 1) e2 false st res
    have hst : ∀ q, stripStep x q (i, [92, c]) = q := fun q => by unfold stripStep; rw [if_neg (by simp)]
    simp only [escI, List.foldl_cons, hst]
    refine ⟨fun h1 => ?_, fun o h1 h2 => ?_⟩
    · rw [n (by omega), take_drop_succ h h1]; simp [Mo]
    · rw [s o h1 (by omega), take_drop_succ h h2]; simp [Mo]
  | c :: r, i, h, false, st, res => by
    obtain ⟨e1, e2, e3⟩ := take_succ_of h
    by_cases hc : c = 92
    · obtain ⟨n, s⟩ := strip_scan x r (i + 1) e2 true st res
      simp only [escI, if_pos hc]
      refine ⟨fun h1 => ?_, fun o h1 h2 => ?_⟩
      · rw [n (by omega), take_drop_succ h h1]; simp [Mo, hc]
      · rw [s o h1 (by omega), take_drop_succ h h2]; simp [Mo, hc]
    · simp only [escI, if_neg hc, List.foldl_cons]
      by_cases hq : c = 34
      · subst hq
        refine ⟨fun h1 => ?_, fun o h1 h2 => ?_⟩
        · have hs : stripStep x (st, none, res) (i, [34]) = (st, some i, res) := by simp [stripStep]
          rw [hs, (strip_scan x r (i + 1) e2 false st res).2 i h1 (by omega), take_drop_succ h (Nat.le_refl _), cut_eq]
          simp [Mo]
        · have hs : stripStep x (st, some o, res) (i, [34]) = (i + 1, none, if st ≠ o then res ++ [cut st o x] else res) := by simp [stripStep]
          rw [hs, (strip_scan x r (i + 1) e2 false (i + 1) _).1 (Nat.le_refl _)]
          have h0 : (x.take (i + 1)).drop (i + 1) = [] := by simp
          rw [h0]
          by_cases ho : st = o
          · subst ho; simp [cut_self, Mo]
          · simp [ho, Mo]
      · have hs : ∀ q, stripStep x q (i, [c]) = q := fun q => by unfold stripStep; rw [if_neg (by simpa using hq)]
        simp only [hs]
        obtain ⟨n, s⟩ := strip_scan x r (i + 1) e2 false st res
        refine ⟨fun h1 => ?_, fun o h1 h2 => ?_⟩
        · rw [n (by omega), take_drop_succ h h1]; simp [Mo, hc, hq]
        · rw [s o h1 (by omega), take_drop_succ h h2]; simp [Mo, hc, hq]
theorem strip_Mo (x : List Nat) : stripF x = Mo false false [] x := by
  unfold stripF
  split
  · have h := (strip_scan x x 0 rfl false 0 []).1 (Nat.le_refl _)
    have h' : sF x (stripEnd x) = Mo false false [] x := by simpa [stripEnd] using h
    rw [← h']
    split
    · simp [sF]
    · rename_i hl
      simp [sF, List.drop_of_length_le (Nat.le_of_not_lt hl)]
  · rename_i h
    rw [Mo_none x h]
theorem strip_len (x : List Nat) : (stripF x).length ≤ x.length := by
  rw [strip_Mo]; have := Mo_len x false false []; simpa using this
end

-- part Q2
section
noncomputable def En : Bool → List Nat → List Nat
  | false, [] => []
  | true, [] => [92]
  | true, c :: r => if c = 92 then 1 :: En false r else if c = 34 then 2 :: En false r else 92 :: c :: En false r
  | false, c :: r => if c = 92 then En true r else c :: En false r
theorem rep2_ne {a b c : Nat} {z : List Nat} (h : c ≠ a) : ∀ l, rep2 a b z (c :: l) = c :: rep2 a b z l
  | [] => rfl
  | d :: r => by rw [rep2, if_neg (fun x => h x.1)]
theorem rep2_ne2 {a b c d : Nat} {z : List Nat} (h : d ≠ b) (h2 : d ≠ a) (l : List Nat) : rep2 a b z (c :: d :: l) = c :: d :: rep2 a b z l := by
  rw [rep2, if_neg (fun x => h x.2), rep2_ne h2]
theorem rep2_hit (a b : Nat) (z l : List Nat) : rep2 a b z (a :: b :: l) = z ++ rep2 a b z l := by rw [rep2, if_pos ⟨rfl, rfl⟩]
theorem enc_En : ∀ (n : Nat) (x : List Nat), x.length ≤ n → rep2 92 34 [2] (rep2 92 92 [1] x) = En false x
  | _, [], _ => by simp [rep2, En]
  | _, [c], _ => by
    by_cases hc : c = 92
    · subst hc; simp [rep2, En]
    · simp [rep2, En, hc]
  | 0, a :: b :: r, h => by simp at h
  | n + 1, a :: b :: r, h => by
    have h1 := enc_En n r (by simp at h; omega)
    by_cases ha : a = 92
    · subst ha
      by_cases hb : b = 92
      · subst hb
        rw [rep2_hit]
        show rep2 92 34 [2] (1 :: rep2 92 92 [1] r) = _
        rw [rep2_ne (by decide), h1]; simp [En]
      · rw [rep2_ne2 hb hb]
        by_cases hq : b = 34
        · subst hq; rw [rep2_hit, h1]; simp [En]
        · rw [rep2_ne2 hq hb, h1]; simp [En, hb, hq]
    · have h2 := enc_En n (b :: r) (by simp at h ⊢; omega)
      rw [rep2_ne ha, rep2_ne ha, h2]
      simp only [En, if_neg ha]
noncomputable def KP : List (List Nat) → List Nat
  | [] => []
  | [a] => a
  | [a, b] => a ++ 34 :: b
  | a :: _ :: c :: r => a ++ KP (c :: r)
noncomputable def KPi (p : List Nat) : List (List Nat) → List Nat
  | [] => p
  | [h] => p ++ h
  | _ :: c :: r => KP (c :: r)
theorem KP_i (a b : List Nat) (r : List (List Nat)) : KP (a :: b :: r) = a ++ KPi [34] (b :: r) := by
  cases r <;> simp [KP, KPi]
theorem KP_kept : ∀ (n : Nat) (ps : List (List Nat)) (h : ps ≠ []), ps.length ≤ n → (evens ps).flatten ++ (if ps.length % 2 = 0 then [34] ++ ps.getLast h else []) = KP ps
  | _, [a], _, _ => by simp [evens, KP]
  | _, [a, b], _, _ => by simp [evens, KP]
  | 0, a :: b :: c :: r, _, h => by simp at h
  | n + 1, a :: b :: c :: r, _, h => by
    have ih := KP_kept n (c :: r) (by simp) (by simp at h ⊢; omega)
    rw [KP, ← ih]
    simp only [evens, List.flatten_cons, List.append_assoc, List.length_cons, List.getLast_cons_cons]
    congr 2
    by_cases hp : (r.length + 1) % 2 = 0
    · rw [if_pos hp, if_pos (show (r.length + 1 + 1 + 1) % 2 = 0 by omega)]
    · rw [if_neg hp, if_neg (show ¬ (r.length + 1 + 1 + 1) % 2 = 0 by omega)]
noncomputable def Km : Bool → List Nat → List Nat → List Nat
  | _, p, [] => p
  | true, p, c :: r => if c = 34 then Km false [] r else Km true (p ++ [c]) r
  | false, p, c :: r => if c = 34 then Km true [34] r else c :: Km false p r
theorem spl34 (c : Nat) (r : List Nat) : spl [34] 0 (c :: r) = if c = 34 then [] :: spl [34] 0 r else consHead c (spl [34] 0 r) := by
  rw [spl, one_pre]
  by_cases h : c = 34
  · rw [if_pos (by simpa using h), if_pos h]; rfl
  · rw [if_neg (by simpa using h), if_neg h]
theorem KP_Km : ∀ (z : List Nat), KP (spl [34] 0 z) = Km false [] z ∧ ∀ p, KPi p (spl [34] 0 z) = Km true p z
  | [] => ⟨rfl, fun p => by simp [spl, KPi, Km]⟩
  | c :: r => by
    obtain ⟨h1, h2⟩ := KP_Km r
    obtain ⟨a, t, e⟩ := List.exists_cons_of_ne_nil (spl_ne [34] 0 r)
    rw [spl34]
    by_cases hc : c = 34
    · simp only [if_pos hc, Km]
      rw [e] at h1 h2 ⊢
      refine ⟨?_, fun p => ?_⟩
      · rw [KP_i, h2]; rfl
      · show KP (a :: t) = _
        exact h1
    · simp only [if_neg hc, Km]
      rw [← h1]
      simp only [← h2]
      rw [e]
      refine ⟨?_, fun p => ?_⟩
      · cases t with
        | nil => simp [consHead, KP]
        | cons b t => simp only [consHead]; rw [KP_i, KP_i]; simp
      · cases t with
        | nil => simp [consHead, KPi]
        | cons b t => simp [consHead, KPi]
theorem kept_Km (x : List Nat) : kept x = Km false [] (En false x) := by
  unfold kept
  rw [KP_kept _ (pieces x) (pieces_ne x) (Nat.le_refl _)]
  unfold pieces
  rw [enc_En _ x (Nat.le_refl _)]
  exact (KP_Km _).1
noncomputable def De (l : List Nat) : List Nat := rep1 1 [92, 92] (rep1 2 [92, 34] l)
theorem De_app (a b : List Nat) : De (a ++ b) = De a ++ De b := by simp [De, rep1]
theorem De_cons {c : Nat} (h1 : c ≠ 1) (h2 : c ≠ 2) (l : List Nat) : De (c :: l) = c :: De l := by simp [De, rep1, h1, h2]
theorem De_1 (l : List Nat) : De (1 :: l) = 92 :: 92 :: De l := by simp [De, rep1]
theorem De_2 (l : List Nat) : De (2 :: l) = 92 :: 34 :: De l := by simp [De, rep1]
theorem De_nil : De [] = [] := rfl
theorem De_Km : ∀ (l : List Nat), 1 ∉ l → 2 ∉ l →
    (∀ p, De (Km true p (En false l)) = Mo true false (De p) l) ∧ (∀ p, De (Km true p (En true l)) = Mo true true (De p ++ [92]) l) ∧
    De (Km false [] (En false l)) = Mo false false [] l ∧ De (Km false [] (En true l)) = 92 :: Mo false true [] l
  | [], _, _ => by
    refine ⟨fun p => rfl, fun p => ?_, rfl, rfl⟩
    simp [En, Km, Mo, De_app, De_cons, De_nil]
  | c :: r, g1, g2 => by
    obtain ⟨a1, a2, a3, a4⟩ := De_Km r (fun h => g1 (List.mem_cons_of_mem _ h)) (fun h => g2 (List.mem_cons_of_mem _ h))
    have c1 : c ≠ 1 := fun h => g1 (by rw [h]; exact List.mem_cons_self)
    have c2 : c ≠ 2 := fun h => g2 (by rw [h]; exact List.mem_cons_self)
    by_cases h92 : c = 92
    · subst h92
      refine ⟨fun p => ?_, fun p => ?_, ?_, ?_⟩
      · simp only [En, Mo, if_true]; rw [a2]
      · simp only [En, Mo, if_true, Km]; rw [if_neg (by decide), a1, De_app, De_1]; simp [De_nil]
      · simp only [En, Mo, if_true]; rw [a4]
      · simp only [En, Mo, if_true, Km]; rw [if_neg (by decide), De_1, a3]
    · by_cases h34 : c = 34
      · subst h34
        refine ⟨fun p => ?_, fun p => ?_, ?_, ?_⟩
        · simp only [En, Mo, if_true, if_neg h92, Km]; rw [a3]
        · simp only [En, Mo, if_true, if_neg h92, Km]; rw [if_neg (by decide), a1, De_app, De_2]; simp [De_nil]
        · simp only [En, Mo, if_true, if_neg h92, Km]; rw [a1]; rfl
        · simp only [En, Mo, if_true, if_neg h92, Km]; rw [if_neg (by decide), De_2, a3]
      · refine ⟨fun p => ?_, fun p => ?_, ?_, ?_⟩
        · simp only [En, Mo, if_neg h92, if_neg h34, Km]; rw [a1, De_app, De_cons c1 c2]; rfl
        · simp only [En, Mo, if_neg h92, if_neg h34, Km]; rw [if_neg (by decide), a1, De_app, De_app, De_cons c1 c2, De_cons (by decide) (by decide)]; simp [De_nil]
        · simp only [En, Mo, if_neg h92, if_neg h34, Km]; rw [De_cons c1 c2, a3]
        · simp only [En, Mo, if_neg h92, if_neg h34, Km]; rw [if_neg (by decide), De_cons (by decide) (by decide), De_cons c1 c2, a3]
theorem outside_Mo (x : List Nat) (h1 : 1 ∉ x) (h2 : 2 ∉ x) : outside x = Mo false false [] x := by
  show De (kept x) = _
  rw [kept_Km]
  exact (De_Km x h1 h2).2.2.1
theorem strip_outside (x : List Nat) (h1 : 1 ∉ x) (h2 : 2 ∉ x) : stripF x = outside x := by rw [strip_Mo, outside_Mo x h1 h2]
end

-- part Q3
section
noncomputable def Rw : Bool → List Nat → List Nat
  | _, [] => []
  | true, _ :: r => Rw false r
  | false, c :: r => if c = 92 then Rw true r else if c = 40 ∨ c = 41 then c :: Rw false r else Rw false r
noncomputable abbrev par (l : List Nat) : List Nat := l.filter fun c => decide (c ∈ [40, 41])
theorem par_cons (c : Nat) (l : List Nat) : par (c :: l) = if c = 40 ∨ c = 41 then c :: par l else par l := by
  simp only [par, List.filter_cons]
  by_cases h : c = 40 ∨ c = 41
  · rw [if_pos h, if_pos (by simpa using h)]
  · rw [if_neg h, if_neg (by simpa using h)]
theorem row_Rw : ∀ (n : Nat) (x : List Nat), x.length ≤ n → rowOf x = Rw false x
  | _, [], _ => by simp [rowOf, plainOf, rep2, Rw]
  | _, [c], _ => by
    show par (rep2 92 41 [] (rep2 92 40 [] (rep2 92 92 [] [c]))) = _
    simp only [rep2, par_cons, Rw]
    by_cases hc : c = 92
    · subst hc; simp
    · simp only [if_neg hc]
      rfl
  | 0, a :: b :: r, h => by simp at h
  | n + 1, a :: b :: r, h => by
    have h1 : par (rep2 92 41 [] (rep2 92 40 [] (rep2 92 92 [] r))) = Rw false r := row_Rw n r (by simp at h; omega)
    show par (rep2 92 41 [] (rep2 92 40 [] (rep2 92 92 [] (a :: b :: r)))) = _
    by_cases ha : a = 92
    · subst ha
      have hR : Rw false (92 :: b :: r) = Rw false r := by simp [Rw]
      rw [hR, ← h1]
      by_cases hb : b = 92
      · subst hb; rw [rep2_hit]; rfl
      · rw [rep2_ne2 hb hb]
        by_cases h40 : b = 40
        · subst h40; rw [rep2_hit]; rfl
        · rw [rep2_ne2 h40 hb]
          by_cases h41 : b = 41
          · subst h41; rw [rep2_hit]; rfl
          · rw [rep2_ne2 h41 hb, par_cons, par_cons, if_neg (by decide), if_neg (by omega)]
    · have h2 : par (rep2 92 41 [] (rep2 92 40 [] (rep2 92 92 [] (b :: r)))) = Rw false (b :: r) := row_Rw n (b :: r) (by simp at h ⊢; omega)
      rw [rep2_ne ha, rep2_ne ha, rep2_ne ha, par_cons, h2]
      simp only [Rw, if_neg ha]
noncomputable def chk : List Nat → Int → Bool
  | [], o => decide (o = 0)
  | c :: r, o => if c = 40 then chk r (o + 1) else if o - 1 < 0 then false else chk r (o - 1)
theorem check_chk : ∀ (u : List Nat) (e : Bool) (i : Nat) (o : Int), checkGo (escI e i u) o = chk (Rw e u) o
  | [], true, i, o => by simp [escI, checkGo, Rw, chk]
  | [], false, i, o => by simp [escI, checkGo, Rw, chk]
  | c :: r, true, i, o => by
    rw [escI, checkGo, if_neg (by simp), if_neg (by simp), check_chk r]; rfl
  | c :: r, false, i, o => by
    simp only [escI, Rw]
    by_cases h : c = 92
    · rw [if_pos h, if_pos h, check_chk r]
    · rw [if_neg h, if_neg h, checkGo]
      by_cases h40 : c = 40
      · subst h40; rw [if_pos rfl, if_pos (.inl rfl), chk, if_pos rfl, check_chk r]
      · rw [if_neg (by simpa using h40)]
        by_cases h41 : c = 41
        · subst h41
          have e : (if (41:Nat) = 40 ∨ (41:Nat) = 41 then 41 :: Rw false r else Rw false r) = 41 :: Rw false r := if_pos (.inr rfl)
          rw [if_pos rfl, e, check_chk r]; rfl
        · rw [if_neg (by simpa using h41), if_neg (by omega), check_chk r]
noncomputable abbrev Br (l : List Nat) : Prop := ∀ c ∈ l, c = 40 ∨ c = 41
theorem rep2_sub (a b : Nat) {P : Nat → Prop} : ∀ (n : Nat) (l : List Nat), l.length ≤ n → (∀ c ∈ l, P c) → ∀ c ∈ rep2 a b [] l, P c
  | _, [], _, _ => by simp [rep2]
  | _, [x], _, h => by simpa [rep2] using h
  | 0, x :: y :: r, h, _ => by simp at h
  | n + 1, x :: y :: r, hn, h => by
    have h1 := rep2_sub a b n r (by simp at hn; omega) (fun c hc => h c (List.mem_cons_of_mem _ (List.mem_cons_of_mem _ hc)))
    have h2 := rep2_sub a b n (y :: r) (by simp at hn ⊢; omega) (fun c hc => h c (List.mem_cons_of_mem _ hc))
    simp only [rep2]
    split
    · exact h1
    · intro c hc
      rcases List.mem_cons.mp hc with rfl | hc
      · exact h _ List.mem_cons_self
      · exact h2 c hc
theorem chk_rep : ∀ (n : Nat) (l : List Nat), l.length ≤ n → Br l → ∀ o : Int, 0 ≤ o → chk (rep2 40 41 [] l) o = chk l o
  | _, [], _, _, o, _ => by simp [rep2]
  | _, [x], _, h, o, _ => by simp [rep2]
  | 0, x :: y :: r, h, _, _, _ => by simp at h
  | n + 1, x :: y :: r, hn, h, o, ho => by
    have h1 := chk_rep n r (by simp at hn; omega) (fun c hc => h c (List.mem_cons_of_mem _ (List.mem_cons_of_mem _ hc)))
    have h2 := chk_rep n (y :: r) (by simp at hn ⊢; omega) (fun c hc => h c (List.mem_cons_of_mem _ hc))
    simp only [rep2]
    split
    · rename_i hx
      obtain ⟨rfl, rfl⟩ := hx
      show chk (rep2 40 41 [] r) o = _
      rw [h1 o ho, chk, if_pos rfl, chk, if_neg (by decide), if_neg (by omega)]
      congr 1; omega
    · rw [chk, chk]
      split
      · rw [h2 _ (by omega)]
      · split
        · rfl
        · rw [h2 _ (by omega)]
theorem chk_open : ∀ (r : List Nat) (o : Int), Br r → 0 ≤ o → has2 40 41 (40 :: r) = false → chk (40 :: r) o = false
  | [], o, _, ho, _ => by simp [chk]; omega
  | c :: r, o, h, ho, hh => by
    simp only [has2, Bool.or_eq_false_iff, decide_eq_false_iff_not] at hh
    have hc : c = 40 := (h c List.mem_cons_self).resolve_right (fun e => hh.1 (by simpa using e))
    subst hc
    rw [chk, if_pos rfl]
    exact chk_open r (o + 1) (fun c hc => h c (List.mem_cons_of_mem _ hc)) (by omega) hh.2
theorem chk_irred : ∀ (l : List Nat), Br l → has2 40 41 l = false → chk l 0 = decide (l = [])
  | [], _, _ => by simp [chk]
  | c :: r, h, hh => by
    rcases h c List.mem_cons_self with rfl | rfl
    · rw [chk_open r 0 (fun c hc => h c (List.mem_cons_of_mem _ hc)) (by omega) hh]; simp
    · simp [chk]
theorem red_chk : ∀ (n : Nat) (l : List Nat), l.length ≤ n → Br l → chk l 0 = decide (red l = []) := by
  intro n
  induction n with
  | zero =>
    intro l hl _
    have : l = [] := List.length_eq_zero_iff.mp (by omega)
    subst this
    rw [red, dif_neg (by simp [has2])]; simp [chk]
  | succ n ih =>
    intro l hl h
    rw [red]
    split
    · rename_i hh
      have hless := rep2_less 40 41 (by decide) _ l (Nat.le_refl _) hh
      rw [← chk_rep _ l (Nat.le_refl _) h 0 (by omega)]
      exact ih _ (by omega) (rep2_sub 40 41 _ l (Nat.le_refl _) h)
    · rename_i hh
      exact chk_irred l h (by simpa using hh)
theorem Rw_br : ∀ (u : List Nat) (e : Bool), Br (Rw e u)
  | [], e => by intro c hc; cases e <;> simp [Rw] at hc
  | c :: r, true => by simp only [Rw]; exact Rw_br r false
  | c :: r, false => by
    have h1 := Rw_br r true
    have h2 := Rw_br r false
    simp only [Rw]
    split
    · exact h1
    · split
      · rename_i hc
        intro d hd
        rcases List.mem_cons.mp hd with rfl | hd
        · exact hc
        · exact h2 d hd
      · exact h2
theorem closed_check (u : List Nat) : checkGo (escI false 0 u) 0 = closedF u := by
  unfold closedF
  rw [check_chk, row_Rw _ u (Nat.le_refl _)]
  exact red_chk _ _ (Nat.le_refl _) (Rw_br _ _)
theorem check_closed (x : List Nat) : checkF x = closedF (stripF x) := closed_check _
end

-- part Q4
section
theorem rep1_flat (c : Nat) (z : List Nat) (f : Nat → List Nat) (x : List Nat) : rep1 c z (x.flatMap f) = x.flatMap fun a => rep1 c z (f a) := by
  unfold rep1; rw [List.flatMap_assoc]
theorem rep1_as (c : Nat) (z x : List Nat) : rep1 c z x = x.flatMap fun a => rep1 c z [a] := by
  unfold rep1; congr 1; funext a; simp
theorem flat_congr {f g : Nat → List Nat} : ∀ {x : List Nat}, (∀ a ∈ x, f a = g a) → x.flatMap f = x.flatMap g
  | [], _ => rfl
  | a :: r, h => by
    rw [List.flatMap_cons, List.flatMap_cons, h a List.mem_cons_self, flat_congr (fun b hb => h b (List.mem_cons_of_mem _ hb))]
theorem rep1_absent {c : Nat} {z x : List Nat} (h : c ∉ x) : rep1 c z x = x := by
  induction x with
  | nil => rfl
  | cons a r ih =>
    have := ih (fun hh => h (List.mem_cons_of_mem _ hh))
    unfold rep1 at this ⊢
    rw [List.flatMap_cons, this, if_neg (fun e => h (by rw [e]; exact List.mem_cons_self))]; rfl
theorem rep1_one {c a : Nat} {z : List Nat} (h : a ≠ c) : rep1 c z [a] = [a] := by simp [rep1, h]
theorem rep1_self (c : Nat) (z : List Nat) : rep1 c z [c] = z := by simp [rep1]
theorem esc1_signs (x : List Nat) : esc1 x = signsF tb1 x := by
  unfold esc1 signsF
  rw [rep1_as 38, rep1_flat, rep1_flat]
  refine flat_congr fun a _ => ?_
  by_cases h1 : a = 38
  · subst h1; decide
  · by_cases h2 : a = 60
    · subst h2; decide
    · by_cases h3 : a = 62
      · subst h3; decide
      · rw [rep1_one h1, rep1_one h2, rep1_one h3]
        simp [look, tb1, List.lookup, beq_eq_false_iff_ne.mpr h1, beq_eq_false_iff_ne.mpr h2, beq_eq_false_iff_ne.mpr h3]
theorem esc2_signs (x : List Nat) : esc2 x = signsF tb2 x := by
  unfold esc2 signsF
  rw [rep1_as 38, rep1_flat, rep1_flat, rep1_flat]
  refine flat_congr fun a _ => ?_
  by_cases h1 : a = 38
  · subst h1; decide
  · by_cases h2 : a = 60
    · subst h2; decide
    · by_cases h3 : a = 62
      · subst h3; decide
      · by_cases h4 : a = 13
        · subst h4; decide
        · rw [rep1_one h1, rep1_one h2, rep1_one h3, rep1_one h4]
          simp [look, tb2, List.lookup, beq_eq_false_iff_ne.mpr h1, beq_eq_false_iff_ne.mpr h2, beq_eq_false_iff_ne.mpr h3, beq_eq_false_iff_ne.mpr h4]
theorem esc3_signs (x : List Nat) (h10 : 10 ∉ x) : esc3 x = signsF tb3 x := by
  unfold esc3 signsF
  rw [rep1_as 38, rep1_flat, rep1_flat, rep1_flat, rep1_flat, rep1_flat]
  refine flat_congr fun a ha => ?_
  have h0 : a ≠ 10 := fun e => h10 (by rw [← e]; exact ha)
  by_cases h1 : a = 38
  · subst h1; decide
  · by_cases h2 : a = 60
    · subst h2; decide
    · by_cases h3 : a = 34
      · subst h3; decide
      · by_cases h4 : a = 13
        · subst h4; decide
        · by_cases h5 : a = 9
          · subst h5; decide
          · rw [rep1_one h1, rep1_one h2, rep1_one h3, rep1_one h5, rep1_one h0, rep1_one h4]
            simp [look, tb3, List.lookup, beq_eq_false_iff_ne.mpr h1, beq_eq_false_iff_ne.mpr h2, beq_eq_false_iff_ne.mpr h3, beq_eq_false_iff_ne.mpr h4, beq_eq_false_iff_ne.mpr h5]
/-- what is asked of a writing that leaves the marks -/
structure Keeps (f : Nat → List Nat) : Prop where
  mark : f 34 = [34]
  back : f 92 = [92]
  other : ∀ c, c ≠ 34 → c ≠ 92 → 34 ∉ f c ∧ 92 ∉ f c
  some : ∀ c, f c ≠ []
theorem look_cases (tb : List (Nat × List Nat)) (c : Nat) : look tb c = [c] ∨ ∃ p ∈ tb, p.1 = c ∧ look tb c = p.2 := by
  unfold look
  induction tb with
  | nil => left; rfl
  | cons q r ih =>
    rw [show List.lookup c (q :: r) = if c == q.1 then some q.2 else List.lookup c r by
      obtain ⟨a, b⟩ := q; simp only [List.lookup]; split <;> simp_all]
    by_cases h : c = q.1
    · rw [if_pos (by simpa using h)]
      exact .inr ⟨q, List.mem_cons_self, h.symm, rfl⟩
    · rw [if_neg (by simpa using h)]
      rcases ih with e | ⟨p, hp, e1, e2⟩
      · exact .inl e
      · exact .inr ⟨p, List.mem_cons_of_mem _ hp, e1, e2⟩
theorem look_good (tb : List (Nat × List Nat)) (h1 : ∀ p ∈ tb, p.2 ≠ []) (h2 : ∀ p ∈ tb, 34 ∉ p.2 ∧ 92 ∉ p.2) (e34 : look tb 34 = [34]) (e92 : look tb 92 = [92]) : Keeps (look tb) := by
  refine ⟨e34, e92, fun c a b => ?_, fun c => ?_⟩
  · rcases look_cases tb c with e | ⟨p, hp, _, e⟩
    · rw [e]; simp [Ne.symm a, Ne.symm b]
    · rw [e]; exact h2 p hp
  · rcases look_cases tb c with e | ⟨p, hp, _, e⟩
    · rw [e]; simp
    · rw [e]; exact h1 p hp
theorem keeps1 : Keeps (look tb1) := look_good tb1 (by decide) (by decide) (by decide) (by decide)
theorem keeps2 : Keeps (look tb2) := look_good tb2 (by decide) (by decide) (by decide) (by decide)
theorem look_len (tb : List (Nat × List Nat)) (k : Nat) (hk : 1 ≤ k) (h : ∀ p ∈ tb, p.2.length ≤ k) (c : Nat) : (look tb c).length ≤ k := by
  rcases look_cases tb c with e | ⟨p, hp, _, e⟩
  · rw [e]; simpa using hk
  · rw [e]; exact h p hp
theorem look_low (tb : List (Nat × List Nat)) (h : ∀ p ∈ tb, 1 ∉ p.2 ∧ 2 ∉ p.2) (x : List Nat) (hx : 1 ∉ x ∧ 2 ∉ x) : 1 ∉ signsF tb x ∧ 2 ∉ signsF tb x := by
  have key : ∀ k, (∀ p ∈ tb, k ∉ p.2) → k ∉ x → k ∉ signsF tb x := fun k hk hxk hm => by
    obtain ⟨c, hc, hm⟩ := List.mem_flatMap.mp hm
    rcases look_cases tb c with e | ⟨p, hp, _, e⟩
    · rw [e] at hm; rw [List.mem_singleton.mp hm] at hxk; exact hxk hc
    · rw [e] at hm; exact hk p hp hm
  exact ⟨key 1 (fun p hp => (h p hp).1) hx.1, key 2 (fun p hp => (h p hp).2) hx.2⟩
theorem signs_len (tb : List (Nat × List Nat)) (k : Nat) (h : ∀ c, (look tb c).length ≤ k) : ∀ x : List Nat, (signsF tb x).length ≤ k * x.length
  | [] => by simp [signsF]
  | a :: r => by
    have := signs_len tb k h r
    have h1 := h a
    unfold signsF at this ⊢
    rw [List.flatMap_cons, List.length_append, List.length_cons, Nat.mul_succ]
    omega
end

-- part Q5
section
noncomputable abbrev Ps := List (List Nat × List Nat)
noncomputable def dbl (x : List Nat) : List Nat := rep1 34 [34, 34] x
theorem dbl_34 (x : List Nat) : dbl (34 :: x) = 34 :: 34 :: dbl x := by simp [dbl, rep1]
theorem dbl_ne {c : Nat} (h : c ≠ 34) (x : List Nat) : dbl (c :: x) = c :: dbl x := by simp [dbl, rep1, h]
theorem dbl_len : ∀ x : List Nat, (dbl x).length = x.length + x.count 34
  | [] => rfl
  | c :: r => by
    have ih := dbl_len r
    by_cases h : c = 34
    · subst h; rw [dbl_34, List.count_cons_self]; simp only [List.length_cons]; omega
    · rw [dbl_ne h, List.count_cons_of_ne (by simpa using h)]; simp only [List.length_cons]; omega
noncomputable def tail5 (g : List Nat) (ps : Ps) : List Nat := g ++ ps.flatMap fun p => quoted p.1 ++ p.2
noncomputable def rest5 (n g : List Nat) (ps : Ps) : List Nat := dbl n ++ 34 :: tail5 g ps
theorem tail5_cons (g : List Nat) (p : List Nat × List Nat) (ps : Ps) : tail5 g (p :: ps) = g ++ 34 :: rest5 p.1 p.2 ps := by
  simp [tail5, rest5, quoted, dbl]
theorem tail5_nil (g : List Nat) : tail5 g [] = g := by simp [tail5]
theorem pq_ne {c : Nat} (h : c ≠ 34) : ∀ l, pq (c :: l) = c :: pq l
  | [] => by simp [pq, h]
  | d :: r => by rw [pq, if_neg h]
theorem pq_two (l : List Nat) : pq (34 :: 34 :: l) = 34 :: pq l := by rw [pq, if_pos rfl, if_pos rfl]
theorem pq_end (rest : List Nat) (h : rest.head? ≠ some 34) : ∀ n, pq (dbl n ++ 34 :: rest) = n
  | [] => by
    show pq (34 :: rest) = []
    cases rest with
    | nil => simp [pq]
    | cons d r => rw [pq, if_pos rfl, if_neg (fun e => h (by rw [e]; rfl))]
  | c :: n => by
    have ih := pq_end rest h n
    by_cases hc : c = 34
    · subst hc; rw [dbl_34]; simp only [List.cons_append]; rw [pq_two, ih]
    · rw [dbl_ne hc, List.cons_append, pq_ne hc, ih]
theorem pq_more (r : List Nat) : ∀ n, pq (dbl n ++ 34 :: 34 :: r) = n ++ 34 :: pq r
  | [] => by show pq (34 :: 34 :: r) = _; rw [pq_two]; rfl
  | c :: n => by
    have ih := pq_more r n
    by_cases hc : c = 34
    · subst hc; rw [dbl_34]; simp only [List.cons_append]; rw [pq_two, ih]
    · rw [dbl_ne hc, List.cons_append, pq_ne hc, ih]; rfl
noncomputable def rdl : List Nat → List Nat → Ps → List (List Nat)
  | cur, g, [] => [cur, g]
  | cur, g, p :: ps => if g = [] then rdl (cur ++ 34 :: p.1) p.2 ps else cur :: g :: rdl p.1 p.2 ps
theorem rdl_pre : ∀ (ps : Ps) (a cur g : List Nat), ∃ h t, rdl cur g ps = h :: t ∧ rdl (a ++ cur) g ps = (a ++ h) :: t
  | [], a, cur, g => ⟨cur, [g], rfl, rfl⟩
  | p :: ps, a, cur, g => by
    unfold rdl
    by_cases hg : g = []
    · rw [if_pos hg, if_pos hg, List.append_assoc]
      exact rdl_pre ps a _ _
    · rw [if_neg hg, if_neg hg]
      exact ⟨_, _, rfl, rfl⟩
theorem place_of {g rest : List Nat} (h : 34 ∉ g) : place (g ++ 34 :: rest) = g.length := by
  unfold place
  induction g with
  | nil => simp
  | cons a r ih =>
    have ha : a ≠ 34 := fun e => h (by rw [e]; exact List.mem_cons_self)
    rw [List.cons_append, List.takeWhile_cons_of_pos (by simpa using ha), List.length_cons, ih (fun hh => h (List.mem_cons_of_mem _ hh)), List.length_cons]
theorem readF_none {l : List Nat} (h : 34 ∉ l) : readF l = [l] := by rw [readF, dif_neg h]
theorem readF_step {g rest : List Nat} (h : 34 ∉ g) : readF (g ++ 34 :: rest) = g :: pq rest :: readF (rest.drop ((pq rest).length + (pq rest).count 34 + 1)) := by
  have hd : (g ++ 34 :: rest).drop (g.length + 1) = rest := by
    rw [List.drop_append]; simp
  rw [readF, dif_pos (by simp), place_of h, hd]
  have h2 : (g ++ 34 :: rest).drop (g.length + 2 + (pq rest).length + (pq rest).count 34) = rest.drop ((pq rest).length + (pq rest).count 34 + 1) := by
    have := congrArg (fun l => l.drop ((pq rest).length + (pq rest).count 34 + 1)) hd
    simp only [List.drop_drop] at this
    rw [← this]; congr 1; omega
  rw [h2, List.take_left]
theorem read_rdl : ∀ (ps : Ps) (n g : List Nat), 34 ∉ g → (∀ p ∈ ps, 34 ∉ p.2) →
    pq (rest5 n g ps) :: readF ((rest5 n g ps).drop ((pq (rest5 n g ps)).length + (pq (rest5 n g ps)).count 34 + 1)) = rdl n g ps
  | [], n, g, hg, _ => by
    have e : rest5 n g [] = dbl n ++ 34 :: g := by rw [rest5, tail5_nil]
    have hp : pq (rest5 n g []) = n := by rw [e]; exact pq_end g (fun hh => hg (List.mem_of_mem_head? hh)) n
    rw [hp, e, ← dbl_len]
    have : (dbl n ++ 34 :: g).drop ((dbl n).length + 1) = g := by rw [List.drop_append]; simp
    rw [this, readF_none hg]; rfl
  | p :: ps, n, g, hg, hps => by
    have ih := read_rdl ps p.1 p.2 (hps p List.mem_cons_self) (fun q hq => hps q (List.mem_cons_of_mem _ hq))
    have e : rest5 n g (p :: ps) = dbl n ++ 34 :: (g ++ 34 :: rest5 p.1 p.2 ps) := by rw [rest5, tail5_cons]
    unfold rdl
    by_cases h0 : g = []
    · rw [if_pos h0]
      subst h0
      simp only [List.nil_append] at e
      have hp : pq (rest5 n [] (p :: ps)) = n ++ 34 :: pq (rest5 p.1 p.2 ps) := by rw [e, pq_more]
      obtain ⟨h, t, e1, e2⟩ := rdl_pre ps (n ++ [34]) p.1 p.2
      rw [← ih] at e1
      obtain ⟨rfl, rfl⟩ := List.cons.inj e1
      rw [show n ++ 34 :: p.1 = n ++ [34] ++ p.1 by simp, e2, hp, e]
      congr 1
      · simp
      · congr 1
        rw [List.length_append, List.count_append, List.length_cons, List.count_cons_self]
        have hd : (dbl n ++ 34 :: 34 :: rest5 p.1 p.2 ps).drop ((dbl n).length + 2) = rest5 p.1 p.2 ps := by rw [List.drop_append]; simp
        have := congrArg (fun l => l.drop ((pq (rest5 p.1 p.2 ps)).length + (pq (rest5 p.1 p.2 ps)).count 34 + 1)) hd
        simp only [List.drop_drop] at this
        rw [← this]; congr 1
        rw [dbl_len]; omega
    · rw [if_neg h0]
      have hp : pq (rest5 n g (p :: ps)) = n := by
        rw [e]; refine pq_end _ (fun hh => hg ?_) n
        cases g with
        | nil => exact absurd rfl h0
        | cons a r => cases hh; exact List.mem_cons_self
      rw [hp, e, ← dbl_len]
      have : (dbl n ++ 34 :: (g ++ 34 :: rest5 p.1 p.2 ps)).drop ((dbl n).length + 1) = g ++ 34 :: rest5 p.1 p.2 ps := by rw [List.drop_append]; simp
      rw [this, readF_step hg, ih]
noncomputable def rdAll (g : List Nat) : Ps → List (List Nat)
  | [] => [g]
  | p :: ps => g :: rdl p.1 p.2 ps
theorem read_all (g : List Nat) (ps : Ps) (hg : 34 ∉ g) (h : ∀ p ∈ ps, 34 ∉ p.2) : readF (tail5 g ps) = rdAll g ps := by
  cases ps with
  | nil => rw [tail5_nil, readF_none hg]; rfl
  | cons p ps => rw [tail5_cons, readF_step hg, read_rdl ps _ _ (h p List.mem_cons_self) (fun q hq => h q (List.mem_cons_of_mem _ hq))]; rfl
theorem evens_rdl : ∀ (ps : Ps) (a n g : List Nat), (evens (a :: rdl n g ps)).flatten = a ++ (g ++ ps.flatMap (·.2))
  | [], a, n, g => by simp [rdl, evens]
  | p :: ps, a, n, g => by
    unfold rdl
    by_cases h : g = []
    · rw [if_pos h, evens_rdl ps, h]; simp
    · rw [if_neg h, evens, List.flatten_cons, evens_rdl ps]; simp
theorem evens_all (g : List Nat) (ps : Ps) : (evens (rdAll g ps)).flatten = g ++ ps.flatMap (·.2) := by
  cases ps with
  | nil => simp [rdAll, evens]
  | cons p ps => rw [rdAll, evens_rdl]; simp
noncomputable def flat5 (g : List Nat) (ps : Ps) : List (List Nat) := g :: ps.flatMap fun p => [p.1, p.2]
noncomputable def mapP (tb : List (Nat × List Nat)) (ps : Ps) : Ps := ps.map fun p => (signsF tb p.1, signsF tb p.2)
theorem join_rdl (tb : List (Nat × List Nat)) : ∀ (ps : Ps) (pre : List (List Nat)) (cur g : List Nat),
    joinGo tb false (pre ++ [cur, g]) (ps.flatMap fun p => [p.1, p.2]) = pre ++ rdl cur g (mapP tb ps)
  | [], pre, cur, g => rfl
  | p :: ps, pre, cur, g => by
    show joinGo tb false (pre ++ [cur, g]) (p.1 :: p.2 :: ps.flatMap fun p => [p.1, p.2]) = pre ++ rdl cur g ((signsF tb p.1, signsF tb p.2) :: mapP tb ps)
    rw [joinGo]
    unfold rdl
    have hl : (pre ++ [cur, g]).getLast? = some g := by simp
    have hd : (pre ++ [cur, g]).dropLast = pre ++ [cur] := by
      rw [show pre ++ [cur, g] = (pre ++ [cur]) ++ [g] by simp, List.dropLast_concat]
    by_cases h : g = []
    · rw [if_pos h]
      unfold joinOne
      rw [if_pos ⟨rfl, by rw [hl, h]⟩, hd, List.dropLast_concat]
      have := join_rdl tb ps pre (cur ++ 34 :: signsF tb p.1) (signsF tb p.2)
      rw [← this]
      congr 1
      simp
    · rw [if_neg h]
      unfold joinOne
      rw [if_neg (fun hh => h (by rw [hl] at hh; exact Option.some.inj hh.2))]
      have := join_rdl tb ps (pre ++ [cur, g]) (signsF tb p.1) (signsF tb p.2)
      simp only [List.append_assoc, List.cons_append, List.nil_append] at this ⊢
      exact this
theorem joined_all (tb : List (Nat × List Nat)) (g : List Nat) (ps : Ps) : joinedF tb (flat5 g ps) = rdAll (signsF tb g) (mapP tb ps) := by
  unfold joinedF flat5
  cases ps with
  | nil => rfl
  | cons p ps =>
    show joinGo tb true [signsF tb g] (p.1 :: p.2 :: ps.flatMap fun p => [p.1, p.2]) = _
    rw [joinGo]
    unfold joinOne
    rw [if_neg (by simp)]
    exact join_rdl tb ps [signsF tb g] (signsF tb p.1) (signsF tb p.2)
theorem signs_app (tb : List (Nat × List Nat)) (a b : List Nat) : signsF tb (a ++ b) = signsF tb a ++ signsF tb b := by simp [signsF]
theorem signs_cons (tb : List (Nat × List Nat)) (c : Nat) (b : List Nat) : signsF tb (c :: b) = look tb c ++ signsF tb b := by simp [signsF]
theorem dbl_app (a b : List Nat) : dbl (a ++ b) = dbl a ++ dbl b := by simp [dbl, rep1]
theorem dbl_clear {x : List Nat} (h : 34 ∉ x) : dbl x = x := rep1_absent h
theorem signs_dbl {tb : List (Nat × List Nat)} (K : Keeps (look tb)) : ∀ x, signsF tb (dbl x) = dbl (signsF tb x)
  | [] => rfl
  | c :: r => by
    have ih := signs_dbl K r
    by_cases h : c = 34
    · subst h
      rw [dbl_34, signs_cons, signs_cons, signs_cons, K.mark, ih, List.singleton_append, List.singleton_append, List.singleton_append, dbl_34]
    · rw [dbl_ne h, signs_cons, signs_cons, ih, dbl_app]
      congr 1
      by_cases h2 : c = 92
      · subst h2; rw [K.back]; rfl
      · exact (dbl_clear (K.other c h h2).1).symm
theorem signs_line {tb : List (Nat × List Nat)} (K : Keeps (look tb)) (g : List Nat) (ps : Ps) : signsF tb (tail5 g ps) = tail5 (signsF tb g) (mapP tb ps) := by
  unfold tail5
  rw [signs_app]
  congr 1
  induction ps with
  | nil => rfl
  | cons p ps ih =>
    rw [List.flatMap_cons, signs_app, ih]
    show _ = (quoted (signsF tb p.1) ++ signsF tb p.2) ++ _
    congr 1
    rw [signs_app]
    congr 1
    unfold quoted
    rw [signs_app, signs_app]
    have e : signsF tb [34] = [34] := by rw [signs_cons, K.mark]; rfl
    rw [e]
    have := signs_dbl K p.1
    unfold dbl at this
    rw [this]
end

-- part Q6
section
noncomputable def Od : Bool → List Nat → Bool
  | e, [] => e
  | true, c :: r => if c = 34 then true else Od false r
  | false, c :: r => if c = 92 then Od true r else Od false r
theorem has2_ne {a b c : Nat} (h : c ≠ a) : ∀ l, has2 a b (c :: l) = has2 a b l
  | [] => rfl
  | d :: r => by rw [has2, decide_eq_false (fun x => h x.1), Bool.false_or]
theorem odd_Od : ∀ (k : Nat) (n : List Nat), n.length ≤ k → oddOne n = Od false n
  | _, [], _ => by decide
  | _, [c], _ => by
    unfold oddOne
    by_cases h : c = 92
    · subst h; decide
    · rw [List.singleton_append, rep2_ne h, has2_ne h]; simp [rep2, has2, Od, h]
  | 0, a :: b :: r, h => by simp at h
  | k + 1, a :: b :: r, hk => by
    have h1 : has2 92 34 (rep2 92 92 [] (r ++ [34])) = Od false r := odd_Od k r (by simp at hk; omega)
    show has2 92 34 (rep2 92 92 [] (a :: b :: (r ++ [34]))) = _
    by_cases ha : a = 92
    · subst ha
      by_cases hb : b = 92
      · subst hb; rw [rep2_hit]; simp only [List.nil_append]; rw [h1]; simp [Od]
      · rw [rep2_ne2 hb hb]
        by_cases h34 : b = 34
        · subst h34; simp [has2, Od]
        · rw [has2, decide_eq_false (fun x => h34 x.2), Bool.false_or, has2_ne hb, h1]; simp [Od, h34]
    · have h2 : has2 92 34 (rep2 92 92 [] (b :: (r ++ [34]))) = Od false (b :: r) := odd_Od k (b :: r) (by simp at hk ⊢; omega)
      rw [rep2_ne ha, has2_ne ha, h2]
      simp only [Od, if_neg ha]
theorem Od_clear {x : List Nat} (h2 : 92 ∉ x) (r : List Nat) : Od false (x ++ r) = Od false r := by
  induction x with
  | nil => rfl
  | cons c x ih =>
    have hc : c ≠ 92 := fun e => h2 (by rw [e]; exact List.mem_cons_self)
    rw [List.cons_append, Od, if_neg hc, ih (fun hh => h2 (List.mem_cons_of_mem _ hh))]
theorem Od_signs {tb : List (Nat × List Nat)} (K : Keeps (look tb)) : ∀ (n : List Nat) (e : Bool), Od e (signsF tb n) = Od e n
  | [], e => rfl
  | c :: r, e => by
    have ih := Od_signs K r
    rw [signs_cons]
    by_cases h92 : c = 92
    · subst h92; rw [K.back]
      cases e <;> simp [Od, ih]
    · by_cases h34 : c = 34
      · subst h34; rw [K.mark]
        cases e <;> simp [Od, ih]
      · obtain ⟨k1, k2⟩ := K.other c h34 h92
        obtain ⟨d, ds, ed⟩ := List.exists_cons_of_ne_nil (K.some c)
        rw [ed] at k1 k2 ⊢
        cases e
        · rw [Od_clear k2, ih]; simp [Od, h92]
        · have hd : d ≠ 34 := fun hh => k1 (by rw [hh]; exact List.mem_cons_self)
          rw [List.cons_append, Od, if_neg hd, Od_clear (fun hh => k2 (List.mem_cons_of_mem _ hh)), ih]; simp [Od, h34]
theorem Mo_gap {g : List Nat} (h1 : 34 ∉ g) (h2 : 92 ∉ g) (rest : List Nat) : Mo false false [] (g ++ rest) = g ++ Mo false false [] rest := by
  induction g with
  | nil => rfl
  | cons c g ih =>
    have c1 : c ≠ 34 := fun e => h1 (by rw [e]; exact List.mem_cons_self)
    have c2 : c ≠ 92 := fun e => h2 (by rw [e]; exact List.mem_cons_self)
    rw [List.cons_append, Mo, if_neg c2, if_neg c1, ih (fun hh => h1 (List.mem_cons_of_mem _ hh)) (fun hh => h2 (List.mem_cons_of_mem _ hh))]; rfl
theorem Mo_gapI {g : List Nat} (h1 : 34 ∉ g) (h2 : 92 ∉ g) (rest : List Nat) : ∀ p, Mo true false p (g ++ rest) = Mo true false (p ++ g) rest := by
  induction g with
  | nil => intro p; simp
  | cons c g ih =>
    intro p
    have c1 : c ≠ 34 := fun e => h1 (by rw [e]; exact List.mem_cons_self)
    have c2 : c ≠ 92 := fun e => h2 (by rw [e]; exact List.mem_cons_self)
    rw [List.cons_append, Mo, if_neg c2, if_neg c1, ih (fun hh => h1 (List.mem_cons_of_mem _ hh)) (fun hh => h2 (List.mem_cons_of_mem _ hh))]; simp
theorem Mo_quiet (rest : List Nat) : ∀ (n : List Nat) (e : Bool) (p : List Nat), Od e n = false → Mo true e p (dbl n ++ 34 :: rest) = Mo false false [] rest
  | [], true, p, h => by simp [Od] at h
  | [], false, p, h => by show Mo true false p (34 :: rest) = _; simp [Mo]
  | c :: n, true, p, h => by
    have hc : c ≠ 34 := fun e => by rw [Od, if_pos e] at h; cases h
    rw [Od, if_neg hc] at h
    rw [dbl_ne hc, List.cons_append, Mo, Mo_quiet rest n _ _ h]
  | c :: n, false, p, h => by
    by_cases h92 : c = 92
    · rw [Od, if_pos h92] at h
      rw [dbl_ne (by omega), List.cons_append, Mo, if_pos h92, Mo_quiet rest n _ _ h]
    · rw [Od, if_neg h92] at h
      by_cases h34 : c = 34
      · subst h34
        rw [dbl_34]; simp only [List.cons_append]
        rw [Mo, if_neg (by decide), if_pos rfl, Mo, if_neg (by decide), if_pos rfl, Mo_quiet rest n _ _ h]
      · rw [dbl_ne h34, List.cons_append, Mo, if_neg h92, if_neg h34, Mo_quiet rest n _ _ h]
noncomputable abbrev Gp (g : List Nat) : Prop := 34 ∉ g ∧ 92 ∉ g
theorem Mo_still : ∀ (ps : Ps) (g : List Nat), Gp g → (∀ p ∈ ps, Gp p.2 ∧ Od false p.1 = false) → Mo false false [] (tail5 g ps) = g ++ ps.flatMap (·.2)
  | [], g, hg, _ => by
    rw [tail5_nil]
    have := Mo_gap hg.1 hg.2 []
    simpa [Mo] using this
  | p :: ps, g, hg, h => by
    have hp := h p List.mem_cons_self
    have ih := Mo_still ps p.2 hp.1 (fun q hq => h q (List.mem_cons_of_mem _ hq))
    rw [tail5_cons, Mo_gap hg.1 hg.2, Mo, if_neg (by decide), if_pos rfl, rest5, Mo_quiet _ _ _ _ hp.2, ih]
    simp
noncomputable abbrev Has (l : List Nat) : Prop := 34 ∈ l ∨ 92 ∈ l
theorem has_cons {c : Nat} {l : List Nat} (h : Has l) : Has (c :: l) := h.elim (fun x => .inl (List.mem_cons_of_mem _ x)) (fun x => .inr (List.mem_cons_of_mem _ x))
theorem has_left {a l : List Nat} (h : Has l) : Has (a ++ l) := h.elim (fun x => .inl (List.mem_append_right _ x)) (fun x => .inr (List.mem_append_right _ x))
/-- the flipped state: in a name, outside -/
theorem Mo_flip : ∀ (ps : Ps) (g : List Nat), Gp g → (∀ p ∈ ps, Gp p.2) →
    (∀ p, 34 ∈ p → Has (Mo true false p (tail5 g ps))) ∧ ∀ n, Has (Mo false false [] (rest5 n g ps))
  | ps, g, hg, h => by
    have gap : ∀ p, 34 ∈ p → Has (Mo true false p (tail5 g ps)) := fun p hp => by
      cases ps with
      | nil =>
        rw [tail5_nil]
        have := Mo_gapI hg.1 hg.2 [] p
        simp only [List.append_nil] at this
        rw [this]
        exact .inl (by simp [Mo, hp])
      | cons q ps =>
        rw [tail5_cons, Mo_gapI hg.1 hg.2, Mo, if_neg (by decide), if_pos rfl]
        exact (Mo_flip ps q.2 (h q List.mem_cons_self) (fun r hr => h r (List.mem_cons_of_mem _ hr))).2 q.1
    refine ⟨gap, fun n => ?_⟩
    induction n with
    | nil =>
      show Has (Mo false false [] (34 :: tail5 g ps))
      rw [Mo, if_neg (by decide), if_pos rfl]
      exact gap [34] (by simp)
    | cons c n ih =>
      unfold rest5 at ih ⊢
      by_cases h92 : c = 92
      · rw [dbl_ne (by omega), List.cons_append, Mo, if_pos h92]
        exact .inr (by rw [h92]; exact List.mem_cons_self)
      · by_cases h34 : c = 34
        · subst h34
          rw [dbl_34]; simp only [List.cons_append]
          rw [Mo, if_neg (by decide), if_pos rfl, Mo, if_neg (by decide), if_pos rfl]
          exact ih
        · rw [dbl_ne h34, List.cons_append, Mo, if_neg h92, if_neg h34]
          exact has_cons ih
theorem Mo_loud : ∀ (ps : Ps) (g : List Nat), Gp g → (∀ p ∈ ps, Gp p.2) → ∀ (n : List Nat) (e : Bool) (p : List Nat),
    (Od e n = true ∨ ∃ q ∈ ps, Od false q.1 = true) → Has (Mo true e p (rest5 n g ps))
  | ps, g, hg, h, [], true, p, ho => by
    show Has (Mo true true p (34 :: tail5 g ps))
    rw [Mo]
    exact (Mo_flip ps g hg h).1 _ (by simp)
  | ps, g, hg, h, [], false, p, ho => by
    show Has (Mo true false p (34 :: tail5 g ps))
    rw [Mo, if_neg (by decide), if_pos rfl]
    obtain ⟨q, hq, hqo⟩ := ho.resolve_left (by simp [Od])
    cases ps with
    | nil => cases hq
    | cons r ps =>
      rw [tail5_cons, Mo_gap hg.1 hg.2, Mo, if_neg (by decide), if_pos rfl]
      refine has_left (Mo_loud ps r.2 (h r List.mem_cons_self) (fun s hs => h s (List.mem_cons_of_mem _ hs)) r.1 false [34] ?_)
      rcases List.mem_cons.mp hq with rfl | hq
      · exact .inl hqo
      · exact .inr ⟨q, hq, hqo⟩
  | ps, g, hg, h, c :: n, true, p, ho => by
    unfold rest5
    by_cases h34 : c = 34
    · subst h34
      rw [dbl_34]; simp only [List.cons_append]
      rw [Mo, Mo, if_neg (by decide), if_pos rfl]
      exact (Mo_flip ps g hg h).2 n
    · rw [Od, if_neg h34] at ho
      rw [dbl_ne h34, List.cons_append, Mo]
      exact Mo_loud ps g hg h n false _ ho
  | ps, g, hg, h, c :: n, false, p, ho => by
    unfold rest5
    by_cases h92 : c = 92
    · rw [Od, if_pos h92] at ho
      rw [dbl_ne (by omega), List.cons_append, Mo, if_pos h92]
      exact Mo_loud ps g hg h n true _ ho
    · rw [Od, if_neg h92] at ho
      by_cases h34 : c = 34
      · subst h34
        rw [dbl_34]; simp only [List.cons_append]
        rw [Mo, if_neg (by decide), if_pos rfl, Mo, if_neg (by decide), if_pos rfl]
        exact Mo_loud ps g hg h n false _ ho
      · rw [dbl_ne h34, List.cons_append, Mo, if_neg h92, if_neg h34]
        exact Mo_loud ps g hg h n false _ ho
theorem Mo_iff (ps : Ps) (g : List Nat) (hg : Gp g) (h : ∀ p ∈ ps, Gp p.2) :
    Mo false false [] (tail5 g ps) = g ++ ps.flatMap (·.2) ↔ ∀ p ∈ ps, Od false p.1 = false := by
  constructor
  · intro e p hp
    cases ho : Od false p.1 with
    | false => rfl
    | true =>
      exfalso
      have hh : Has (Mo false false [] (tail5 g ps)) := by
        cases ps with
        | nil => cases hp
        | cons q ps =>
          rw [tail5_cons, Mo_gap hg.1 hg.2, Mo, if_neg (by decide), if_pos rfl]
          refine has_left (Mo_loud ps q.2 (h q List.mem_cons_self) (fun s hs => h s (List.mem_cons_of_mem _ hs)) q.1 false [34] ?_)
          rcases List.mem_cons.mp hp with rfl | hp
          · exact .inl ho
          · exact .inr ⟨p, hp, ho⟩
      rw [e] at hh
      rcases hh with hh | hh
      · rcases List.mem_append.mp hh with hh | hh
        · exact hg.1 hh
        · obtain ⟨q, hq, hm⟩ := List.mem_flatMap.mp hh
          exact (h q hq).1 hm
      · rcases List.mem_append.mp hh with hh | hh
        · exact hg.2 hh
        · obtain ⟨q, hq, hm⟩ := List.mem_flatMap.mp hh
          exact (h q hq).2 hm
  · intro h2
    exact Mo_still ps g hg fun p hp => ⟨h p hp, h2 p hp⟩
end

-- part Q7
section
noncomputable def gSet : List Nat := [98, 32, 40, 41, 38, 62, 13, 9]
noncomputable def nSet : List Nat := [92, 34, 97, 40, 38, 13, 60]
noncomputable def Alt : Bool → List (List Nat) → Prop
  | _, [] => True
  | b, p :: r => (∀ c ∈ p, c ∈ (if b = true then nSet else gSet)) ∧ Alt (!b) r
noncomputable def par2 (b : Bool) (n : Nat) : Bool := if n % 2 = 1 then !b else b
theorem par2_succ (b : Bool) (n : Nat) : par2 b (n + 1) = par2 (!b) n := by
  unfold par2
  by_cases h : n % 2 = 1
  · rw [if_pos h, if_neg (by omega)]; simp
  · rw [if_neg h, if_pos (by omega)]
theorem Alt_app : ∀ (l r : List (List Nat)) (b : Bool), Alt b (l ++ r) ↔ Alt b l ∧ Alt (par2 b l.length) r
  | [], r, b => by simp [Alt, par2]
  | p :: l, r, b => by
    rw [List.cons_append, List.length_cons, par2_succ]
    simp only [Alt]
    rw [Alt_app l r (!b), and_assoc]
theorem sgI_mem (ls : List (List Nat)) (x : Int) (c : Nat) (h : c ∈ sgI ls x) : c ∈ ls.flatten := by
  unfold sgI at h
  rw [List.getD_eq_getElem?_getD] at h
  cases e : ls[(x / 3 % 8).toNat]? with
  | none => rw [e] at h; cases h
  | some y => rw [e] at h; exact List.mem_flatten.mpr ⟨y, List.mem_of_getElem? e, h⟩
theorem gap_sub : ∀ c ∈ gapS.flatten, c ∈ gSet := by decide
theorem name_sub : ∀ c ∈ nameS.flatten, c ∈ nSet := by decide
theorem Alt_step (ps : List (List Nat)) (x : Int) (h : ps ≠ []) (H : Alt false ps) : Alt false (partStep ps x) := by
  unfold partStep
  split
  · rw [Alt_app]; exact ⟨H, by simp [Alt]⟩
  · obtain ⟨l, p, rfl⟩ : ∃ l p, ps = l ++ [p] := ⟨ps.dropLast, ps.getLast h, (List.dropLast_concat_getLast h).symm⟩
    rw [Alt_app] at H
    rw [List.dropLast_concat, Alt_app]
    refine ⟨H.1, ?_⟩
    have hl : (l ++ [p]).getLastD [] = p := by simp
    rw [hl]
    simp only [Alt, and_true] at H ⊢
    intro c hc
    rcases List.mem_append.mp hc with hc | hc
    · exact H.2 c hc
    · have hm := sgI_mem _ _ _ hc
      by_cases hp : l.length % 2 = 1
      · have e1 : par2 false l.length = true := by simp [par2, hp]
        have e2 : ¬ (l ++ [p]).length % 2 = 1 := by simp; omega
        rw [if_neg e2] at hm
        rw [e1, if_pos rfl]
        exact name_sub c hm
      · have e1 : par2 false l.length = false := by simp [par2, hp]
        have e2 : (l ++ [p]).length % 2 = 1 := by simp; omega
        rw [if_pos e2] at hm
        rw [e1, if_neg (by decide)]
        exact gap_sub c hm
theorem go_inv : ∀ (d : List Int) (ps : List (List Nat)), ps ≠ [] → Alt false ps →
    (d.foldl partStep ps ≠ []) ∧ Alt false (d.foldl partStep ps) ∧ (d.foldl partStep ps).length ≤ ps.length + d.length ∧ wl (d.foldl partStep ps) ≤ wl ps + d.length
  | [], ps, h, H => ⟨h, H, Nat.le_refl _, Nat.le_refl _⟩
  | x :: d, ps, h, H => by
    obtain ⟨s1, s2, s3⟩ := partStep_size ps x h
    have hne : partStep ps x ≠ [] := List.length_pos_iff.mp (by omega)
    obtain ⟨a, b, c, e⟩ := go_inv d (partStep ps x) hne (Alt_step ps x h H)
    rw [List.foldl_cons, List.length_cons]
    exact ⟨a, b, by omega, by omega⟩
theorem drawn_len (ns : List Int) : (drawn ns).length ≤ 15 := by
  unfold drawn
  rw [List.length_append, List.length_map, List.length_take]
  simp; omega
theorem parts_shape (ns : List Int) : Alt false (partsF ns) ∧ (∃ N, (partsF ns).length = 2 * N + 1) ∧ (partsF ns).length ≤ 17 ∧ wl (partsF ns) ≤ 15 := by
  obtain ⟨a, b, c, e⟩ := go_inv (drawn ns) [[]] (by simp) (by simp [Alt])
  have hd := drawn_len ns
  have b : Alt false (partsGo ns) := b
  have c : (partsGo ns).length ≤ 1 + (drawn ns).length := c
  have e : wl (partsGo ns) ≤ 0 + (drawn ns).length := e
  unfold partsF
  split
  · rename_i h
    refine ⟨(Alt_app _ _ _).mpr ⟨b, by simp [Alt]⟩, ⟨(partsGo ns).length / 2, by simp; omega⟩, by simp; omega, by rw [wl_snoc]; simp; omega⟩
  · rename_i h
    exact ⟨b, ⟨(partsGo ns).length / 2, by omega⟩, by omega, by omega⟩
theorem flat_of : ∀ (N : Nat) (P : List (List Nat)), P.length = 2 * N + 1 → Alt false P →
    ∃ g ps, P = flat5 g ps ∧ (∀ c ∈ g, c ∈ gSet) ∧ ∀ p ∈ ps, (∀ c ∈ p.1, c ∈ nSet) ∧ ∀ c ∈ p.2, c ∈ gSet
  | 0, P, h, H => by
    obtain ⟨g, rfl⟩ := List.length_eq_one_iff.mp (by omega)
    exact ⟨g, [], rfl, by simpa [Alt] using H, fun p hp => nomatch hp⟩
  | N + 1, P, h, H => by
    match P, h, H with
    | a :: b :: r, h, H =>
      simp only [Alt] at H
      obtain ⟨g, ps, rfl, hg, hps⟩ := flat_of N r (by simp at h; omega) (by simpa using H.2.2)
      refine ⟨a, (b, g) :: ps, rfl, by simpa using H.1, fun p hp => ?_⟩
      rcases List.mem_cons.mp hp with rfl | hp
      · exact ⟨by simpa using H.2.1, hg⟩
      · exact hps p hp
theorem line_two (a b : List Nat) (r : List (List Nat)) : lineF (a :: b :: r) = a ++ (quoted b ++ lineF r) := by
  unfold lineF
  rw [List.length_cons, List.length_cons, List.range_succ_eq_map, List.map_cons, List.range_succ_eq_map, List.map_cons, List.map_cons, List.flatten_cons, List.flatten_cons]
  congr 1
  congr 1
  congr 1
  rw [List.map_map, List.map_map]
  refine List.map_congr_left fun k _ => ?_
  simp only [Function.comp, pieceF]
  have : (k + 1 + 1) % 2 = k % 2 := by omega
  simp [Nat.succ_eq_add_one, this]
theorem line_flat : ∀ (ps : Ps) (g : List Nat), lineF (flat5 g ps) = tail5 g ps
  | [], g => by simp [lineF, flat5, tail5, pieceF, List.range_succ]
  | p :: ps, g => by
    have ih := line_flat ps p.2
    show lineF (g :: p.1 :: flat5 p.2 ps) = _
    rw [line_two, ih]
    simp [tail5]
theorem line_len : ∀ (ps : Ps) (g : List Nat), (tail5 g ps).length ≤ 2 * wl (flat5 g ps) + (flat5 g ps).length
  | [], g => by simp [tail5, flat5, wl]; omega
  | p :: ps, g => by
    have ih := line_len ps p.2
    rw [tail5_cons]
    show _ ≤ 2 * wl (g :: p.1 :: flat5 p.2 ps) + (g :: p.1 :: flat5 p.2 ps).length
    have e : wl (g :: p.1 :: flat5 p.2 ps) = g.length + (p.1.length + wl (flat5 p.2 ps)) := by simp [wl]
    have hc : p.1.count 34 ≤ p.1.length := List.count_le_length
    rw [e]
    unfold rest5
    simp only [List.length_append, List.length_cons, dbl_len]
    omega
theorem evens_flat : ∀ (ps : Ps), evens (ps.flatMap fun p => [p.1, p.2]) = ps.map (·.1)
  | [] => rfl
  | p :: ps => by
    show evens (p.1 :: p.2 :: ps.flatMap fun p => [p.1, p.2]) = _
    rw [evens, evens_flat ps]; rfl
theorem odd_flat (g : List Nat) (ps : Ps) : oddF (flat5 g ps) = [] ↔ ∀ p ∈ ps, Od false p.1 = false := by
  unfold oddF flat5
  rw [List.drop_succ_cons, List.drop_zero, evens_flat, List.filter_eq_nil_iff]
  simp only [List.mem_map, forall_exists_index, and_imp, forall_apply_eq_imp_iff₂, odd_Od _ _ (Nat.le_refl _), Bool.not_eq_true]
theorem wt_le (tb : List (Nat × List Nat)) (k : Nat) (h : ∀ c, (look tb c).length ≤ k) : ∀ P : List (List Nat), wt tb P ≤ k * wl P + P.length
  | [] => by simp [wt, wl]
  | p :: P => by
    have ih := wt_le tb k h P
    have h1 := signs_len tb k h p
    unfold wt wl at ih ⊢
    simp only [List.map_cons, List.sum_cons, List.length_cons, Nat.mul_add]
    omega
theorem signs_keepset {tb : List (Nat × List Nat)} (K : Keeps (look tb)) {g : List Nat} (h : Gp g) : Gp (signsF tb g) := by
  constructor
  all_goals
    intro hm
    obtain ⟨c, hc, hm⟩ := List.mem_flatMap.mp hm
    by_cases h1 : c = 34
    · exact h.1 (by rw [← h1]; exact hc)
    · by_cases h2 : c = 92
      · exact h.2 (by rw [← h2]; exact hc)
      · have k := K.other c h1 h2
        first | exact k.1 hm | exact k.2 hm
theorem gSet_gp {g : List Nat} (h : ∀ c ∈ g, c ∈ gSet) : Gp g := ⟨fun hm => by have := h _ hm; revert this; decide, fun hm => by have := h _ hm; revert this; decide⟩
/-- a writing that leaves the marks -/
theorem one_ok {tb : List (Nat × List Nat)} {g : List Nat} {ps : Ps} (K : Keeps (look tb)) (h6 : ∀ p ∈ tb, p.2.length ≤ 6) (hlow : ∀ p ∈ tb, 1 ∉ p.2 ∧ 2 ∉ p.2)
    (hg : Gp g) (hps : ∀ p ∈ ps, Gp p.2) (hl : (tail5 g ps).length ≤ 60) (h12 : 1 ∉ tail5 g ps ∧ 2 ∉ tail5 g ps) (hw : wl (flat5 g ps) ≤ 15) (hn : (flat5 g ps).length ≤ 17) :
    OneOK (flat5 g ps) (tail5 g ps) tb (signsF tb (tail5 g ps)) := by
  have hgs := signs_keepset K hg
  have hpss : ∀ p ∈ mapP tb ps, Gp p.2 := fun p hp => by
    obtain ⟨q, hq, rfl⟩ := List.mem_map.mp hp
    exact signs_keepset K (hps q hq)
  have hlk := look_len tb 6 (by decide) h6
  have hlen := signs_len tb 6 hlk (tail5 g ps)
  have hlo := look_low tb hlow _ h12
  have hrd : readF (signsF tb (tail5 g ps)) = rdAll (signsF tb g) (mapP tb ps) := by
    rw [signs_line K]; exact read_all _ _ hgs.1 (fun p hp => (hpss p hp).1)
  have hsl := strip_len (signsF tb (tail5 g ps))
  refine ⟨rfl, fun _ => ?_, fun _ => ?_, fun _ => strip_outside _ hlo.1 hlo.2, by omega, fun c => ?_, ?_, by omega⟩
  · rw [hrd, joined_all]
  · rw [hrd, evens_all, decide_eq_decide, strip_Mo, signs_line K, Mo_iff _ _ hgs hpss, odd_flat]
    constructor
    · intro h p hp
      have := h _ (List.mem_map.mpr ⟨p, hp, rfl⟩)
      rwa [Od_signs K] at this
    · intro h p hp
      obtain ⟨q, hq, rfl⟩ := List.mem_map.mp hp
      show Od false (signsF tb q.1) = false
      rw [Od_signs K]; exact h q hq
  · have := hlk c; omega
  · have := wt_le tb 6 hlk (flat5 g ps); omega
/-- a writing that writes the marks too -/
theorem one_ok3 {tb : List (Nat × List Nat)} {P : List (List Nat)} {line : List Nat} (hm : (tb.lookup 34).isSome = true) (h6 : ∀ p ∈ tb, p.2.length ≤ 6) (hlow : ∀ p ∈ tb, 1 ∉ p.2 ∧ 2 ∉ p.2)
    (hl : line.length ≤ 60) (h12 : 1 ∉ line ∧ 2 ∉ line) (hw : wl P ≤ 15) (hn : P.length ≤ 17) : OneOK P line tb (signsF tb line) := by
  have hlk := look_len tb 6 (by decide) h6
  have hlen := signs_len tb 6 hlk line
  have hlo := look_low tb hlow _ h12
  have hsl := strip_len (signsF tb line)
  refine ⟨rfl, fun h => ?_, fun h => ?_, fun _ => strip_outside _ hlo.1 hlo.2, by omega, fun c => ?_, ?_, by omega⟩
  · rw [hm] at h; cases h
  · rw [hm] at h; cases h
  · have := hlk c; omega
  · have := wt_le tb 6 hlk P; omega
theorem dbl_mem {c : Nat} {x : List Nat} (h : c ∈ dbl x) : c ∈ x := by
  obtain ⟨a, ha, hm⟩ := List.mem_flatMap.mp h
  split at hm
  · rename_i e
    have : c = 34 := by simpa using hm
    rw [this, ← e]; exact ha
  · rw [List.mem_singleton.mp hm]; exact ha
theorem line_mem {c : Nat} {g : List Nat} {ps : Ps} (hg : ∀ c ∈ g, c ∈ gSet) (hps : ∀ p ∈ ps, (∀ c ∈ p.1, c ∈ nSet) ∧ ∀ c ∈ p.2, c ∈ gSet) (h : c ∈ tail5 g ps) : c ∈ gSet ++ nSet := by
  rcases List.mem_append.mp h with h | h
  · exact List.mem_append_left _ (hg c h)
  · obtain ⟨p, hp, h⟩ := List.mem_flatMap.mp h
    rcases List.mem_append.mp h with h | h
    · have h : c ∈ [34] ++ dbl p.1 ++ [34] := h
      simp only [List.mem_append, List.mem_singleton] at h
      rcases h with (h | h) | h
      · rw [h]; decide
      · exact List.mem_append_right _ ((hps p hp).1 c (dbl_mem h))
      · rw [h]; decide
    · exact List.mem_append_left _ ((hps p hp).2 c h)
theorem pure_ok (ns : List Int) : PureOK (partsF ns) := by
  obtain ⟨hA, ⟨N, hN⟩, hn, hw⟩ := parts_shape ns
  obtain ⟨g, ps, e, hg, hps⟩ := flat_of N _ hN hA
  generalize partsF ns = P at *
  subst e
  have hl : lineF (flat5 g ps) = tail5 g ps := line_flat ps g
  have hlen := line_len ps g
  have no : ∀ k, k ∉ gSet ++ nSet → k ∉ tail5 g ps := fun k hk hm => hk (line_mem hg hps hm)
  have h12 : 1 ∉ tail5 g ps ∧ 2 ∉ tail5 g ps := ⟨no 1 (by decide), no 2 (by decide)⟩
  have hgp := gSet_gp hg
  have hpp : ∀ p ∈ ps, Gp p.2 := fun p hp => gSet_gp (hps p hp).2
  refine ⟨⟨N, hN⟩, by omega, fun p hp => ?_, by rw [hl]; omega, ?_, ?_, ?_, check_closed _, check_closed _, check_closed _⟩
  · have := mem_sum hp
    unfold wl at hw; omega
  · rw [hl, esc1_signs]
    exact one_ok keeps1 (by decide) (by decide) hgp hpp (by omega) h12 hw hn
  · rw [hl, esc2_signs]
    exact one_ok keeps2 (by decide) (by decide) hgp hpp (by omega) h12 hw hn
  · rw [hl, esc3_signs _ (no 10 (by decide))]
    exact one_ok3 (by decide) (by decide) (by decide) (by omega) h12 hw hn
end

-- part Wlaw
section
noncomputable def natOf : Value → Nat | .int i _ => i.toNat | _ => 0
theorem natOf_of {n : Nat} {v : Value} (h : ∃ t : Nat, v = .int (n : Int) t) : natOf v = n := by obtain ⟨t, rfl⟩ := h; simp [natOf]
noncomputable def txtOf : Value → List Nat | .str y _ => y.cps.toList | _ => []
theorem txtOf_of {y : List Nat} {v : Value} (h : ∃ u : Nat, v = .str (T y) u) : txtOf v = y := by obtain ⟨u, rfl⟩ := h; simp [txtOf]
theorem pair_step {w : World} {A : Around} {s : Shared} {env : Env} {kx vx : PySem.Str} {k1 k2 : Nat} {p1 p2 pos : Pos} {ks : List (Option Expr)} {vs : List Expr} {Q : List (Value × Value) → Shared → Prop} (c : Nat) (y : List Nat) (hk : kx = T [c]) (hv : vx = T y)
    (h : ∀ (t u : Nat) s', Step s s' → Wp w A (evalPairs (pairTrees ks vs env pos)) (fun r s₃ => Q ((.str (T [c]) t, .str (T y) u) :: r) s₃) s') :
    Wp w A (evalPairs (pairTrees (some (.Constant (.str kx) k1 p1) :: ks) (.Constant (.str vx) k2 p2 :: vs) env pos)) Q s := by
  subst hk hv
  exact pairTrees_cons_walk (Constant_str (Constant_str (h _ _ _ ((Step.tok (Nat.le_succ _)).trans (Step.tok (Nat.le_succ _))))))
theorem mem_evens {α : Type} {a : α} : ∀ (n : Nat) (l : List α), l.length ≤ n → a ∈ evens l → a ∈ l
  | _, [], _, h => by simp [evens] at h
  | _, [b], _, h => by simpa [evens] using h
  | n + 1, b :: c :: r, hn, h => by
    simp only [evens, List.mem_cons] at h
    rcases h with rfl | h
    · exact List.mem_cons_self
    · exact List.mem_cons_of_mem _ (List.mem_cons_of_mem _ (mem_evens n r (by simp at hn; omega) h))
  | 0, b :: c :: r, hn, _ => by simp at hn
theorem sub_picks {α : Type} {l l' : List α} (is : List Nat) (h : l' = is.filterMap fun i => l[i]?) : ∀ p ∈ l', p ∈ l := fun p hp => by
  subst h
  obtain ⟨i, _, e⟩ := List.mem_filterMap.mp hp
  exact List.mem_of_getElem? e
theorem Now.picks {w : World} {b s : Shared} {L : Addr} {m : PySem.Str → Option Value} {ns ns' : List (Addr × Obj)} {G : Array GenState} (H : Now w b L m ns G s) (is : List Nat) (h : ns' = is.filterMap fun i => ns[i]?) : Now w b L m ns' G s := H.drop (sub_picks is h)
set_option maxHeartbeats 2000000
theorem c_law {w : World} {A : Around} {s : Shared} {vs : List Value} {nsI : List Int} {sl : Addr} {Q : Value → Shared → Prop} (B : Bs w s.heap) (hA : OkA 7 A)
    (XS : s.heap.IsList sl vs.toArray) (hI : IntsAre vs nsI) (hlen : nsI.length ≤ 100) (K : PureOK (partsF nsI))
    (h : ∀ s', Aft s s' → Q (.bool true) s') : Wp w A (call (.ref 150) [.ref sl]) Q s := by
  refine call_fnC1 (fd := fdAt w 150) (body := topBody 22) (n := "script") (y := "parts") B hA (by kernel_rfl!) (by kernel_rfl!) (by kernel_rfl!) (by kernel_rfl!) (by kernel_rfl!)
    (by kernel_rfl!) (by intro L; kernel_rfl!) (by kernel_rfl!) (by kernel_rfl!) (by kernel_rfl!) fun A L oc s' hoc H hA => ?_
  have hfin : ∀ s', Aft { s with toks := s.toks + 1 } s' → Aft s s' := fun s' af => ⟨af.keep, af.os, Nat.le_trans (Nat.le_succ _) af.toks, af.gens⟩
  have H : Now w { s with toks := s.toks + 1 } (callEnvC (fdAt w 150) L 150).locals (upd noN "script" (.ref sl)) [(L + 1, oc)] ({ s with toks := s.toks + 1 } : Shared).gens s' := H
  have XS : ({ s with toks := s.toks + 1 } : Shared).heap.IsList sl vs.toArray := XS
  generalize ({ s with toks := s.toks + 1 } : Shared) = s at H hfin XS
  refine r_assign ?_ (by kernel_rfl!)
  refine r_call1 (a := 107) (by tb_rel) (by kernel_rfl!) (by kernel_rfl!) (by kernel_rfl!) (by kernel_rfl!) (by kernel_rfl!) (by kernel_rfl!) (by kernel_rfl!) ?_
  keq_hits
  refine ⟨H.bs, c_parts H.bs H.spos (hA.mono (by omega)) (XS.at fun o e => H.F.keep _ _ e) hI hlen fun lp olp s1 st1 ho1 hn1 XP => ?_⟩
  refine cur (H.add ho1 hn1 st1) fun H1 => ?_
  generalize partsF nsI = P at XP K
  obtain ⟨N, hN⟩ := K.odd
  have hPs := K.size
  have hne1 : olp ≠ oc := by
    obtain ⟨vs', n', rfl, _⟩ := XP
    intro e; rw [← e] at hoc; cases hoc
  refine r_storeC (c := L + 1) H1.swap hoc (H1.swap.apart (by simp only [List.forall_mem_cons]; exact ⟨hne1, fun _ h => nomatch h⟩)) (by kernel_rfl!) (by kernel_rfl!) (by kernel_rfl!) fun oc2 s2 hoc2 H2 a2 => ?_
  refine r_assign ?_ (by kernel_rfl!)
  keq_hits
  refine r_comp (cl := [("parts", L + 1)]) (α := Nat) (β := List Nat) (List.range P.length) (fun _ => true) (pieceF P) natOf (fun k v => ∃ t : Nat, v = .int (k : Int) t) (fun y v => ∃ u : Nat, v = .str (T y) u) (fun _ _ => natOf_of)
    (by kernel_rfl!) (by kernel_rfl!) (by kernel_rfl!) (by kernel_rfl!) (by kernel_rfl!) ?_ (by intro _; kernel_rfl!)
  refine cur (by tb_rel) fun H3 => ?_
  refine r_callT1 (id := "range") H3 (by kernel_rfl!) (by kernel_rfl!) (by kernel_rfl!) (by kernel_rfl!) (by kernel_rfl!) (by kernel_rfl!) boot_range (by decide) (by kernel_rfl!) ?_
  refine r_callB1 (id := "len") H3 (by kernel_rfl!) (by kernel_rfl!) (by kernel_rfl!) (by kernel_rfl!) (by kernel_rfl!) (by kernel_rfl!) boot_len (by decide) (by kernel_rfl!) ?_
  refine r_cell (c := L + 1) H3 List.mem_cons_self hoc2 (by kernel_rfl!) (by kernel_rfl!) (by kernel_rfl!) (by kernel_rfl!) ?_
  keq_hits
  refine r_range1 (by tb_rel) fun r tr vr s4 H4 hr => ?_
  refine ⟨src_range hA.handled hr (by omega), by rw [List.length_range]; omega, ?_, ?_, ?_⟩
  · intro C s₃ m₃ c v k hn hc hv hm
    exact wpAny_tests_nil ⟨rfl, Step.refl _⟩
  · intro C s₃ m₃ j v k hn hc ⟨u, hv⟩ hm _
    subst hv
    have hj : j < P.length := List.mem_range.mp hc
    have Y : Co w C m₃ s₃ s₃ := ⟨hn, H4.bs.keeps k.keep, Nat.lt_of_lt_of_le H4.spos k.toks, Step.refl _⟩
    have hcell : s₃.heap.IsCell (L + 1) (some (.ref lp)) := ⟨oc2, k.keep _ _ (H4.get (by ktn_open)), hoc2⟩
    have XP3 : TL s₃.heap lp P := (H4.tl (by ktn_open) XP).grown k.keep
    have hgd : P.getD j [] = P[j] := by simp [List.getD, hj]
    refine r_ifexp (r_cmp ?_ (by kernel_rfl!))
    refine r_bin (c_local Y (by kernel_rfl!) (by kernel_rfl!) (by kernel_rfl!) hm (c_int Y fun t1 s1 Y1 => c_modI Y1 (by decide) fun t2 s2 Y2 => c_int Y2 fun t3 s3 Y3 => r_eqI (r_tb ?_)))
    by_cases h1 : j % 2 = 1
    · rw [if_pos (decide_eq_true (by omega))]
      refine c_call1 (a := 114) Y3 (by kernel_rfl!) (by kernel_rfl!) (by kernel_rfl!) (by kernel_rfl!) (by kernel_rfl!) (by kernel_rfl!) (by kernel_rfl!) ?_
      refine r_sub (c_cell (c := L + 1) Y3 (by kernel_rfl!) (by kernel_rfl!) (by kernel_rfl!) (by kernel_rfl!) hcell (c_local Y3 (by kernel_rfl!) (by kernel_rfl!) (by kernel_rfl!) hm ?_))
      refine sub_item (k := j) (ls := P) (XP3.grown Y3.st.keep) rfl hj (by omega) (by kernel_rfl!) fun t4 => ?_
      refine ⟨Y3.bs', c_quoted Y3.bs' Y3.spos (hA.mono (by omega)) (by have := K.part _ (List.getElem_mem hj); omega) fun t5 s5 st5 => ⟨⟨t5, ?_⟩, Y3.st.trans st5⟩⟩
      unfold pieceF; rw [if_pos h1, hgd]
    · rw [if_neg (by simp; omega)]
      refine r_sub (c_cell (c := L + 1) Y3 (by kernel_rfl!) (by kernel_rfl!) (by kernel_rfl!) (by kernel_rfl!) hcell (c_local Y3 (by kernel_rfl!) (by kernel_rfl!) (by kernel_rfl!) hm ?_))
      refine sub_item (k := j) (ls := P) (XP3.grown Y3.st.keep) rfl hj (by omega) (by kernel_rfl!) fun t4 => ?_
      refine ⟨⟨t4, ?_⟩, Y3.st⟩
      unfold pieceF; rw [if_neg h1, hgd]
  intro l ys n s5 ce ho hno hall
  have H5 := Now.cend H3 H4 ce ho hno
  rw [List.filter_eq_self.mpr (fun _ _ => rfl)] at hall
  have X5 : TLo ((List.range P.length).map (pieceF P)) (listOf (List.toArray ys) n) := ⟨ys, n, rfl, hall.texts⟩
  have hsum : (((List.range P.length).map (pieceF P)).map List.length).sum ≤ 1000000 := by
    rw [← List.length_flatten]; have := K.line; unfold lineF at this; omega
  keq_hits
  refine cur (by tb_rel) fun H6 => ?_
  have hPne : P ≠ [] := by intro e; rw [e] at hN; simp at hN
  refine r_compA (cl := []) (α := List Nat) (β := List Nat) (evens (P.drop 1)) oddOne id txtOf (fun y v => ∃ u : Nat, v = .str (T y) u) (fun y v => ∃ u : Nat, v = .str (T y) u) (fun _ _ => txtOf_of) H6
    (by kernel_rfl!) (by kernel_rfl!) (by kernel_rfl!) (by kernel_rfl!) (by kernel_rfl!) (by kernel_rfl!) (by kernel_rfl!) (by kernel_rfl!) ?_ (by intro _; kernel_rfl!)
  refine r_sub ?_
  refine r_cell (c := L + 1) H6 (by ktn_open) hoc2 (by kernel_rfl!) (by kernel_rfl!) (by kernel_rfl!) (by kernel_rfl!) ?_
  keq_hits
  refine sub_odds (ls := P) (by tb_rel) (Now.tl (by tb_rel) (by ktn_open) XP) (by omega) hPne (by kernel_rfl!) fun lo1 oo1 s7 H7 X7 a7 hne7 => ?_
  obtain ⟨vs7, hl7, hv7⟩ := (H7.tl (by ktn_open) X7).list
  have hel : (evens (P.drop 1)).length ≤ 100 := by have := evens_len _ (P.drop 1) (Nat.le_refl _); rw [List.length_drop] at this; omega
  refine ⟨_, H7, src_list hA.handled hl7 (TLo.len hv7) (fun j v hv => ?_), by omega, ?_, ?_, ?_⟩
  · obtain ⟨y, u, e1, e2⟩ := hv7.item j v hv
    rw [List.getElem?_map] at e2
    cases e3 : (evens (P.drop 1))[j]? with
    | none => rw [e3] at e2; cases e2
    | some z => rw [e3] at e2; cases e2; exact ⟨z, rfl, u, e1⟩
  · intro C s₃ m₃ y v k hn hy ⟨u, hv⟩ hm
    subst hv
    have hyl : y.length ≤ 100 := K.part y (List.mem_of_mem_drop (mem_evens _ _ (Nat.le_refl _) hy))
    have Y : Co w C m₃ s₃ s₃ := ⟨hn, H7.bs.keeps k.keep, Nat.lt_of_lt_of_le H7.spos k.toks, Step.refl _⟩
    refine wpAny_tests_one (r_cmp ?_ (by kernel_rfl!))
    refine c_lit [92, 34] (by kernel_rfl!) Y fun t1 s1 Y1 _ _ _ => ?_
    refine r_m2 gm_replace (by kernel_rfl!) (by kernel_rfl!) (by kernel_rfl!) ?_
    refine r_bin (c_local Y1 (by kernel_rfl!) (by kernel_rfl!) (by kernel_rfl!) hm ?_)
    refine c_lit [34] (by kernel_rfl!) Y1 fun t2 s2 Y2 _ _ _ => ?_
    refine c_addT Y2 (by simp; omega) fun t3 s3 Y3 _ => strThen ?_
    refine c_lit [92, 92] (by kernel_rfl!) Y3 fun t4 s4 Y4 _ b4 c4 => ?_
    refine c_lit [] (by kernel_rfl!) Y4 fun t5 s5 Y5 b5 _ _ => ?_
    refine c_rep2 Y5 c4 (by omega) (by decide) (by simp; omega) (by decide) fun t6 s6 Y6 _ => ?_
    exact r_in2 (r_tb ⟨rfl, Y6.st⟩)
  · intro C s₃ m₃ y v k hn hy hv hm _
    have Y : Co w C m₃ s₃ s₃ := ⟨hn, H7.bs.keeps k.keep, Nat.lt_of_lt_of_le H7.spos k.toks, Step.refl _⟩
    exact c_local Y (by kernel_rfl!) (by kernel_rfl!) (by kernel_rfl!) hm ⟨hv, Step.refl _⟩
  intro lo ys8 n8 s8 H8 hall8 hne8
  rw [List.map_id] at hall8
  have X8 : TLo (oddF P) (listOf (List.toArray ys8) n8) := ⟨ys8, n8, rfl, hall8.texts⟩
  with_reducible refine r_assign ?_ (by kernel_rfl!)
  with_reducible refine r_listE ?_
  with_reducible refine args_cons ?_ (by kernel_rfl!)
  with_reducible refine r_dict tb1 H8 (by kernel_rfl!) (by kernel_rfl!) (by simp) (by simp) (by decide) (fun s0 H0 => ?_)
  refine pair_step 38 amp (by kernel_rfl!) (by kernel_rfl!) fun _ _ _ w1 => pair_step 60 lth (by kernel_rfl!) (by kernel_rfl!) fun _ _ _ w2 => pair_step 62 gth (by kernel_rfl!) (by kernel_rfl!) fun _ _ _ w3 => pairTrees_nil_walk ?_
  refine ⟨H0.step (w1.trans (w2.trans w3)), (w1.trans (w2.trans w3)).keep, ⟨⟨_, rfl⟩, ⟨_, rfl⟩, ⟨_, rfl⟩, ⟨_, rfl⟩, ⟨_, rfl⟩, ⟨_, rfl⟩, trivial⟩, fun d1 od1 s9 H9 XT1 hne9 => ?_⟩
  with_reducible refine args_cons ?_ (by kernel_rfl!)
  with_reducible refine r_dict tb2 H9 (by kernel_rfl!) (by kernel_rfl!) (by simp) (by simp) (by decide) (fun s0 H0 => ?_)
  with_reducible refine pair_step 38 amp (by kernel_rfl!) (by kernel_rfl!) fun _ _ _ w1 => pair_step 60 lth (by kernel_rfl!) (by kernel_rfl!) fun _ _ _ w2 => pair_step 62 gth (by kernel_rfl!) (by kernel_rfl!) fun _ _ _ w3 => pair_step 13 crd (by kernel_rfl!) (by kernel_rfl!) fun _ _ _ w4 => pairTrees_nil_walk ?_
  refine ⟨H0.step (w1.trans (w2.trans (w3.trans w4))), (w1.trans (w2.trans (w3.trans w4))).keep, ⟨⟨_, rfl⟩, ⟨_, rfl⟩, ⟨_, rfl⟩, ⟨_, rfl⟩, ⟨_, rfl⟩, ⟨_, rfl⟩, ⟨_, rfl⟩, ⟨_, rfl⟩, trivial⟩, fun d2 od2 s10 H10 XT2 hne10 => ?_⟩
  with_reducible refine args_cons ?_ (by kernel_rfl!)
  with_reducible refine r_dict tb3 H10 (by kernel_rfl!) (by kernel_rfl!) (by simp) (by simp) (by decide) (fun s0 H0 => ?_)
  with_reducible refine pair_step 38 amp (by kernel_rfl!) (by kernel_rfl!) fun _ _ _ w1 => pair_step 60 lth (by kernel_rfl!) (by kernel_rfl!) fun _ _ _ w2 => pair_step 34 quo (by kernel_rfl!) (by kernel_rfl!) fun _ _ _ w3 => pair_step 13 crd (by kernel_rfl!) (by kernel_rfl!) fun _ _ _ w4 => pair_step 9 tab9 (by kernel_rfl!) (by kernel_rfl!) fun _ _ _ w5 => pairTrees_nil_walk ?_
  refine ⟨H0.step (w1.trans (w2.trans (w3.trans (w4.trans w5)))), (w1.trans (w2.trans (w3.trans (w4.trans w5)))).keep, ⟨⟨_, rfl⟩, ⟨_, rfl⟩, ⟨_, rfl⟩, ⟨_, rfl⟩, ⟨_, rfl⟩, ⟨_, rfl⟩, ⟨_, rfl⟩, ⟨_, rfl⟩, ⟨_, rfl⟩, ⟨_, rfl⟩, trivial⟩, fun d3 od3 s11 H11 XT3 hne11 => ?_⟩
  with_reducible refine args_nil ?_
  with_reducible refine r_newList H11 (by simp) fun ltb s12 H12 a12 hne12 => ?_
  with_reducible refine r_store H12 (by kernel_rfl!) (by kernel_rfl!) fun s13 H13 a13 => ?_
  with_reducible refine r_assign ?_ (by kernel_rfl!)
  with_reducible refine r_listE ?_
  with_reducible refine args_cons ?_ (by kernel_rfl!)
  have hline := K.line
  with_reducible refine r_call1 (a := 88) H13 (by kernel_rfl!) (by kernel_rfl!) (by kernel_rfl!) (by kernel_rfl!) (by kernel_rfl!) (by kernel_rfl!) (by kernel_rfl!) ?_
  have hl0 : ((List.range P.length).map (pieceF P)).flatten = lineF P := rfl
  keq_hits
  rw [hl0]
  refine ⟨H13.bs, c_esc1 H13.bs H13.spos (hA.mono (by omega)) hline fun t14 s14 st14 => ?_⟩
  refine cur (H13.step st14) fun H14 => ?_
  with_reducible refine args_cons ?_ (by kernel_rfl!)
  with_reducible refine r_call1 (a := 95) H14 (by kernel_rfl!) (by kernel_rfl!) (by kernel_rfl!) (by kernel_rfl!) (by kernel_rfl!) (by kernel_rfl!) (by kernel_rfl!) ?_
  keq_hits
  rw [hl0]
  refine ⟨H14.bs, c_esc2 H14.bs H14.spos (hA.mono (by omega)) hline fun t15 s15 st15 => ?_⟩
  refine cur (H14.step st15) fun H15 => ?_
  with_reducible refine args_cons ?_ (by kernel_rfl!)
  with_reducible refine r_call1 (a := 102) H15 (by kernel_rfl!) (by kernel_rfl!) (by kernel_rfl!) (by kernel_rfl!) (by kernel_rfl!) (by kernel_rfl!) (by kernel_rfl!) ?_
  keq_hits
  rw [hl0]
  refine ⟨H15.bs, c_esc3 H15.bs H15.spos (hA.mono (by omega)) hline fun t16 s16 st16 => ?_⟩
  refine cur (H15.step st16) fun H16 => ?_
  with_reducible refine args_nil ?_
  with_reducible refine r_newList H16 (by simp) fun lw s17 H17 a17 hne17 => ?_
  with_reducible refine r_store H17 (by kernel_rfl!) (by kernel_rfl!) fun s18 H18 a18 => ?_
  with_reducible refine r_assign ?_ (by kernel_rfl!)
  with_reducible refine r_listE ?_
  with_reducible refine args_nil ?_
  with_reducible refine r_newList H18 (by simp) fun a s19 H19 a19 hne19 => ?_
  with_reducible refine r_store H19 (by kernel_rfl!) (by kernel_rfl!) fun s20 H20 a20 => ?_
  have hdrop20 := H20.picks (ns' := [(a, _), (lw, _), (ltb, _), (d3, _), (d2, _), (d1, _), (lo, _), (L + 1, _), (lp, _)]) [0, 1, 2, 3, 4, 5, 6, 9, 10] rfl
  have T1 : Tb w s20.heap d1 tb1 := XT1.obj fun o₁ e₁ => by rw [H9.get List.mem_cons_self] at e₁; cases e₁; exact hdrop20.get (by ktn_open)
  have T2 : Tb w s20.heap d2 tb2 := XT2.obj fun o₁ e₁ => by rw [H10.get List.mem_cons_self] at e₁; cases e₁; exact hdrop20.get (by ktn_open)
  have T3 : Tb w s20.heap d3 tb3 := XT3.obj fun o₁ e₁ => by rw [H11.get List.mem_cons_self] at e₁; cases e₁; exact hdrop20.get (by ktn_open)
  refine law_end (N := N) (t1 := t14) (t2 := t15) (t3 := t16) (lw := lw) (ltb := ltb) (d1 := d1) (d2 := d2) (d3 := d3) (lo := lo) (lp := lp) (P := P) hA hdrop20 (fun p hp => hne19 p (sub_picks [0, 1, 2, 3, 4, 5, 8, 9] rfl p hp)) tlo_nil hoc2 (by ktn_open) (by ktn_open) XP (by ktn_open) X8 (od1 := od1) (od2 := od2) (od3 := od3) (by ktn_open) (by ktn_open) (by ktn_open) T1 T2 T3 (by ktn_open) (by ktn_open) K hN
    (by rw [← hl0]; tb_start) (by tb_start) (by tb_start) (by tb_start) (by tb_start) (fun s' af => h s' (hfin s' af))
end

-- part Wtop
section
theorem top_from (PK : ∀ ns : List Int, PureOK (partsF ns)) : PySem.Challenge.rw_xo0019_01.Holds := hd (by
  intro w s₀ s₁ mg mb G Y fa o pm cd doc dV kV ho hd hcd hD hmg hg args vals as hpre hlay hrd hwl hlo
  have X := (Ground.X G).1
  have V := (Ground.X G).2
  refine Ground.open G ?_
  intro T B D TE TW
  clear X V hd hcd
  wrow_args hpre hlay hrd hwl hlo
  rename IntsAre _ _ => hI
  rename Heap.IsList _ _ _ => hL
  rename ¬ _ < _ => hc
  have hfa : fa = 150 := by
    have e := mg_of (v := .ref 150) (n := "law") (kIn_of Y) T.g (by kernel_rfl!)
    have e2 := hmg.symm.trans e
    cases e2; rfl
  subst hfa
  have B1 : Bs w s₁.heap := ⟨kIn_of Y, mg, mb, topRead_of T⟩
  have hA : OkA 7 callerA := ⟨rfl, by decide, by decide⟩
  show wpAny (model PW w) callerA (call _ _) _ _ s₁
  refine wpAny_mono (c_law (Q := fun v s' => v = .bool true ∧ Aft s₁ s') B1 hA hL hI (by omega) (PK _) fun s' af => ⟨rfl, af⟩) (fun v s' h => ?_) fun _ _ x => False.elim x
  obtain ⟨rfl, af⟩ := h
  exact ⟨.inl ⟨_, _, _, rfl, fun _ => rfl, .bool true, by kernel_rfl!, fun _ => ⟨List.nodup_nil, fun _ h => nomatch h⟩⟩, .of_keep af.keep, congrArg Prod.fst af.os, af.gens (.of_eq hg)⟩)
end

end Mine

theorem PySem.Challenge.cw_xo0019_01_holds : PySem.Challenge.rw_xo0019_01.Holds :=
  Mine.top_from Mine.pure_ok
