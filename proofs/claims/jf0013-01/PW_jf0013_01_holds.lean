import PyProof.Rows.All
import Wide.All
import OpenK.AllK
import Wide.FinOn
import Lean
import PySem.Challenge.RW_jf0013_01
set_option Elab.async false
set_option maxRecDepth 100000
set_option linter.all false

/- # P1 -/
namespace Mine
open PySem PySem.Calls PyProof.Rows PySem.W
/- ## equations that cannot be -/
theorem nn {α : Type} {x : α} {C : Prop} (h : (none : Option α) = some x) : C := nomatch h
theorem sn {α : Type} {x : α} {C : Prop} (h : some x = (none : Option α)) : C := nomatch h
theorem tf {C : Prop} (h : true = false) : C := nomatch h
theorem ft {C : Prop} (h : false = true) : C := nomatch h

/- ## splitting at a sign -/
noncomputable def spl {α : Type} [DecidableEq α] (c : α) : List α → List (List α)
  | [] => [[]]
  | x :: r => if x = c then [] :: spl c r else match spl c r with
    | [] => [[x]]
    | p :: ps => (x :: p) :: ps
section
variable {α : Type} [DecidableEq α] {c : α}
theorem spl_ne (c : α) : ∀ l : List α, spl c l ≠ []
  | [] => by simp [spl]
  | x :: r => by
    unfold spl
    split
    · simp
    · split <;> simp
theorem spl_snoc : ∀ (xs : List α) (x : α) {ps : List (List α)} {q : List α}, spl c xs = ps ++ [q] → spl c (xs ++ [x]) = if x = c then ps ++ [q, []] else ps ++ [q ++ [x]]
  | [], x, ps, q, h => by
    have h' : [[]] = ps ++ [q] := h
    cases ps with
    | nil =>
      obtain rfl : q = [] := by simpa using h'.symm
      by_cases e : x = c <;> simp [spl, e]
    | cons p ps => simp at h'
  | y :: r, x, ps, q, h => by
    rw [List.cons_append]
    unfold spl at h ⊢
    by_cases e : y = c
    · rw [if_pos e] at h ⊢
      cases ps with
      | nil =>
        have : spl c r = [] := by simpa using (List.cons.inj h).2
        exact absurd this (spl_ne c r)
      | cons p ps =>
        obtain ⟨h1, h2⟩ := List.cons.inj h
        rw [spl_snoc r x h2, ← h1]
        by_cases e2 : x = c <;> simp [e2]
    · rw [if_neg e] at h ⊢
      cases hr : spl c r with
      | nil => exact absurd hr (spl_ne c r)
      | cons p ps' =>
        rw [hr] at h
        cases ps with
        | nil =>
          have h1 : (y :: p) :: ps' = [q] := h
          obtain ⟨h2, h3⟩ := List.cons.inj h1
          subst h3
          rw [spl_snoc r x (ps := []) (q := p) hr, ← h2]
          by_cases e2 : x = c <;> simp [e2]
        | cons p' ps =>
          have h1 : (y :: p) :: ps' = p' :: (ps ++ [q]) := h
          obtain ⟨h2, h3⟩ := List.cons.inj h1
          subst h3
          rw [spl_snoc r x (ps := p :: ps) (q := q) hr, ← h2]
          by_cases e2 : x = c <;> simp [e2]
theorem spl_length_le (c : α) : ∀ l : List α, (spl c l).length ≤ l.length + 1
  | [] => by simp [spl]
  | x :: r => by
    have ih := spl_length_le c r
    unfold spl
    split
    · simp; (first | lia | omega)
    · split
      · simp
      · rename_i h; rw [h] at ih; simp at ih ⊢; (first | lia | omega)
theorem spl_mem_le (c : α) : ∀ (l : List α) (p : List α), p ∈ spl c l → p.length ≤ l.length
  | [], p, h => by simp [spl] at h; subst h; simp
  | x :: r, p, h => by
    have ih := spl_mem_le c r
    unfold spl at h
    split at h
    · rcases List.mem_cons.mp h with rfl | h
      · simp
      · have := ih p h; simp; (first | lia | omega)
    · split at h
      · simp at h; subst h; simp
      · rename_i p' ps hr
        rcases List.mem_cons.mp h with rfl | h
        · have := ih p' (by rw [hr]; simp); simp; (first | lia | omega)
        · have := ih p (by rw [hr]; simp [h]); simp; (first | lia | omega)
theorem spl_free (c : α) : ∀ (l : List α) (p : List α), p ∈ spl c l → c ∉ p
  | [], p, h => by simp [spl] at h; subst h; simp
  | x :: r, p, h => by
    have ih := spl_free c r
    unfold spl at h
    split at h
    · rcases List.mem_cons.mp h with rfl | h
      · simp
      · exact ih p h
    · rename_i hx
      split at h
      · simp at h; subst h; simp; exact fun e => hx e.symm
      · rename_i p' ps hr
        rcases List.mem_cons.mp h with rfl | h
        · have := ih p' (by rw [hr]; simp)
          simp only [List.mem_cons, not_or]
          exact ⟨fun e => hx e.symm, this⟩
        · exact ih p (by rw [hr]; simp [h])
/- the text again -/
noncomputable def glue (sep : List α) : List (List α) → List α
  | [] => []
  | [p] => p
  | p :: q :: r => p ++ sep ++ glue sep (q :: r)
theorem spl_free_of {l : List α} (h : c ∉ l) : spl c l = [l] := by
  induction l with
  | nil => rfl
  | cons x r ih =>
    simp only [List.mem_cons, not_or] at h
    unfold spl
    rw [if_neg (fun e => h.1 e.symm), ih h.2]
theorem spl_append {p : List α} (h : c ∉ p) (r : List α) : spl c (p ++ c :: r) = p :: spl c r := by
  induction p with
  | nil => simp [spl]
  | cons x p ih =>
    simp only [List.mem_cons, not_or] at h
    rw [List.cons_append]
    conv => lhs; unfold spl
    rw [if_neg (fun e => h.1 e.symm), ih h.2]
theorem spl_glue : ∀ {ps : List (List α)}, ps ≠ [] → (∀ p ∈ ps, c ∉ p) → spl c (glue [c] ps) = ps
  | [], h, _ => absurd rfl h
  | [p], _, h => spl_free_of (h p (by simp))
  | p :: q :: r, _, h => by
    show spl c (p ++ [c] ++ glue [c] (q :: r)) = _
    rw [List.append_assoc, List.singleton_append, spl_append (h p (by simp)), spl_glue (by simp) fun p hp => h p (by simp [hp])]
theorem glue_spl (c : α) : ∀ l : List α, glue [c] (spl c l) = l
  | [] => rfl
  | x :: r => by
    have ih := glue_spl c r
    unfold spl
    split
    · rename_i e
      cases hr : spl c r with
      | nil => exact absurd hr (spl_ne c r)
      | cons p ps => rw [hr] at ih; show [] ++ [c] ++ glue [c] (p :: ps) = _; rw [ih, e]; rfl
    · split
      · rename_i hr; exact absurd hr (spl_ne c r)
      · rename_i p ps hr
        rw [hr] at ih
        cases ps with
        | nil => show x :: p = _; rw [show p = r from ih]
        | cons q ps => show x :: p ++ [c] ++ glue [c] (q :: ps) = _; rw [← ih]; simp [glue]
end

/- ## the model's split of bytes -/
section
open Builtin
theorem ext1 (b : Array UInt8) (c : UInt8) (i : Nat) : (b.extract i (i + 1) == #[c]) = decide (b[i]? = some c) := by
  by_cases h : i < b.size
  · have e : b.extract i (i + 1) = #[b[i]] := by
      apply Array.ext
      · simp; (first | lia | omega)
      · intro j h1 h2
        simp at h2
        subst h2
        simp
    rw [e]
    simp [h, Bool.beq_eq_decide_eq]
  · have e : b.extract i (i + 1) = #[] := by
      apply Array.eq_empty_of_size_eq_zero
      simp; (first | lia | omega)
    rw [e]
    simp [h]
noncomputable def stp (b : Array UInt8) (c : UInt8) (acc : List Nat × Nat) (i : Nat) : List Nat × Nat := if i ≥ acc.2 && b.extract i (i + 1) == #[c] then (i :: acc.1, i + 1) else acc
theorem stp_range (b : Array UInt8) (c : UInt8) : ∀ m : Nat, ((List.range m).foldl (stp b c) ([], 0)).1.reverse = (List.range m).filter (fun i => decide (b[i]? = some c)) ∧ ((List.range m).foldl (stp b c) ([], 0)).2 ≤ m
  | 0 => ⟨rfl, Nat.le_refl _⟩
  | m + 1 => by
    obtain ⟨h1, h2⟩ := stp_range b c m
    rw [List.range_succ, List.foldl_append, List.foldl_cons, List.foldl_nil]
    generalize (List.range m).foldl (stp b c) ([], 0) = acc at h1 h2
    unfold stp
    rw [ext1]
    have q : decide (m ≥ acc.2) = true := by simpa using h2
    rw [q, Bool.true_and, List.filter_append, ← h1]
    by_cases e : b[m]? = some c
    · rw [if_pos (by simpa using e)]
      simp [e]
    · rw [if_neg (by simpa using e)]
      simp [e]; (first | lia | omega)
theorem occ_one (b : Array UInt8) (c : UInt8) : Bytes.occurrences b #[c] 0 b.size = (List.range b.size).filter (fun i => decide (b[i]? = some c)) := by
  unfold Bytes.occurrences
  have e : b.size + 1 - (0 + (#[c] : Array UInt8).size) = b.size := by simp
  rw [e]
  have e2 : (List.range b.size).map (· + 0) = List.range b.size := by simp
  rw [e2]
  exact (stp_range b c b.size).1
noncomputable def btw (b : Array UInt8) (acc : Array (Array UInt8) × Nat) (p : Nat) : Array (Array UInt8) × Nat := (acc.1.push (b.extract acc.2 p), p + 1)
theorem btw_range (l : List UInt8) (c : UInt8) : ∀ m : Nat, m ≤ l.length → ∃ (parts : List (List UInt8)) (last : Nat), ((List.range m).filter (fun i => decide (l.toArray[i]? = some c))).foldl (btw l.toArray) (#[], 0) = ((parts.map List.toArray).toArray, last) ∧
    last ≤ m ∧ spl c (l.take m) = parts ++ [(l.take m).drop last]
  | 0, _ => ⟨[], 0, rfl, Nat.le_refl _, by simp [spl]⟩
  | m + 1, hm => by
    obtain ⟨parts, last, h1, h2, h3⟩ := btw_range l c m (by (first | lia | omega))
    have hlt : m < l.length := by (first | lia | omega)
    have ht : l.take (m + 1) = l.take m ++ [l[m]] := List.take_succ_eq_append_getElem hlt
    have key := spl_snoc (l.take m) l[m] h3
    rw [List.range_succ, List.filter_append, List.foldl_append, h1]
    by_cases e : l[m] = c
    · have e' : l.toArray[m]? = some c := by simp [hlt, e]
      rw [if_pos e] at key
      refine ⟨parts ++ [(l.take m).drop last], m + 1, ?_, Nat.le_refl _, ?_⟩
      · rw [List.filter_cons_of_pos (by simpa using e'), List.filter_nil, List.foldl_cons, List.foldl_nil]
        unfold btw
        simp [List.extract_eq_drop_take, List.drop_take]
      · rw [ht, key]
        have : (List.take m l ++ [l[m]]).drop (m + 1) = [] := by
          apply List.drop_eq_nil_of_le
          simp; (first | lia | omega)
        rw [this]; simp
    · have e' : ¬ l.toArray[m]? = some c := by simp [hlt, e]
      rw [if_neg e] at key
      refine ⟨parts, last, ?_, by (first | lia | omega), ?_⟩
      · rw [List.filter_cons_of_neg (by simpa using e'), List.filter_nil, List.foldl_nil]
      · rw [ht, key, List.drop_append_of_le_length (by simp; (first | lia | omega))]
theorem filter_len (l : List UInt8) (c : UInt8) : ((List.range l.length).filter (fun i => decide (l.toArray[i]? = some c))).length ≤ l.length := by
  refine Nat.le_trans (List.length_filter_le _ _) ?_
  simp
theorem between_one (l : List UInt8) (c : UInt8) : Bytes.between l.toArray 1 ((List.range l.length).filter (fun i => decide (l.toArray[i]? = some c))) = (spl c l).map List.toArray := by
  obtain ⟨parts, last, h1, h2, h3⟩ := btw_range l c l.length (Nat.le_refl _)
  rw [List.take_length] at h3
  rw [h3]
  show (let (p, q) := ((List.range l.length).filter _).foldl (btw l.toArray) (#[], 0); (p.push (l.toArray.extract q l.toArray.size)).toList) = _
  rw [h1]
  simp
  exact List.take_of_length_le (by simp)
end
end Mine

/- # G1 -/
namespace Mine
open PySem PySem.Calls PyProof.Rows PySem.W

/- ## facts taken apart at once -/
theorem cps {G : Prop} (h : ∀ P : Prop, (G → P) → P) : G := h G id
theorem and2 {a1 a2 C : Prop} (h : a1 ∧ a2) (k : a1 → a2 → C) : C := k h.1 h.2
theorem and3 {a1 a2 a3 C : Prop} (h : a1 ∧ a2 ∧ a3) (k : a1 → a2 → a3 → C) : C := k h.1 h.2.1 h.2.2
theorem and4 {a1 a2 a3 a4 C : Prop} (h : a1 ∧ a2 ∧ a3 ∧ a4) (k : a1 → a2 → a3 → a4 → C) : C := k h.1 h.2.1 h.2.2.1 h.2.2.2
theorem and5 {a1 a2 a3 a4 a5 C : Prop} (h : a1 ∧ a2 ∧ a3 ∧ a4 ∧ a5) (k : a1 → a2 → a3 → a4 → a5 → C) : C := k h.1 h.2.1 h.2.2.1 h.2.2.2.1 h.2.2.2.2
theorem and6 {a1 a2 a3 a4 a5 a6 C : Prop} (h : a1 ∧ a2 ∧ a3 ∧ a4 ∧ a5 ∧ a6) (k : a1 → a2 → a3 → a4 → a5 → a6 → C) : C := k h.1 h.2.1 h.2.2.1 h.2.2.2.1 h.2.2.2.2.1 h.2.2.2.2.2
theorem and7 {a1 a2 a3 a4 a5 a6 a7 C : Prop} (h : a1 ∧ a2 ∧ a3 ∧ a4 ∧ a5 ∧ a6 ∧ a7) (k : a1 → a2 → a3 → a4 → a5 → a6 → a7 → C) : C := k h.1 h.2.1 h.2.2.1 h.2.2.2.1 h.2.2.2.2.1 h.2.2.2.2.2.1 h.2.2.2.2.2.2
theorem and8 {a1 a2 a3 a4 a5 a6 a7 a8 C : Prop} (h : a1 ∧ a2 ∧ a3 ∧ a4 ∧ a5 ∧ a6 ∧ a7 ∧ a8) (k : a1 → a2 → a3 → a4 → a5 → a6 → a7 → a8 → C) : C := k h.1 h.2.1 h.2.2.1 h.2.2.2.1 h.2.2.2.2.1 h.2.2.2.2.2.1 h.2.2.2.2.2.2.1 h.2.2.2.2.2.2.2
theorem and9 {a1 a2 a3 a4 a5 a6 a7 a8 a9 C : Prop} (h : a1 ∧ a2 ∧ a3 ∧ a4 ∧ a5 ∧ a6 ∧ a7 ∧ a8 ∧ a9) (k : a1 → a2 → a3 → a4 → a5 → a6 → a7 → a8 → a9 → C) : C := k h.1 h.2.1 h.2.2.1 h.2.2.2.1 h.2.2.2.2.1 h.2.2.2.2.2.1 h.2.2.2.2.2.2.1 h.2.2.2.2.2.2.2.1 h.2.2.2.2.2.2.2.2
theorem and10 {a1 a2 a3 a4 a5 a6 a7 a8 a9 a10 C : Prop} (h : a1 ∧ a2 ∧ a3 ∧ a4 ∧ a5 ∧ a6 ∧ a7 ∧ a8 ∧ a9 ∧ a10) (k : a1 → a2 → a3 → a4 → a5 → a6 → a7 → a8 → a9 → a10 → C) : C := k h.1 h.2.1 h.2.2.1 h.2.2.2.1 h.2.2.2.2.1 h.2.2.2.2.2.1 h.2.2.2.2.2.2.1 h.2.2.2.2.2.2.2.1 h.2.2.2.2.2.2.2.2.1 h.2.2.2.2.2.2.2.2.2
theorem and11 {a1 a2 a3 a4 a5 a6 a7 a8 a9 a10 a11 C : Prop} (h : a1 ∧ a2 ∧ a3 ∧ a4 ∧ a5 ∧ a6 ∧ a7 ∧ a8 ∧ a9 ∧ a10 ∧ a11) (k : a1 → a2 → a3 → a4 → a5 → a6 → a7 → a8 → a9 → a10 → a11 → C) : C := k h.1 h.2.1 h.2.2.1 h.2.2.2.1 h.2.2.2.2.1 h.2.2.2.2.2.1 h.2.2.2.2.2.2.1 h.2.2.2.2.2.2.2.1 h.2.2.2.2.2.2.2.2.1 h.2.2.2.2.2.2.2.2.2.1 h.2.2.2.2.2.2.2.2.2.2
theorem and12 {a1 a2 a3 a4 a5 a6 a7 a8 a9 a10 a11 a12 C : Prop} (h : a1 ∧ a2 ∧ a3 ∧ a4 ∧ a5 ∧ a6 ∧ a7 ∧ a8 ∧ a9 ∧ a10 ∧ a11 ∧ a12) (k : a1 → a2 → a3 → a4 → a5 → a6 → a7 → a8 → a9 → a10 → a11 → a12 → C) : C := k h.1 h.2.1 h.2.2.1 h.2.2.2.1 h.2.2.2.2.1 h.2.2.2.2.2.1 h.2.2.2.2.2.2.1 h.2.2.2.2.2.2.2.1 h.2.2.2.2.2.2.2.2.1 h.2.2.2.2.2.2.2.2.2.1 h.2.2.2.2.2.2.2.2.2.2.1 h.2.2.2.2.2.2.2.2.2.2.2
theorem and13 {a1 a2 a3 a4 a5 a6 a7 a8 a9 a10 a11 a12 a13 C : Prop} (h : a1 ∧ a2 ∧ a3 ∧ a4 ∧ a5 ∧ a6 ∧ a7 ∧ a8 ∧ a9 ∧ a10 ∧ a11 ∧ a12 ∧ a13) (k : a1 → a2 → a3 → a4 → a5 → a6 → a7 → a8 → a9 → a10 → a11 → a12 → a13 → C) : C := k h.1 h.2.1 h.2.2.1 h.2.2.2.1 h.2.2.2.2.1 h.2.2.2.2.2.1 h.2.2.2.2.2.2.1 h.2.2.2.2.2.2.2.1 h.2.2.2.2.2.2.2.2.1 h.2.2.2.2.2.2.2.2.2.1 h.2.2.2.2.2.2.2.2.2.2.1 h.2.2.2.2.2.2.2.2.2.2.2.1 h.2.2.2.2.2.2.2.2.2.2.2.2
/- ## contexts without a decoder that holds an object -/
noncomputable def OkC : Code → Prop
  | .builtin id ⟨.ref _ :: _, _⟩ => Builtin.Bytes.decodersThatHold.contains id = false
  | _ => True
structure GC (Γ : Ctx) : Prop where
  code : OkC Γ.code
  below : ∀ x ∈ Γ.below, OkC x.1
noncomputable def wpG {α : Type} (M : Model) (A : Around) (t : Sem α) (Q : α → Shared → Prop) (E : Value → Shared → Prop) (s : Shared) : Prop :=
  ∀ Γ p, Γ.In A → GC Γ → Sem.wp M Γ t (fun a _ s' => Q a s') (fun e _ s' => E e s') p s
noncomputable def codeG (M : Model) (A : Around) (c : Code) (R : Result → Shared → Prop) (s : Shared) : Prop :=
  ∀ Γ p, Γ.code = c → Γ.Below A → (∀ x ∈ Γ.below, OkC x.1) → wpCode M Γ R p s

section
variable {α β : Type} {M : Model} {A : Around} {E : Value → Shared → Prop} {s : Shared} {env : Env}
theorem wpG_of {t : Sem α} {Q : α → Shared → Prop} (h : wpAny M A t Q E s) : wpG M A t Q E s := fun Γ p hΓ _ => h Γ p hΓ
theorem codeG_of {c : Code} {R : Result → Shared → Prop} (h : codeAny M A c R s) : codeG M A c R s := fun Γ p hc hΓ _ => h Γ p hc hΓ
theorem wpG_pure {a : α} {Q : α → Shared → Prop} (h : Q a s) : wpG M A (pure a) Q E s := fun _ _ _ _ => h
theorem wpG_mono {t : Sem α} {Q Q' : α → Shared → Prop} {E' : Value → Shared → Prop} (h : wpG M A t Q E s) (hQ : ∀ a s, Q a s → Q' a s) (hE : ∀ e s, E e s → E' e s) : wpG M A t Q' E' s :=
  fun Γ p hΓ hg => Sem.wp_mono M Γ t (fun a _ s => hQ a s) (fun e _ s => hE e s) p s (h Γ p hΓ hg)
theorem wpG_bind {m : Sem α} {f : α → Sem β} {Q : β → Shared → Prop} (h : wpG M A m (fun a s' => wpG M A (f a) Q E s') E s) : wpG M A (m >>= f) Q E s := fun Γ p hΓ hg => by
  rw [Sem.wp_bind']
  exact Sem.wp_mono M Γ m (fun a p' s' h' => h' Γ p' hΓ hg) (fun _ _ _ h' => h') p s (h Γ p hΓ hg)
/- a leaf, and what follows -/
theorem wpG_bindA {m : Sem α} {f : α → Sem β} {Q : β → Shared → Prop} (h : wpAny M A m (fun a s' => wpG M A (f a) Q E s') E s) : wpG M A (m >>= f) Q E s := wpG_bind (wpG_of h)
theorem wpG_onRaise {m : Sem α} {k : Value → Sem Unit} {Q : α → Shared → Prop} (h : wpG M A m Q (fun e s' => wpG M A (k e) (fun _ s'' => E e s'') E s') s) : wpG M A (m.onRaise k) Q E s := fun Γ p hΓ hg => by
  rw [Sem.wp_onRaise]
  exact Sem.wp_mono M Γ m (fun _ _ _ h' => h') (fun e p' s' h' => h' Γ p' hΓ hg) p s (h Γ p hΓ hg)
theorem wpG_attempt {m : Sem α} {Q : Except Value α → Shared → Prop} (h : wpG M A m (fun a => Q (.ok a)) (fun e => Q (.error e)) s) : wpG M A m.attempt Q E s := fun Γ p hΓ hg => by
  rw [Sem.wp_attempt]; exact h Γ p hΓ hg
theorem wpG_holding {vs : List Value} {m : Sem α} {Q : α → Shared → Prop} (h : wpG M A m Q E s) : wpG M A (holding vs m) Q E s := fun Γ p hΓ hg => by
  rw [Sem.wp_holding]; exact h Γ p hΓ hg
theorem GC.enter {Γ : Ctx} (h : GC Γ) (c : Code) (hd : Option Value) (p : Pos) : ∀ x ∈ (Γ.enter c hd p).below, OkC x.1 := by
  intro x hx
  have hx' : x ∈ (Γ.code, p) :: Γ.below := hx
  rcases List.mem_cons.mp hx' with rfl | hx'
  · exact h.code
  · exact h.below x hx'
theorem wpG_run {c : Code} {h : Option Value} {Q : Flow → Shared → Prop} (hc : codeG M (A.mark h) c (fun r s' => match r with | .ok f => Q f s' | .error e => E e s') s) (hnb : h ≠ some byPass := by intro x; cases x) :
    wpG M A (run c h) Q E s := fun Γ p hΓ hg => by rw [Sem.wp_run]; exact hc _ p rfl (hΓ.enter c h p hnb) (hg.enter c h p)
theorem wpG_runValue {c : Code} {Q : Value → Shared → Prop} (hc : codeG M A c (fun r s' => match r with | .ok (.ret v) => Q v s' | .ok _ => False | .error e => E e s') s) : wpG M A (runValue c) Q E s := fun Γ p hΓ hg => by
  rw [Sem.wp_runValue]; exact hc _ p rfl (hΓ.enter c none p (by intro x; cases x)) (hg.enter c none p)
theorem wpG_call {f : Value} {pos : List Value} {kw : List (Str × Value)} {Q : Value → Shared → Prop}
    (hc : codeG M A (.call f ⟨pos, kw⟩) (fun r s' => match r with | .ok (.ret v) => Q v s' | .ok _ => False | .error e => E e s') s) : wpG M A (call f pos kw) Q E s := wpG_runValue hc
theorem codeG_mono {c : Code} {R R' : Result → Shared → Prop} (h : codeG M A c R s) (hR : ∀ r s, R r s → R' r s) : codeG M A c R' s := fun Γ p hc hΓ hg => wpCode_mono hR (h Γ p hc hΓ hg)
theorem codeG_of_tree {c : Code} {R : Result → Shared → Prop} (hok : OkC c)
    (h : wpG M (A.under c) (M.den c) (fun fin s' => match fin with | .done f => R (.ok f) s' | .again c' => c'.quiet = true ∧ codeG M A c' R s') (fun e s' => R (.error e) s') s) : codeG M A c R s := fun Γ p hc hΓ hg => by
  rw [wpCode_iff_wp, hc]
  refine Sem.wp_mono M Γ _ (fun fin p' s' h' => ?_) (fun _ _ _ h' => h') p s (h Γ p (hc ▸ hΓ.in) ⟨hc ▸ hok, hg⟩)
  cases fin with
  | done f => exact h'
  | again c' => exact ⟨h'.1, h'.2 (Γ.goto c') p' rfl (hΓ.goto c') hg⟩
theorem codeG_loop {c : Code} {R : Result → Shared → Prop} (hok : OkC c) (hq : c.quiet = true) (I : Nat → Shared → Prop)
    (turn : ∀ n s, I n s → wpG M (A.under c) (M.den c)
      (fun fin s' => match fin with
        | .done f => R (.ok f) s'
        | .again c' => (c' = c ∧ ∃ m, m < n ∧ I m s') ∨ (c'.quiet = true ∧ codeG M A c' R s')) (fun e s' => R (.error e) s') s)
    (n : Nat) (h : I n s) : codeG M A c R s := by
  induction n using Nat.strongRecOn generalizing s with
  | ind n ih =>
    refine codeG_of_tree hok (wpG_mono (turn n s h) (fun fin s' hf => ?_) fun _ _ h' => h')
    cases fin with
    | done f => exact hf
    | again c' =>
      rcases hf with ⟨rfl, m, hm, hI⟩ | hf
      · exact ⟨hq, ih m hm hI⟩
      · exact hf
end

/- ## what a bytearray asks of the stack -/
section
open Builtin
variable {M : Model} {A : Around} {E : Value → Shared → Prop} {s : Shared}
theorem any_no {α : Type} {F : α → Bool} {l : List α} (h : ∀ x ∈ l, F x = false) : l.any F = false := by
  rw [List.any_eq_false]; intro x hx; rw [h x hx]; exact Bool.false_ne_true
theorem noGuard_of {l : List (Code × Pos)} (h : guardsOf l = []) : ∀ x ∈ l, x.1.isGuard = false := by
  intro x hx
  cases hq : x.1.isGuard with
  | false => rfl
  | true =>
    have : x.1 ∈ guardsOf l := List.mem_filter.mpr ⟨List.mem_map_of_mem hx, hq⟩
    rw [h] at this; cases this
theorem sameRef_ref {v : Value} {a : Addr} (h : Bytes.sameRef v (.ref a) = true) : v = .ref a := by
  unfold Bytes.sameRef at h
  split at h
  · rename_i b c e
    have : c = a := by cases e; rfl
    simp at h; rw [h, this]
  · cases h
theorem and_no {v : Value} {a : Addr} {b : Bool} (h : v = .ref a → b = false) : (Bytes.sameRef v (.ref a) && b) = false := by
  cases hs : Bytes.sameRef v (.ref a) with
  | false => rfl
  | true => exact h (sameRef_ref hs)
theorem exported_no {a : Addr} {Q : Bool → Shared → Prop} (hgd : A.guards = some []) (h : Q false s) : wpG M A (Bytes.exported (.ref a)) Q E s := fun Γ p hΓ hg => by
  have hgs : guardsOf ((Γ.code, p) :: Γ.below) = [] := by rw [guardsOf_cons]; exact hΓ.2.2.2.1 [] hgd
  have hok : ∀ x ∈ (Γ.code, p) :: Γ.below, OkC x.1 := by
    intro x hx
    rcases List.mem_cons.mp hx with rfl | hx
    · exact hg.code
    · exact hg.below x hx
  unfold Bytes.exported
  show Q (((Γ.code, p) :: Γ.below).any _) s
  rw [any_no]
  · exact h
  · intro x hx
    have hng := noGuard_of hgs x hx
    have hk := hok x hx
    obtain ⟨c, q⟩ := x
    clear hok hgs hx h hgd hΓ hg
    cases c with
    | builtin id args =>
      obtain ⟨ps, kw⟩ := args
      have ne : ∀ t, guardIds.contains t = true → id ≠ t := fun t ht e => by
        subst e
        exact Bool.noConfusion (ht.symm.trans hng)
      delta PySem.Builtin.Bytes.exported.match_1
      refine (dif_neg (ne "bytearray.__contains__" (by decide +kernel))).trans ?_
      refine (dif_neg (ne "bytearray.__mod__" (by decide +kernel))).trans ?_
      refine (dif_neg (ne "bytearray.__rmod__" (by decide +kernel))).trans ?_
      refine (dif_neg (ne "_struct.pack_into.held" (by decide +kernel))).trans ?_
      refine (dif_neg (ne "bytearray.find.held" (by decide +kernel))).trans ?_
      cases ps with
      | nil => rfl
      | cons v r =>
        refine and_no fun e => ?_
        subst e
        exact hk
    | _ => rfl
end

/- ## the head, from a walk in such contexts -/
theorem wp_of_wpG_done {M : Model} {A : Around} {Γ : Ctx} {t : Sem Fin} {R : Result → Shared → Prop} {s : Shared} (hin : Γ.In A) (hg : GC Γ)
    (h : wpG M A t (fun fin s' => ∃ f, fin = .done f ∧ R (.ok f) s') (fun e s' => R (.error e) s') s) (p : Pos) :
    Sem.wp M Γ t (Sem.finPost M Γ R) (fun e _ s' => R (.error e) s') p s := by
  refine Sem.wp_mono M Γ t (fun fin p' s' h' => ?_) (fun _ _ _ h' => h') p s (h Γ p hin hg)
  obtain ⟨f, rfl, hf⟩ := h'
  exact hf
theorem caller_ok : GC ⟨.builtin "claim.caller" {}, none, none, [], none⟩ := ⟨trivial, fun x hx => nomatch hx⟩
theorem thread_endsG {prog : Program} {w : World} {t : Sem Fin} {s : Shared} {R : Result → Shared → Prop} (hreg : s.asleep)
    (h : wpG (model prog w) callerA t (fun fin s' => ∃ f, fin = .done f ∧ (R (.ok f) s' ∧ leftWithCleanup s'.gens = false)) (fun e s' => R (.error e) s' ∧ leftWithCleanup s'.gens = false) s) :
    ∃ n r s' s'', runN (denote table) prog w n s ⟨t, .builtin "claim.caller" {}, default, []⟩ = .halted (outcomeOf r) s' ∧
      schedN (denote table) prog w n (.single s ⟨t, .builtin "claim.caller" {}, default, []⟩) = .halted (outcomeOf r) s' ∧ s'.forget = s''.forget ∧ R r s'' := by
  obtain ⟨n, r, s₁, s₂, hs, hn, hfo, hR⟩ := wp_halts_full (M := model prog w) (R := R) hreg (wp_of_wpG_done (R := fun r s' => R r s' ∧ leftWithCleanup s'.gens = false) caller_in caller_ok h default)
  exact ⟨n, r, s₂, s₁, hn, hs, hfo, hR⟩
theorem callFromG {c : ClaimW} {tree : List Value → Sem Fin} {w : World} {s : Shared} {free : Addr → Prop} {gens : Prop} {kept : Heap → Prop} (hz : s.asleep) (hgens : s.gens = #[])
    (hspec : ∀ args, c.pre args = true → WData.layableAll args = true →
      ∀ ord : List DictEntry → List DictEntry, (∀ l, (ord l).Perm l) →
      ∃ vs s₁, layAllW c.records (classAt s.heap) w.params ord args s = some (vs, s₁) ∧
        wpG (model c.prog w) callerA (tree vs) (fun fin s' => ∃ f, fin = .done f ∧ (c.Ends s args vs s₁ (.ok f) s' ∧ s'.os = s.os ∧ AllBare s'.gens ∧ kept s'.heap))
          (fun e s' => c.Ends s args vs s₁ (.error e) s' ∧ s'.os = s.os ∧ AllBare s'.gens ∧ kept s'.heap) s₁) :
    c.CallFrom (fun vs => ⟨tree vs, .builtin "claim.caller" {}, default, []⟩) w free gens kept s := by
  intro args hpre hlay ord hord
  refine cps fun P hP => ?_
  obtain ⟨vs, s₁, hlaid, hcode⟩ := hspec args hpre hlay ord hord
  have hal := layAllW_rest _ _ _ hlaid
  obtain ⟨k, r, s', s'', hrun, hsched, hfo, hcase, hos, hkp⟩ := thread_endsG (prog := c.prog) (w := w) (t := tree vs) (s := s₁)
    (R := fun r s' => c.Ends s args vs s₁ r s' ∧ s'.os = s.os ∧ kept s'.heap)
    (Shared.asleep_of_life hal.2.2.2 hz)
    (wpG_mono hcode (by
      rintro fin s' ⟨f, e, h1, h2, h3, h4⟩
      exact ⟨f, e, ⟨h1, h2, h4⟩, leftWithCleanup_false_of_bare h3⟩) (by
      rintro e s' ⟨h1, h2, h3, h4⟩
      exact ⟨⟨h1, h2, h4⟩, leftWithCleanup_false_of_bare h3⟩))
  obtain ⟨eh, _, _, eo, _⟩ := Shared.forget_eq hfo
  have hcase := hcase.congr eh
  have hkp : kept s'.heap := by rw [eh]; exact hkp
  rw [← eo] at hos
  have hlife : s'.heap.life = s.heap.life := (runN_life _ _ _ hrun).trans hal.2.2.2
  refine hP ⟨vs, s₁, hlaid, k, _, s', hsched, ?_, (fun _ i x hx => by rw [hgens] at hx; simp at hx), hkp, by rw [hlife], Shared.rest_eq hos⟩
  refine cps fun P hP => ?_
  rcases hcase with ⟨v, rfl, d1, d2, d3, d4, d5⟩ | ⟨e, ob, cls, rfl, d1, d2, d3, d4, d5⟩
  · exact hP (.inl ⟨v, rfl, d1, d2, d3, fun b o y _ => d4 b o y, d5⟩)
  · exact hP (.inr ⟨e, ob, cls, rfl, d1, d2, d3, d4, fun b o y _ => d5 b o y⟩)

theorem open_any {r : RowW} {run : Value → List Value → Sem Value} {tree : List Value → Sem Fin} {q : Program} {loose defs kps : List Str} {writes : Bool} {Xt : Shared → Bool} {XP : (Str → Option Value) → Heap → Prop} {α : Type} {Yf : Shared → α} {Ya : World → α} {YP : World → Heap → Prop} {N : Nat}
    (left : LeftO r.prog q loose Xt Yf Ya N) (hY : ∀ w s, Yf s = Ya w → YP w s.heap) (hYk : ∀ w h h', YP w h → (∀ b o, h.get? b = some o → h'.get? b = some o) → YP w h') (hX : ∀ s, Xt s = true → XP (s.heap.nsMap mainGlobals) s.heap) (hXk : ∀ mg h h', XP mg h → (∀ b o, h.get? b = some o → h'.get? b = some o) → XP mg h')
    (hRf : ∀ s, Xt s = true → RecFacts r.records s.heap) (hwr : (!writes || r.records.isEmpty) = true) (ok : (chainsOk q && opensWell r.prog && (frees r && r.within.isEmpty)) = true) (hb : r.prog.bare) (hw : r.promised)
    (ht : ∀ vs (w : World) (s : Shared) mg f (Q : Fin → Shared → Prop) (E : Value → Shared → Prop), s.heap.Ns mainGlobals mg → mg r.name = some f → wpG (model r.prog w) callerA (run f vs) (fun v s' => Q (.done (.ret v)) s') E s → wpG (model r.prog w) callerA (tree vs) Q E s)
    (pin : ∀ w s, s.heap.isNs mainGlobals = true → Ground q loose [] XP w s (s.heap.nsMap mainGlobals) (s.heap.nsMap builtinsNs) s.heap → ∀ n ∈ defs, isTheDefsW r.prog s.heap n)
    (call : ∀ (w : World) (s₀ s₁ : Shared) (mg mb : Str → Option Value), Ground q loose r.records XP w s₀ mg mb s₁.heap → YP w s₁.heap → ∀ (args : List WData) (vs : List Value) (as : List Addr),
      r.claim.pre args = true → WData.layableAll args = true → Laid r.records w s₀ s₁ args vs as → sysModules < s₀.heap.objs.size → ∃ f, mg r.name = some f ∧
        wpG (model r.prog w) callerA (run f vs) (fun v s' => GoodWG r.claim (classAt s₀.heap) (ExcName.means s₀.heap) args s₁ (.ok (.ret v)) s')
          (fun e s' => GoodWG r.claim (classAt s₀.heap) (ExcName.means s₀.heap) args s₁ (.error e) s') s₁) : r.claim.HoldsOpenBy (fun vs => ⟨tree vs, .builtin "claim.caller" {}, default, []⟩) defs kps writes := by
  obtain ⟨ok, k5⟩ := Bool.and_eq_true_iff.mp ok
  obtain ⟨hch, o1⟩ := Bool.and_eq_true_iff.mp ok
  obtain ⟨k5, k6⟩ := Bool.and_eq_true_iff.mp k5
  obtain ⟨hsame, hu, ha, hap, hm⟩ := frees_parts k5
  refine ⟨⟨hb, o1, by show r.makers.map _ = []; rw [hm]; rfl⟩, hw.witness, fun w => ⟨(left.behind hX hch w).1, fun s' hs' => ?_⟩⟩
  obtain ⟨s₀, hf, hg0, s, hT, hz, hgens, hg, G00, y⟩ := (left.behind (XP := fun mg h => XP mg h ∧ RecFacts r.records h) (fun s hs => ⟨hX s hs, hRf s hs⟩) hch w).2 s' hs'
  have G0 : Ground q loose [] XP w s (s.heap.nsMap mainGlobals) (s.heap.nsMap builtinsNs) s.heap := ⟨G00.T, G00.B, G00.D, G00.TE, G00.TD, G00.W, G00.X.1, G00.cls, G00.has, G00.apart, G00.once, G00.K⟩
  have RF := G00.X.2
  have hT' := hT
  refine ⟨s₀, hf, hg0, s, hT, pin w s hg G0, RF.1, RF.2.1, ?_⟩
  have hgens : s.gens = #[] := Array.eq_empty_of_size_eq_zero (beq_iff_eq.mp hgens)
  have G : Ground q loose r.records XP w s _ _ s.heap := RF.ground G0
  refine callFromG (c := r.claim) hz hgens fun args hpre hlay ord hord => ?_
  obtain ⟨⟨vs, s₁⟩, hlaid⟩ := Option.isSome_iff_exists.mp (layAllW_isSome (P := w.params) (ord := ord) G.has args r.args s (pre_splitW hpre).1)
  have keeps := layAllW_keeps _ _ _ hlaid
  have hal := layAllW_rest _ _ _ hlaid
  obtain ⟨as, hrd, hin, hold⟩ := reads_layAllW hord _ _ _ hlaid hlay s₁.heap (fun _ _ e => e)
  have L : Laid r.records w s s₁ args vs as := ⟨⟨ord, hord, hlaid⟩, hrd, hin, hold, keeps, hal.1.trans hgens, hal.2.2.1⟩
  have G₁ := G.keeps hXk keeps
  obtain ⟨f, hf, h⟩ := call w s s₁ _ _ G₁ (hYk _ _ _ (hY w s y) keeps) args vs as hpre hlay L G.low
  have hi := ident_freeW hu ha hap
  have hwi : r.claim.within = [] := List.isEmpty_iff.mp k6
  exact ⟨vs, s₁, hlaid, ht vs w s₁ _ f _ _ G₁.T.g hf (wpG_mono h (fun v s' g => ⟨_, rfl, have z := g.laid (c := r.claim) hsame hwi hi L; ⟨z.1, z.2.1, z.2.2, fun q => ⟨namesKept_of hT' hg kps keeps g.2.1.old, noTable hwr q⟩⟩⟩) fun e s' g => have z := g.laid (c := r.claim) hsame hwi hi L; ⟨z.1, z.2.1, z.2.2, fun q => ⟨namesKept_of hT' hg kps keeps g.2.1.old, noTable hwr q⟩⟩)⟩

noncomputable abbrev WalkG (q : Program) (loose : List Str) (XP : (Str → Option Value) → Heap → Prop) (YP : World → Heap → Prop) (r : RowW) (d : DefRec) (kwd : List (Str × Expr)) (run : Value → List Value → Sem Value) : Prop :=
  ∀ (w : World) (s₀ s₁ : Shared) (mg mb : Str → Option Value), Ground q loose r.records XP w s₀ mg mb s₁.heap → YP w s₁.heap → ∀ (a : Addr) (o : Obj) (pm cd doc dV kV : Value), s₁.heap.get? a = some o →
    o.data = .func { docDef d.name d.params d.body d.scope pm cd doc with defaults := dV, kwdefaults := kV } → s₁.heap.CodeRec cd d.name → Dflts mg s₁.heap d.params kwd dV kV → mg d.name = some (.ref a) → s₁.gens = #[] →
    ∀ (args : List WData) (vals : List Value) (as : List Addr), r.claim.pre args = true → WData.layableAll args = true → ReadsAllW r.records (classAt s₀.heap) s₁.heap vals args as → WellAll w.params s₁.heap vals args → (∀ a ∈ as, (a == sysModules) = false) →
      wpG (model r.prog w) callerA (run (.ref a) vals) (fun v s' => GoodWG r.claim (classAt s₀.heap) (ExcName.means s₀.heap) args s₁ (.ok (.ret v)) s')
        (fun e s' => GoodWG r.claim (classAt s₀.heap) (ExcName.means s₀.heap) args s₁ (.error e) s') s₁
end Mine
namespace Hd.PySem.W
open _root_.PySem _root_.PySem.Calls PyProof.Rows _root_.PySem.W Mine
/- the head's last step, for walks in such contexts -/
theorem holds_open {r : OpenRow} {q : Program} {loose : List Str} {Xt : Shared → Bool} {XP : (Str → Option Value) → Heap → Prop} {α : Type} {Yf : Shared → α} {Ya : World → α} {YP : World → Heap → Prop} {d : DefRec} {kwd : List (Str × Expr)} {N : Nat}
    (left : ∀ w, (openEnds treeTable r.prog w N).map (fun s => (openSeen q loose (importedModules r.prog.main.body) Xt true s, Yf s)) = some (openGood q loose, Ya w)) (hY : ∀ w s, Yf s = Ya w → YP w s.heap) (hYk : ∀ w h h', YP w h → (∀ b o, h.get? b = some o → h'.get? b = some o) → YP w h')
    (hX : ∀ s, Xt s = true → XP (s.heap.nsMap mainGlobals) s.heap) (hXk : ∀ mg h h', XP mg h → (∀ b o, h.get? b = some o → h'.get? b = some o) → XP mg h')
    (hdef : defOf q r.name = some (d, kwd)) (hp : r.prog.theDef r.name = some (d.params, d.body, d.scope)) (hk : kwWritten? d.params.kwonlyargs d.params.kw_defaults = some kwd) (hRf : ∀ s, Xt s = true → RecFacts r.records s.heap) (hwr : (!r.writes || r.records.isEmpty) = true)
    (k1 : r.wellSaid = true) (ok : (chainsOk q && opensWell r.prog && (frees r.toRowW && r.within.isEmpty)) = true) (hb : r.prog.bare) (hw : r.toRowW.promised)
    (call : WalkG q loose XP YP r.toRowW d kwd fun f vs => call f vs) : r.Holds := by
  refine ⟨k1, hw, open_any (r := r.toRowW) (run := fun f vs => PySem.call f vs) (tree := fun vs => do match ← nsGet mainNs r.name with
      | some f => do ret (← PySem.call f vs)
      | none => unsupported "claim.caller:no-such-global") left hY hYk hX hXk hRf hwr ok hb hw
    (fun vs w s mg f Q E hg hf h => wpG_bindA (wpAny_nsGet hg (by rw [hf]; exact wpG_bind (wpG_mono h (fun _ _ x => wpG_pure x) fun _ _ x => x))))
    (fun w s hg G n hn => ?_) fun w s₀ s₁ mg mb G Y args vs as hpre hlay L low => ?_⟩
  · obtain rfl : n = r.name := by split at hn <;> simp_all
    exact pinned_of_view hg G hdef hp hk
  · obtain ⟨a, o, pm, cd, doc, dV, kV, h1, h2, h3, h4, h5⟩ := G.fn hdef
    exact ⟨.ref a, h1, call w s₀ s₁ mg mb G Y a o pm cd doc dV kV h2 h3 h4 h5 (defOf_name hdef ▸ h1) L.gens args vs as hpre hlay L.reads L.well (L.low low)⟩
end Hd.PySem.W

/- # T1 -/
section
open PySem PySem.W PyProof.Rows
namespace Hd
set_option maxRecDepth 100000 in
set_option maxHeartbeats 8000000 in
open_top hd for PySem.Challenge.rw_jf0013_01
end Hd
end

/- # F1 -/
namespace Mine
open PySem PySem.Calls PyProof.Rows PySem.W

/- ## the abstract state -/
/- abstract values: toks forgotten, own objects by their number -/
inductive AV where
  | none | bool (b : Bool) | int (i : Int) | str (s : List Nat) | bytes (b : List UInt8) | ref (i : Nat) | val (v : Value)
/- abstract objects of the call's own -/
inductive AO where
  | list (xs : List AV) | tup (xs : List AV) | ba (b : List UInt8)
  | fix (o : Obj) (tup : Bool) (xs : List AV)   -- a list or a tuple, the very object
  | rng (a b c : Int)
structure St where
  loc : List (Str × AV)
  mem : List AO

noncomputable def VR (ρ : List Addr) : Value → AV → Prop
  | v, .none => v = .none
  | v, .bool b => v = .bool b
  | v, .int i => ∃ t, v = .int i t
  | v, .str s => ∃ t, v = .str ⟨s.toArray⟩ t
  | v, .bytes b => ∃ t, v = .bytes b.toArray t
  | v, .ref i => ∃ a, ρ[i]? = some a ∧ v = .ref a
  | v, .val u => v = u
noncomputable def OR (ρ : List Addr) : Obj → AO → Prop
  | o, .list xs => ∃ vs n, o = { cls := .type "list", data := .seq vs n } ∧ Paired (VR ρ) vs.toList xs
  | o, .tup xs => ∃ vs n, o = { cls := .type "tuple", data := .seq vs n } ∧ Paired (VR ρ) vs.toList xs
  | o, .ba b => o = { cls := .type "bytearray", data := .bytearray b.toArray }
  | o, .fix o' t xs => o = o' ∧ ∃ vs n, o' = { cls := .type (if t = true then "tuple" else "list"), data := .seq vs n } ∧ Paired (VR ρ) vs.toList xs
  | o, .rng a b c => ∃ t u v, o = { cls := .type "range", data := .fields #[.int a t, .int b u, .int c v] }

structure Fm where
  w : World
  A : Around
  L : Addr
  he : Addr → Option Obj
  H0 : Heap
  outer : List Env
  fenv : Env
  FL : Addr
  sg : Array GenState
  sd : Drawn
  so : OsState

structure Rep (f : Fm) (ρ : List Addr) (σ : St) (s : Shared) : Prop where
  keep : ∀ b o, f.he b = some o → s.heap.get? b = some o
  ns : ∃ m, s.heap.Ns f.L m ∧ ∀ x a, σ.loc.lookup x = some a → ∃ v, m x = some v ∧ VR ρ v a
  mem : Paired (fun a o => ∃ ob, s.heap.get? a = some ob ∧ OR ρ ob o ∧ f.he a = none ∧ a ≠ f.L) ρ σ.mem
  nodup : ρ.Nodup
  gens : s.gens = f.sg
  drawn : s.drawn = f.sd
  os : s.os = f.so

theorem VR.mono {ρ ρ' : List Addr} (hp : ρ <+: ρ') {v : Value} {a : AV} (h : VR ρ v a) : VR ρ' v a := by
  cases a with
  | ref i =>
    obtain ⟨b, hb, rfl⟩ := h
    refine ⟨b, ?_, rfl⟩
    obtain ⟨t, rfl⟩ := hp
    rw [List.getElem?_append_left (List.getElem?_eq_some_iff.mp hb).1]
    exact hb
  | _ => exact h
theorem paired_mono {α β : Type} {F G : α → β → Prop} (h : ∀ a b, F a b → G a b) {l : List α} {m : List β} (p : Paired F l m) : Paired G l m := by
  induction p with
  | nil => exact .nil
  | cons x _ ih => exact .cons (h _ _ x) ih
noncomputable abbrev VRs (ρ : List Addr) : List Value → List AV → Prop := Paired (VR ρ)
theorem VRs.mono {ρ ρ' : List Addr} (hp : ρ <+: ρ') {vs : List Value} {as : List AV} (h : VRs ρ vs as) : VRs ρ' vs as := paired_mono (fun _ _ h => VR.mono hp h) h
theorem OR.mono {ρ ρ' : List Addr} (hp : ρ <+: ρ') {o : Obj} {a : AO} (h : OR ρ o a) : OR ρ' o a := by
  cases a with
  | list xs => obtain ⟨vs, n, e, h⟩ := h; exact ⟨vs, n, e, VRs.mono hp h⟩
  | tup xs => obtain ⟨vs, n, e, h⟩ := h; exact ⟨vs, n, e, VRs.mono hp h⟩
  | ba b => exact h
  | fix o' t xs => obtain ⟨e1, vs, n, e, h⟩ := h; exact ⟨e1, vs, n, e, VRs.mono hp h⟩
  | rng a b c => exact h

/- ## an exception in flight in the frame -/
structure Exn (f : Fm) (e : Value) (c : Value) (s : Shared) : Prop where
  stays : f.H0.StaysIn s.heap
  up : ∀ b o, f.he b = some o → (∀ vs, o.data ≠ .fields vs) → ∃ sl, s.heap.get? b = some { o with slots := sl }
  frames : s.heap.FunFrames f.H0 (f.fenv :: f.outer)
  gens : s.gens = f.sg
  drawn : s.drawn = f.sd
  os : s.os = f.so
  exc : ∃ ea, e = .ref ea ∧ f.H0.get? ea = none ∧
    ((∃ oe vs a0, s.heap.get? ea = some oe ∧ oe.cls = c ∧ oe.data = .fields vs ∧ vs[1]? = some .none ∧ vs[0]? = some a0) ∨
     (∃ a0 fl, s.heap.TracedAtW f.H0 ea c a0 fl ∧ (fl = .none ∨ fl = rawInt f.FL)))

noncomputable abbrev KK (w : World) : Frag := Hd.hd.heap_39 w.params
noncomputable abbrev pw : Program := Challenge.pw_jf0013_01

/- what is known of the heap behind the top -/
structure G0 (w : World) (H0 : Heap) (mg mb : Str → Option Value) : Prop where
  kin : (KK w).In H0
  top : ∃ loose mean, Top Hd.hd.view_39 loose mean mg mb H0

structure FmOk (f : Fm) (env : Env) (n : Nat) : Prop where
  g : ∃ mg mb, G0 f.w f.H0 mg mb
  frames : f.A.frames = some (f.fenv :: f.outer)
  handled : f.A.handled = none
  depth : f.A.depth + n ≤ 900
  units : f.A.units + 8 * n ≤ 9000
  stays : ∀ b o, f.H0.get? b = some o → f.he b = some o
  ofr : ∀ h : Heap, (∀ b o, f.he b = some o → (∀ vs, o.data ≠ .fields vs) → ∃ sl, h.get? b = some { o with slots := sl }) → h.FunFrames f.H0 f.outer
  ff : f.fenv.frame = some f.FL
  ffk : f.fenv.scope.kind ≠ .module
  fl : f.FL = f.L ∨ ∃ o, f.he f.FL = some o ∧ ∀ vs, o.data ≠ .fields vs
  fnew : f.H0.get? f.FL = none
  loc : env.locals = f.L
  glob : env.globals = mainGlobals
  bui : env.builtins = builtinsNs
  kind : env.scope.kind = .function
  efr : env.frame = some f.FL
  lnew : f.FL = f.L → f.he f.L = none
  guards : f.A.guards = some []
  fe : f.fenv.scope.isGenerator = false ∧ f.fenv.scope.isCoroutine = false ∧ f.fenv.builtins = builtinsNs ∧ f.fenv.globals = mainGlobals

/- ## posts and triples -/
inductive PV {α β : Type} (f : Fm) (ρ : List Addr) (R : List Addr → α → β → Prop) (Φ : β → St → Prop) (v : α) (s : Shared) : Prop where
  | mk (ρ' : List Addr) (b : β) (σ' : St) (p : ρ <+: ρ') (r : Rep f ρ' σ' s) (v1 : R ρ' v b) (h : Φ b σ')
inductive PE (f : Fm) (Ψ : Value → Prop) (e : Value) (s : Shared) : Prop where
  | mk (c : Value) (x : Exn f e c s) (h : Ψ c)
theorem PV.elim {α β : Type} {f : Fm} {ρ : List Addr} {R : List Addr → α → β → Prop} {Φ : β → St → Prop} {v : α} {s : Shared} {C : Prop} (h : PV f ρ R Φ v s) (k : ∀ (ρ' : List Addr) (b : β) (σ' : St), ρ <+: ρ' → Rep f ρ' σ' s → R ρ' v b → Φ b σ' → C) : C :=
  PV.casesOn (motive := fun _ => C) h k
theorem PE.elim {f : Fm} {Ψ : Value → Prop} {e : Value} {s : Shared} {C : Prop} (h : PE f Ψ e s) (k : ∀ c, Exn f e c s → Ψ c → C) : C := PE.casesOn (motive := fun _ => C) h k

theorem PV.mono {α β : Type} {f : Fm} {ρ₀ ρ : List Addr} {R : List Addr → α → β → Prop} {Φ : β → St → Prop} (hp : ρ₀ <+: ρ) {v : α} {s : Shared} (h : PV f ρ R Φ v s) : PV f ρ₀ R Φ v s :=
  h.elim fun ρ' b σ' h1 h2 h3 h4 => ⟨ρ', b, σ', hp.trans h1, h2, h3, h4⟩

noncomputable def Tr {α β : Type} (f : Fm) (t : Sem α) (R : List Addr → α → β → Prop) (σ : St) (Φ : β → St → Prop) (Ψ : Value → Prop) : Prop :=
  ∀ ρ s, Rep f ρ σ s → wpAny (model pw f.w) f.A t (PV f ρ R Φ) (PE f Ψ) s
/- an operation upon related values -/
noncomputable def Op1 {α β : Type} (f : Fm) (k : Value → Sem α) (R : List Addr → α → β → Prop) (a : AV) (σ : St) (Φ : β → St → Prop) (Ψ : Value → Prop) : Prop :=
  ∀ ρ v, VR ρ v a → ∀ s, Rep f ρ σ s → wpAny (model pw f.w) f.A (k v) (PV f ρ R Φ) (PE f Ψ) s
noncomputable def Op2 {α β : Type} (f : Fm) (k : Value → Value → Sem α) (R : List Addr → α → β → Prop) (a b : AV) (σ : St) (Φ : β → St → Prop) (Ψ : Value → Prop) : Prop :=
  ∀ ρ v u, VR ρ v a → VR ρ u b → ∀ s, Rep f ρ σ s → wpAny (model pw f.w) f.A (k v u) (PV f ρ R Φ) (PE f Ψ) s
noncomputable def OpN {α β : Type} (f : Fm) (k : List Value → Sem α) (R : List Addr → α → β → Prop) (as : List AV) (σ : St) (Φ : β → St → Prop) (Ψ : Value → Prop) : Prop :=
  ∀ ρ vs, VRs ρ vs as → ∀ s, Rep f ρ σ s → wpAny (model pw f.w) f.A (k vs) (PV f ρ R Φ) (PE f Ψ) s

inductive AF where
  | next | brk | cont | ret (a : AV)
noncomputable def FR (ρ : List Addr) : Flow → AF → Prop
  | fl, .next => fl = .next
  | fl, .brk => fl = .brk
  | fl, .cont => fl = .cont
  | fl, .ret a => ∃ v, fl = .ret v ∧ VR ρ v a
noncomputable abbrev UR (_ : List Addr) (_ : Unit) (_ : Unit) : Prop := True
noncomputable abbrev BR (_ : List Addr) (a b : Bool) : Prop := a = b

noncomputable abbrev Ev (f : Fm) (e : Expr) (env : Env) (σ : St) (Φ : AV → St → Prop) (Ψ : Value → Prop) : Prop := Tr f (eval e env) VR σ Φ Ψ
noncomputable abbrev Es (f : Fm) (b : List Stmt) (env : Env) (σ : St) (Φ : AF → St → Prop) (Ψ : Value → Prop) : Prop := Tr f (execs b env) FR σ Φ Ψ
noncomputable abbrev Ex (f : Fm) (b : Stmt) (env : Env) (σ : St) (Φ : AF → St → Prop) (Ψ : Value → Prop) : Prop := Tr f (exec b env) FR σ Φ Ψ

section
variable {α β γ δ : Type} {f : Fm} {env : Env} {n : Nat} {Ψ : Value → Prop} {σ : St}

theorem Tr.mono {t : Sem α} {R : List Addr → α → β → Prop} {Φ Φ' : β → St → Prop} {Ψ' : Value → Prop} (h : Tr f t R σ Φ Ψ) (hΦ : ∀ b σ, Φ b σ → Φ' b σ) (hΨ : ∀ c, Ψ c → Ψ' c) : Tr f t R σ Φ' Ψ' := fun ρ s r =>
  wpAny_mono (h ρ s r) (fun _ _ ⟨ρ', b, σ', h1, h2, h3, h4⟩ => ⟨ρ', b, σ', h1, h2, h3, hΦ _ _ h4⟩) fun _ _ q => q.elim fun c h1 h2 => ⟨c, h1, hΨ c h2⟩
theorem Tr.bind {t : Sem α} {k : α → Sem γ} {R : List Addr → α → β → Prop} {S : List Addr → γ → δ → Prop} {Φ : δ → St → Prop}
    (h : Tr f t R σ (fun b σ' => ∀ ρ v, R ρ v b → ∀ s, Rep f ρ σ' s → wpAny (model pw f.w) f.A (k v) (PV f ρ S Φ) (PE f Ψ) s) Ψ) : Tr f (t >>= k) S σ Φ Ψ := fun ρ s r =>
  wpAny_bind (wpAny_mono (h ρ s r) (fun _ _ ⟨ρ', _, _, h1, h2, h3, h4⟩ => wpAny_mono (h4 ρ' _ h3 _ h2) (fun _ _ q => q.mono h1) fun _ _ q => q) fun _ _ q => q)

/- the state may be weakened: names forgotten -/
theorem Rep.weaken {ρ : List Addr} {σ σ' : St} {s : Shared} (r : Rep f ρ σ s) (hl : ∀ x a, σ'.loc.lookup x = some a → σ.loc.lookup x = some a) (hm : σ'.mem = σ.mem) : Rep f ρ σ' s :=
  ⟨r.keep, let ⟨m, h1, h2⟩ := r.ns; ⟨m, h1, fun x a e => h2 x a (hl x a e)⟩, hm ▸ r.mem, r.nodup, r.gens, r.drawn, r.os⟩
end
end Mine

/- # F2 -/
namespace Mine
open PySem PySem.Calls PyProof.Rows PySem.W

section
variable {α β γ δ : Type} {f : Fm} {env : Env} {n : Nat} {Ψ : Value → Prop} {ρ : List Addr} {σ : St} {s : Shared}

theorem Rep.keeps (r : Rep f ρ σ s) {h' : Heap} {tk : Nat} (hk : ∀ b o, s.heap.get? b = some o → h'.get? b = some o) : Rep f ρ σ { s with heap := h', toks := tk } :=
  ⟨fun b o e => hk b o (r.keep b o e), let ⟨m, h1, h2⟩ := r.ns; ⟨m, h1.keeps hk, h2⟩, paired_mono (fun _ _ qq1 => qq1.elim fun ob qq2 => qq2.elim fun h1 h2 => ⟨ob, hk _ _ h1, h2⟩) r.mem, r.nodup, r.gens, r.drawn, r.os⟩
theorem Rep.tk (r : Rep f ρ σ s) {tk : Nat} : Rep f ρ σ { s with toks := tk } := r.keeps fun _ _ e => e

theorem pv {R : List Addr → α → β → Prop} {Φ : β → St → Prop} {v : α} {b : β} (r : Rep f ρ σ s) (h : R ρ v b) (hΦ : Φ b σ) : PV f ρ R Φ v s := ⟨ρ, b, σ, List.prefix_refl _, r, h, hΦ⟩

theorem vr_int {i : Int} {t : Tok} : VR ρ (.int i t) (.int i) := ⟨t, rfl⟩
theorem vr_str {l : List Nat} {t : Tok} : VR ρ (.str ⟨l.toArray⟩ t) (.str l) := ⟨t, rfl⟩
theorem vr_bytes {l : List UInt8} {t : Tok} : VR ρ (.bytes l.toArray t) (.bytes l) := ⟨t, rfl⟩
theorem vr_bool {b : Bool} : VR ρ (.bool b) (.bool b) := (rfl : Value.bool b = Value.bool b)
theorem vr_none : VR ρ .none .none := (rfl : Value.none = Value.none)
theorem vr_val {v : Value} : VR ρ v (.val v) := (rfl : v = v)

/- ## names -/
theorem e_loc {x : Str} {p : Pos} {a : AV} {Φ : AV → St → Prop} (hf : FmOk f env n) (hx : env.kindOf x = some .local) (hv : σ.loc.lookup x = some a) (h : Φ a σ)
    (hd : (x == ("__debug__" : Str)) = false := by kernel_rfl) : Ev f (.Name x p) env σ Φ Ψ := fun ρ s r => by
  obtain ⟨m, h1, h2⟩ := r.ns
  obtain ⟨v, hv1, hv2⟩ := h2 x a hv
  exact wpAny_Name (wpAny_loadName_local hf.kind hx (hf.loc ▸ h1) hv1 (pv r hv2 h)) hd

theorem Rep.stays (r : Rep f ρ σ s) (hf : FmOk f env n) : f.H0.StaysIn s.heap := fun b o e => r.keep b o (hf.stays b o e)

theorem e_glob {x : Str} {p : Pos} {v : Value} {a : AV} {Φ : AV → St → Prop} (hf : FmOk f env n) (hx : env.kindOf x = some .globalImplicit) (hn : ∀ w, nsIn (KK w) mainGlobals x = some (some v))
    (hv : VR [] v a) (h : Φ a σ) (hd : (x == ("__debug__" : Str)) = false := by kernel_rfl) : Ev f (.Name x p) env σ Φ Ψ := fun ρ s r => by
  obtain ⟨mg, mb, G⟩ := hf.g
  obtain ⟨loose, mean, T⟩ := G.top
  exact Calls.Name_function_global hf.kind hx (Calls.loadGlobal_global (hf.glob ▸ T.g.keeps (r.stays hf)) (mg_of G.kin T.g (hn _)) (pv r (hv.mono (List.nil_prefix)) h)) hd

theorem e_bi {x : Str} {p : Pos} {v : Value} {Φ : AV → St → Prop} (hf : FmOk f env n) (hx : env.kindOf x = some .globalImplicit) (hn : ∀ w, nsIn (KK w) mainGlobals x = some none)
    (hv : bootBuiltins x = some v) (h : Φ (.val v) σ) (hne : x ≠ "__name__" := by decide +kernel) (hd : (x == ("__debug__" : Str)) = false := by kernel_rfl) : Ev f (.Name x p) env σ Φ Ψ := fun ρ s r => by
  obtain ⟨mg, mb, G⟩ := hf.g
  obtain ⟨loose, mean, T⟩ := G.top
  exact Calls.Name_function_global hf.kind hx (Calls.loadGlobal_builtin (hf.glob ▸ T.g.keeps (r.stays hf)) (mg_none_of G.kin T.g (hn _)) (hf.bui ▸ T.b.keeps (r.stays hf)) ((T.builtins x hne).trans hv) (pv r vr_val h)) hd

/- ## constants -/
theorem e_int {i : Int} {k : Nat} {p : Pos} {Φ : AV → St → Prop} (h : Φ (.int i) σ) : Ev f (.Constant (.int i) k p) env σ Φ Ψ := fun _ _ r => wpAny_Constant_int (pv r.tk vr_int h)
theorem e_str {x : Str} {k : Nat} {p : Pos} {l : List Nat} {Φ : AV → St → Prop} (hl : x = ⟨l.toArray⟩) (h : Φ (.str l) σ) : Ev f (.Constant (.str x) k p) env σ Φ Ψ := fun _ _ r =>
  Calls.Constant_str (pv r.tk (hl ▸ vr_str) h)
theorem e_bytes {b : List UInt8} {k : Nat} {p : Pos} {Φ : AV → St → Prop} (h : Φ (.bytes b) σ) : Ev f (.Constant (.bytes b) k p) env σ Φ Ψ := fun ρ s r => by
  intro Γ q hΓ
  exact (pv (Φ := Φ) (R := VR) (v := .bytes b.toArray s.toks) (b := .bytes b) r.tk vr_bytes h : PV f ρ VR Φ (.bytes b.toArray s.toks) { s with toks := s.toks + 1 })
theorem e_bool {b : Bool} {k : Nat} {p : Pos} {Φ : AV → St → Prop} (h : Φ (.bool b) σ) : Ev f (.Constant (.bool b) k p) env σ Φ Ψ := fun _ _ r => wpAny_Constant_bool (pv r vr_bool h)
theorem e_none {k : Nat} {p : Pos} {Φ : AV → St → Prop} (h : Φ .none σ) : Ev f (.Constant .none k p) env σ Φ Ψ := fun _ _ r => wpAny_Constant_none (pv r vr_none h)

/- ## what comes behind, by name -/
noncomputable abbrev K2 {α : Type} (f : Fm) (Ψ : Value → Prop) (k : Value → Value → Sem α) (β : Type) (R : List Addr → α → β → Prop) (Φ : β → St → Prop) (a b : AV) (σ₂ : St) : Prop := Op2 f k R a b σ₂ Φ Ψ
noncomputable abbrev KR {α : Type} (f : Fm) (env : Env) (Ψ : Value → Prop) (k : Value → Value → Sem α) (β : Type) (R : List Addr → α → β → Prop) (r : Expr) (Φ : β → St → Prop) (a : AV) (σ₁ : St) : Prop := Ev f r env σ₁ (K2 f Ψ k β R Φ a) Ψ
noncomputable abbrev KB (Φ : Bool → St → Prop) (c : AV) (σ₃ : St) : Prop := match c with | .bool t => Φ t σ₃ | _ => False
theorem KB.elim {Φ : Bool → St → Prop} {c : AV} {σ₃ : St} {C : Prop} (h : KB Φ c σ₃) (k : ∀ t, c = .bool t → Φ t σ₃ → C) : C := by
  cases c <;> first | exact k _ rfl h | exact False.elim h
noncomputable abbrev K1 {α : Type} (f : Fm) (Ψ : Value → Prop) (k : Value → Sem α) (β : Type) (R : List Addr → α → β → Prop) (Φ : β → St → Prop) (a : AV) (σ₁ : St) : Prop := Op1 f k R a σ₁ Φ Ψ
noncomputable abbrev KNot (Φ : Bool → St → Prop) (b : Bool) (σ₁ : St) : Prop := Φ (!b) σ₁
/- ## operators -/
theorem e_binop {l r : Expr} {op : Operator} {p : Pos} {Φ : AV → St → Prop}
    (h : Ev f l env σ (KR f env Ψ (binaryOp op) AV VR r Φ) Ψ) : Ev f (.BinOp l op r p) env σ Φ Ψ := fun ρ s rp =>
  wpAny_BinOp (wpAny_mono (h ρ s rp) (fun _ _ qq3 => qq3.elim fun ρ₁ _ _ p1 r1 v1 h1 => wpAny_mono (h1 ρ₁ _ r1) (fun _ _ qq4 => qq4.elim fun ρ₂ _ _ p2 r2 v2 h2 =>
    wpAny_mono (h2 ρ₂ _ _ (v1.mono p2) v2 _ r2) (fun _ _ q => q.mono (p1.trans p2)) fun _ _ q => q) fun _ _ q => q) fun _ _ q => q)
theorem e_compare {l r : Expr} {op : CmpOp} {p : Pos} {Φ : AV → St → Prop}
    (h : Ev f l env σ (KR f env Ψ (compareOp op) AV VR r Φ) Ψ) (hm : behindInMarks op r = false := by with_unfolding_all rfl) : Ev f (.Compare l [op] [r] p) env σ Φ Ψ := fun ρ s rp =>
  wpAny_Compare1 (wpAny_mono (h ρ s rp) (fun _ _ qq5 => qq5.elim fun ρ₁ _ _ p1 r1 v1 h1 => wpAny_mono (h1 ρ₁ _ r1) (fun _ _ qq6 => qq6.elim fun ρ₂ _ _ p2 r2 v2 h2 =>
    wpAny_mono (h2 ρ₂ _ _ (v1.mono p2) v2 _ r2) (fun _ _ q => q.mono (p1.trans p2)) fun _ _ q => q) fun _ _ q => q) fun _ _ q => q) hm
theorem e_unary {e : Expr} {op : UnaryOp} {p : Pos} {Φ : AV → St → Prop} (h : Ev f e env σ (K1 f Ψ (unaryOp op) AV VR Φ) Ψ) : Ev f (.UnaryOp op e p) env σ Φ Ψ := fun ρ s rp =>
  UnaryOp_ (wpAny_mono (h ρ s rp) (fun _ _ qq7 => qq7.elim fun ρ₁ _ _ p1 r1 v1 h1 => wpAny_mono (h1 ρ₁ _ v1 _ r1) (fun _ _ q => q.mono p1) fun _ _ q => q) fun _ _ q => q)

/- ## tests -/
noncomputable abbrev Tt (f : Fm) (e : Expr) (env : Env) (σ : St) (Φ : Bool → St → Prop) (Ψ : Value → Prop) : Prop := Tr f (isTrue e env (eval e env)) BR σ Φ Ψ

theorem t_compare {l r : Expr} {op : CmpOp} {p : Pos} {Φ : Bool → St → Prop}
    (h : Ev f l env σ (KR f env Ψ (compareOp op) AV VR r (KB Φ)) Ψ) (hm : behindInMarks op r = false := by with_unfolding_all rfl) : Tt f (.Compare l [op] [r] p) env σ Φ Ψ := fun ρ s rp =>
  wpAny_isTrue_Compare1 (wpAny_mono (h ρ s rp) (fun _ _ qq8 => qq8.elim fun ρ₁ _ _ p1 r1 v1 h1 => wpAny_mono (h1 ρ₁ _ r1) (fun _ _ qq9 => qq9.elim fun ρ₂ _ _ p2 r2 v2 h2 =>
    wpAny_mono (h2 ρ₂ _ _ (v1.mono p2) v2 _ r2) (fun _ _ qq10 => qq10.elim fun ρ₃ c _ p3 r3 v3 qq11 => qq11.elim fun t e h3 => by
      subst e
      obtain rfl : _ = Value.bool t := v3
      exact wpAny_truthy_bool ⟨ρ₃, t, _, (p1.trans p2).trans p3, r3, rfl, h3⟩) fun _ _ q => q) fun _ _ q => q) fun _ _ q => q) hm
theorem t_value {e : Expr} {Φ : Bool → St → Prop} (h : Ev f e env σ (K1 f Ψ truthy Bool BR Φ) Ψ)
    (he : ∀ whole, isTrue e env whole = (do let v ← whole; standAt e.pos; holding [v] (truthy v)) := by intro _; rfl) : Tt f e env σ Φ Ψ := fun ρ s rp =>
  wpAny_isTrue_value (wpAny_mono (h ρ s rp) (fun _ _ qq13 => qq13.elim fun ρ₁ _ _ p1 r1 v1 h1 => wpAny_mono (h1 ρ₁ _ v1 _ r1) (fun _ _ q => q.mono p1) fun _ _ q => q) fun _ _ q => q) (he _)
theorem t_not {e : Expr} {p : Pos} {Φ : Bool → St → Prop} (h : Tt f e env σ (KNot Φ) Ψ) : Tt f (.UnaryOp .Not e p) env σ Φ Ψ := fun ρ s rp => by
  show wpAny _ _ (isTrue (.UnaryOp .Not e p) env _) _ _ s
  rw [arm_isTrue_UnaryOp]
  exact wpAny_bind (wpAny_mono (h ρ s rp) (fun _ _ qq14 => qq14.elim fun ρ₁ b _ p1 r1 v1 h1 => wpAny_pure ⟨ρ₁, !b, _, p1, r1, (by rw [show _ = b from v1]), h1⟩) fun _ _ q => q)
/- and, or: the tests one by one -/
noncomputable def TAll (f : Fm) (op : BoolOp) (es : List Expr) (env : Env) (σ : St) (Φ : Bool → St → Prop) (Ψ : Value → Prop) : Prop := Tr f (allTrue op es env) BR σ Φ Ψ
noncomputable abbrev KOr (f : Fm) (env : Env) (Ψ : Value → Prop) (es : List Expr) (Φ : Bool → St → Prop) (b : Bool) (σ₁ : St) : Prop := if b = true then Φ true σ₁ else TAll f .Or es env σ₁ Φ Ψ
noncomputable abbrev KAnd (f : Fm) (env : Env) (Ψ : Value → Prop) (es : List Expr) (Φ : Bool → St → Prop) (b : Bool) (σ₁ : St) : Prop := if b = true then TAll f .And es env σ₁ Φ Ψ else Φ false σ₁
noncomputable abbrev KIf (f : Fm) (env : Env) (Ψ : Value → Prop) (a b : Expr) (Φ : AV → St → Prop) (c : Bool) (σ₁ : St) : Prop := if c = true then Ev f a env σ₁ Φ Ψ else Ev f b env σ₁ Φ Ψ
noncomputable abbrev KOrV (f : Fm) (y : Expr) (env : Env) (Φ : AV → St → Prop) (Ψ : Value → Prop) (a : AV) (b : Bool) (σ₂ : St) : Prop := if b = true then Φ a σ₂ else Ev f y env σ₂ Φ Ψ
noncomputable abbrev KOr2 (f : Fm) (y : Expr) (env : Env) (Φ : AV → St → Prop) (Ψ : Value → Prop) (a : AV) (σ₁ : St) : Prop := Op1 f truthy BR a σ₁ (KOrV f y env Φ Ψ a) Ψ
theorem t_bool {op : BoolOp} {es : List Expr} {p : Pos} {Φ : Bool → St → Prop} (h : TAll f op es env σ Φ Ψ) : Tt f (.BoolOp op es p) env σ Φ Ψ := h
theorem ta_nil {op : BoolOp} {Φ : Bool → St → Prop} (h : Φ (op == .And) σ) : TAll f op [] env σ Φ Ψ := fun _ _ r => wpAny_pure (pv r rfl h)
theorem ta_or {e : Expr} {es : List Expr} {Φ : Bool → St → Prop} (h : Tt f e env σ (KOr f env Ψ es Φ) Ψ) : TAll f .Or (e :: es) env σ Φ Ψ := fun ρ s rp => by
  rw [arm_allTrue_cons]
  refine wpAny_bind (wpAny_mono (h ρ s rp) (fun b _ qq15 => qq15.elim fun ρ₁ b' _ p1 r1 v1 h1 => ?_) fun _ _ q => q)
  obtain rfl : b = b' := v1
  cases b with
  | true => exact wpAny_pure ⟨ρ₁, true, _, p1, r1, rfl, h1⟩
  | false => exact wpAny_mono ((show TAll f .Or es env _ Φ Ψ from h1) ρ₁ _ r1) (fun _ _ q => q.mono p1) fun _ _ q => q
theorem ta_and {e : Expr} {es : List Expr} {Φ : Bool → St → Prop} (h : Tt f e env σ (KAnd f env Ψ es Φ) Ψ) : TAll f .And (e :: es) env σ Φ Ψ := fun ρ s rp => by
  rw [arm_allTrue_cons]
  refine wpAny_bind (wpAny_mono (h ρ s rp) (fun b _ qq16 => qq16.elim fun ρ₁ b' _ p1 r1 v1 h1 => ?_) fun _ _ q => q)
  obtain rfl : b = b' := v1
  cases b with
  | false => exact wpAny_pure ⟨ρ₁, false, _, p1, r1, rfl, h1⟩
  | true => exact wpAny_mono ((show TAll f .And es env _ Φ Ψ from h1) ρ₁ _ r1) (fun _ _ q => q.mono p1) fun _ _ q => q
theorem e_if {t a b : Expr} {p : Pos} {Φ : AV → St → Prop} (h : Tt f t env σ (KIf f env Ψ a b Φ) Ψ) : Ev f (.IfExp t a b p) env σ Φ Ψ := fun ρ s rp => by
  show wpAny _ _ (eval (.IfExp t a b p) env) _ _ s
  rw [arm_eval_IfExp]
  refine wpAny_bind (wpAny_mono (h ρ s rp) (fun c _ qq17 => qq17.elim fun ρ₁ c' _ p1 r1 v1 h1 => ?_) fun _ _ q => q)
  obtain rfl : c = c' := v1
  cases c with
  | true => exact wpAny_mono ((show Ev f a env _ Φ Ψ from h1) ρ₁ _ r1) (fun _ _ q => q.mono p1) fun _ _ q => q
  | false => exact wpAny_mono ((show Ev f b env _ Φ Ψ from h1) ρ₁ _ r1) (fun _ _ q => q.mono p1) fun _ _ q => q
/- x or y, as a value -/
theorem e_or2 {x y : Expr} {p : Pos} {Φ : AV → St → Prop} (h : Ev f x env σ (KOr2 f y env Φ Ψ) Ψ) :
    Ev f (.BoolOp .Or [x, y] p) env σ Φ Ψ := fun ρ s rp => by
  show wpAny _ _ (eval x env >>= fun v => standAt p >>= fun _ => holding [v] (truthy v) >>= fun t => _) _ _ s
  refine wpAny_bind (wpAny_mono (h ρ s rp) (fun v _ qq18 => qq18.elim fun ρ₁ a _ p1 r1 v1 h1 => wpAny_bind (wpAny_standAt (wpAny_bind (wpAny_holding (wpAny_mono (h1 ρ₁ _ v1 _ r1) (fun b _ qq19 => qq19.elim fun ρ₂ b' _ p2 r2 v2 h2 => ?_) fun _ _ q => q))))) fun _ _ q => q)
  obtain rfl : b = b' := v2
  cases b with
  | true => exact wpAny_pure ⟨ρ₂, a, _, p1.trans p2, r2, v1.mono p2, h2⟩
  | false => exact wpAny_mono ((show Ev f y env _ Φ Ψ from h2) ρ₂ _ r2) (fun _ _ q => q.mono (p1.trans p2)) fun _ _ q => q
end
end Mine

/- # F3 -/
namespace Mine
open PySem PySem.Calls PyProof.Rows PySem.W

section
variable {α β γ δ : Type} {f : Fm} {env : Env} {n : Nat} {Ψ : Value → Prop} {ρ : List Addr} {σ : St} {s : Shared}

/- ## storing a name -/
noncomputable def St.set (σ : St) (x : Str) (a : AV) : St := { σ with loc := (x, a) :: σ.loc }
theorem paired_get {α β : Type} {F : α → β → Prop} {l : List α} {m : List β} (p : Paired F l m) : ∀ {i : Nat} {a : α}, l[i]? = some a → ∃ b, m[i]? = some b ∧ F a b := by
  induction p with
  | nil => exact fun h => nn h
  | cons x _ ih =>
    intro i a h
    cases i with
    | zero => exact ⟨_, rfl, Option.some.inj h ▸ x⟩
    | succ i => exact ih h
theorem paired_swap {α β : Type} {F : α → β → Prop} {l : List α} {m : List β} (p : Paired F l m) : Paired (fun b a => F a b) m l := by
  induction p with
  | nil => exact .nil
  | cons x _ ih => exact .cons x ih
theorem paired_get' {α β : Type} {F : α → β → Prop} {l : List α} {m : List β} (p : Paired F l m) {i : Nat} {b : β} (h : m[i]? = some b) : ∃ a, l[i]? = some a ∧ F a b := paired_get (paired_swap p) h
theorem Rep.ne (r : Rep f ρ σ s) {i : Nat} {a : Addr} (h : ρ[i]? = some a) : f.he a = none ∧ a ≠ f.L := by
  obtain ⟨_, _, _, _, _, h1, h2⟩ := paired_get r.mem h
  exact ⟨h1, h2⟩

theorem FmOk.isFL (hf : FmOk f env n) (he : env.frame = some env.locals) : f.FL = f.L := by
  have h1 := hf.efr
  rw [he] at h1
  rw [← hf.loc]
  exact (Option.some.inj h1).symm
theorem storeName_any {M : Model} {A : Around} {E : Value → Shared → Prop} {x : Str} {m} {v : Value} {Q : Unit → Shared → Prop} (hl : env.kindOf x = some .local) (hk : env.scope.kind = .function)
    (hn : s.heap.Ns env.locals m) (h : ∀ h', h'.Ns env.locals (fun y => if y = x then some v else m y) → Heap.SameBut env.locals s.heap h' → Q () { s with heap := h', toks := s.toks + 1 }) :
    wpAny M A (storeName env x v) Q E s :=
  wpAny_storeName_local hl hn h (by rw [hk]; rfl)

theorem rep_store {M : Model} {A : Around} {E : Value → Shared → Prop} {x : Str} {v : Value} {a : AV} (hf : FmOk f env n) (hx : env.kindOf x = some .local) (hfr : env.frame = some env.locals)
    (r : Rep f ρ σ s) (hv : VR ρ v a) {Q : Unit → Shared → Prop} (h : ∀ s', Rep f ρ (σ.set x a) s' → Q () s') : wpAny M A (storeName env x v) Q E s := by
  obtain ⟨m, h1, h2⟩ := r.ns
  refine storeName_any hx hf.kind (by rw [hf.loc]; exact h1) (fun h' hn hs => h _ ?_)
  rw [hf.loc] at hn hs
  have hl := hf.lnew (hf.isFL hfr)
  refine ⟨fun b o e => (hs.2 b (fun q => by rw [q, hl] at e; (first | exact nn e | exact sn e | exact tf e | exact ft e | cases e))).trans (r.keep b o e), ⟨_, hn, fun y c e => ?_⟩, ?_, r.nodup, r.gens, r.drawn, r.os⟩
  · by_cases q : y = x
    · subst q
      have : some a = some c := by
        have e' : List.lookup y ((y, a) :: σ.loc) = some c := e
        rw [List.lookup_cons] at e'
        simpa using e'
      obtain rfl := Option.some.inj this
      exact ⟨v, by rw [if_pos rfl], hv⟩
    · have e' : List.lookup y ((x, a) :: σ.loc) = some c := e
      rw [List.lookup_cons] at e'
      have q' : (y == x) = false := by simpa using q
      obtain ⟨u, h3, h4⟩ := h2 y c (by simpa only [q'] using e')
      exact ⟨u, by rw [if_neg q]; exact h3, h4⟩
  · exact paired_mono (fun _ _ qq1 => qq1.elim fun ob qq2 => qq2.elim fun h1 qq3 => qq3.elim fun h2 qq4 => qq4.elim fun h3 h4 => ⟨ob, (hs.2 _ h4).trans h1, h2, h3, h4⟩) r.mem

/- ## statements -/
noncomputable abbrev Sq (f : Fm) (env : Env) (Ψ : Value → Prop) (rest : List Stmt) (Φ : AF → St → Prop) (fl : AF) (σ₁ : St) : Prop := match fl with | .next => Es f rest env σ₁ Φ Ψ | fl => Φ fl σ₁
noncomputable abbrev Sto (x : Str) (Φ : AF → St → Prop) (a : AV) (σ₁ : St) : Prop := Φ .next (σ₁.set x a)
noncomputable abbrev Nxt (Φ : AF → St → Prop) (_ : AV) (σ₁ : St) : Prop := Φ .next σ₁
noncomputable abbrev Rtn (Φ : AF → St → Prop) (a : AV) (σ₁ : St) : Prop := Φ (.ret a) σ₁
noncomputable abbrev Brn (f : Fm) (env : Env) (Ψ : Value → Prop) (a b : List Stmt) (Φ : AF → St → Prop) (c : Bool) (σ₁ : St) : Prop := if c = true then Es f a env σ₁ Φ Ψ else Es f b env σ₁ Φ Ψ
noncomputable abbrev Mid (mid : St → Prop) (Φ : AF → St → Prop) (fl : AF) (σ₁ : St) : Prop := match fl with | .next => mid σ₁ | fl => Φ fl σ₁
theorem fr_next : FR ρ .next .next := (rfl : Flow.next = Flow.next)
theorem x_nil {Φ : AF → St → Prop} (h : Φ .next σ) : Es f [] env σ Φ Ψ := fun _ _ r => wpAny_execs_nil (pv r fr_next h)
theorem x_cons {st : Stmt} {rest : List Stmt} {Φ : AF → St → Prop}
    (h : Ex f st env σ (Sq f env Ψ rest Φ) Ψ) : Es f (st :: rest) env σ Φ Ψ := fun ρ s rp => by
  refine wpAny_execs_cons (wpAny_mono (h ρ s rp) (fun fl s₁ qq5 => qq5.elim fun ρ₁ b σ₁ p1 r1 v1 h1 => ?_) fun _ _ q => q)
  cases b with
  | next =>
    obtain rfl : fl = .next := v1
    exact wpAny_mono ((show Es f rest env σ₁ Φ Ψ from h1) ρ₁ _ r1) (fun _ _ q => q.mono p1) fun _ _ q => q
  | brk => have q : fl = .brk := v1; subst q; exact ⟨ρ₁, .brk, _, p1, r1, rfl, h1⟩
  | cont => have q : fl = .cont := v1; subst q; exact ⟨ρ₁, .cont, _, p1, r1, rfl, h1⟩
  | ret a =>
    obtain ⟨u, rfl, hu⟩ := v1
    exact ⟨ρ₁, .ret a, _, p1, r1, ⟨u, rfl, hu⟩, h1⟩
theorem x_pass {p : Pos} {Φ : AF → St → Prop} (h : Φ .next σ) : Ex f (.Pass p) env σ Φ Ψ := fun _ _ r => wpAny_Pass (pv r fr_next h)
theorem x_assign {x : Str} {xp p : Pos} {e : Expr} {Φ : AF → St → Prop} (hf : FmOk f env n) (hx : env.kindOf x = some .local)
    (h : Ev f e env σ (Sto x Φ) Ψ) (hfr : env.frame = some env.locals := by rfl) (hs : swapsWith e (some (.Name x xp)) p.line env = pure false := by rfl) :
    Ex f (.Assign [.Name x xp] e p) env σ Φ Ψ := fun ρ s rp =>
  wpAny_Assign_Name (wpAny_mono (h ρ s rp) (fun v s₁ qq6 => qq6.elim fun ρ₁ a σ₁ p1 r1 v1 h1 => rep_store hf hx hfr r1 v1 fun s' r' => ⟨ρ₁, .next, _, p1, r', fr_next, h1⟩) fun _ _ q => q) hs
theorem x_aug {x : Str} {xp p : Pos} {e : Expr} {op : Operator} {c : AV} {Φ : AF → St → Prop} (hf : FmOk f env n) (hx : env.kindOf x = some .local) (hv : σ.loc.lookup x = some c)
    (h : Ev f e env σ (fun a σ₁ => Op2 f (inplaceOp op) VR c a σ₁ (Sto x Φ) Ψ) Ψ) (hfr : env.frame = some env.locals := by rfl) : Ex f (.AugAssign (.Name x xp) op e p) env σ Φ Ψ := fun ρ s r => by
  obtain ⟨m, h1, h2⟩ := r.ns
  obtain ⟨v, hv1, hv2⟩ := h2 x c hv
  exact wpAny_AugAssign_Name (wpAny_loadName_local hf.kind hx (hf.loc ▸ h1) hv1 (wpAny_mono (h ρ s r) (fun u s₁ qq7 => qq7.elim fun ρ₁ a σ₁ p1 r1 v1 h1 =>
    wpAny_mono (h1 ρ₁ _ _ (hv2.mono p1) v1 _ r1) (fun z s₂ qq8 => qq8.elim fun ρ₂ b σ₂ p2 r2 v2 h2 => rep_store hf hx hfr r2 v2 fun s' r' => ⟨ρ₂, .next, _, p1.trans p2, r', fr_next, h2⟩) fun _ _ q => q) fun _ _ q => q))
theorem x_expr {e : Expr} {p : Pos} {Φ : AF → St → Prop} (h : Ev f e env σ (Nxt Φ) Ψ) (hi : interactive env = false := by rfl) (hs : swapsWith e none p.line env = pure false := by rfl) :
    Ex f (.Expr e p) env σ Φ Ψ := fun ρ s r => wpAny_Expr_any (wpAny_mono (h ρ s r) (fun _ _ qq9 => qq9.elim fun ρ₁ _ _ p1 r1 _ h1 => ⟨ρ₁, .next, _, p1, r1, fr_next, h1⟩) fun _ _ q => q) hi hs
theorem x_return {e : Expr} {p : Pos} {Φ : AF → St → Prop} (h : Ev f e env σ (Rtn Φ) Ψ) : Ex f (.Return (some e) p) env σ Φ Ψ := fun ρ s r =>
  wpAny_Return_some (wpAny_mono (h ρ s r) (fun v _ qq10 => qq10.elim fun ρ₁ a _ p1 r1 v1 h1 => ⟨ρ₁, .ret a, _, p1, r1, ⟨v, rfl, v1⟩, h1⟩) fun _ _ q => q)
theorem x_if {t : Expr} {a b : List Stmt} {p : Pos} {Φ : AF → St → Prop} (h : Tt f t env σ (Brn f env Ψ a b Φ) Ψ) : Ex f (.If t a b p) env σ Φ Ψ := fun ρ s rp => by
  refine wpAny_If (wpAny_mono (h ρ s rp) (fun c _ qq11 => qq11.elim fun ρ₁ c' _ p1 r1 v1 h1 => ?_) fun _ _ q => q)
  obtain rfl : c = c' := v1
  cases c with
  | true => exact wpAny_mono ((show Es f a env _ Φ Ψ from h1) ρ₁ _ r1) (fun _ _ q => q.mono p1) fun _ _ q => q
  | false => exact wpAny_mono ((show Es f b env _ Φ Ψ from h1) ρ₁ _ r1) (fun _ _ q => q.mono p1) fun _ _ q => q

/- cut behind a statement -/
theorem x_cut {st : Stmt} {rest : List Stmt} {Φ : AF → St → Prop} (mid : St → Prop) (h : Ex f st env σ (Mid mid Φ) Ψ)
    (k : ∀ σ₁, mid σ₁ → Es f rest env σ₁ Φ Ψ) : Es f (st :: rest) env σ Φ Ψ :=
  x_cons (h.mono (fun b σ' q => by cases b <;> first | exact k _ q | exact q) fun _ q => q)
/- names forgotten -/
noncomputable def LocSub (a b : List (Str × AV)) : Prop := ∀ p ∈ a, b.lookup p.1 = some p.2
theorem mem_of_lookup {x : Str} {a : AV} {l : List (Str × AV)} (h : l.lookup x = some a) : (x, a) ∈ l := by
  induction l with
  | nil => exact nn h
  | cons p r ih =>
    rw [List.lookup_cons] at h
    cases q : x == p.1 with
    | true =>
      rw [q] at h
      have e1 := eq_of_beq q
      have e2 := Option.some.inj h
      rw [e1, ← e2]
      exact .head _
    | false => rw [q] at h; exact .tail _ (ih h)
theorem Rep.sub {σ' : St} (r : Rep f ρ σ s) (hl : LocSub σ'.loc σ.loc) (hm : σ'.mem = σ.mem) : Rep f ρ σ' s := r.weaken (fun x a e => hl (x, a) (mem_of_lookup e)) hm
theorem Tr.weaken {t : Sem α} {R : List Addr → α → β → Prop} {Φ : β → St → Prop} (σ' : St) (h : Tr f t R σ' Φ Ψ) (hl : LocSub σ'.loc σ.loc) (hm : σ'.mem = σ.mem) : Tr f t R σ Φ Ψ := fun ρ s r => h ρ s (r.sub hl hm)
end

/- ## exceptions in flight -/
section
variable {f : Fm} {env : Env} {n : Nat} {Ψ : Value → Prop} {ρ : List Addr} {σ : St} {s : Shared} {M : Model} {A : Around} {E : Value → Shared → Prop} {e c : Value}

theorem Exn.heap (x : Exn f e c s) {h' : Heap} (h1 : f.H0.StaysIn h') (h2 : h'.FunFrames f.H0 (f.fenv :: f.outer)) (h3 : ∀ b o, s.heap.get? b = some o → (∀ vs, o.data ≠ .fields vs) → ∃ sl, h'.get? b = some { o with slots := sl })
    (ea : Addr) (he : e = .ref ea) (hn : f.H0.get? ea = none) (a0 fl : Value) (ht : h'.TracedAtW f.H0 ea c a0 fl) (hfl : fl = .none ∨ fl = rawInt f.FL) : Exn f e c { s with heap := h' } :=
  ⟨h1, fun b o hb hd => by
    obtain ⟨sl, e1⟩ := x.up b o hb hd
    obtain ⟨sl', e2⟩ := h3 b _ e1 (by exact hd)
    exact ⟨sl', e2⟩, h2, x.gens, x.drawn, x.os, ea, he, hn, .inr ⟨a0, fl, ht, hfl⟩⟩

theorem exn_note (x : Exn f e c s) (hfr : A.frames = some (f.fenv :: f.outer)) (hff : f.fenv.frame = some f.FL) (henv : env.frame = some f.FL) (hfo : frameOf env = frameOf f.fenv) {Q : Unit → Shared → Prop}
    (k : ∀ s', Exn f e c s' → (∃ ea a0, e = .ref ea ∧ s'.heap.TracedAtW f.H0 ea c a0 (rawInt f.FL)) → Q () s') : wpAny M A (noteFrame e env) Q E s := by
  have ⟨x1, x2, x3, x4, x5, x6, ea, he, hn, hx⟩ := x
  subst he
  have hnote : noteFrame (.ref ea) env = noteFrame (.ref ea) f.fenv := by unfold noteFrame; rw [henv, hff, hfo]
  rw [hnote]
  rcases hx with ⟨oe, vs, a0, h1, h2, h3, h4, h5⟩ | ⟨a0, fl, ht, hfl⟩
  · unfold noteFrame
    simp only [hff]
    refine wpAny_bind (wpAny_field h1 h3 h4 ?_)
    rw [if_neg (by decide)]
    refine wpAny_entryW hfr x3 hff h1 x1 hn h3 (Array.getElem?_eq_some_iff.mp h4).1 h5 fun h' qq12 => qq12.elim fun k1 qq13 => qq13.elim fun k2 qq14 => qq14.elim fun k3 k4 => ?_
    rw [h2] at k3
    exact k _ (x.heap k1 k2 k4 ea rfl hn a0 _ k3 (.inr rfl)) ⟨ea, a0, rfl, k3⟩
  · rcases hfl with rfl | rfl
    · exact wpAny_noteFrame_onW hfr x3 hff ht x1 hn fun h' qq15 => qq15.elim fun k1 qq16 => qq16.elim fun k2 qq17 => qq17.elim fun k3 k4 => k _ (x.heap k1 k2 k4 ea rfl hn a0 _ k3 (.inr rfl)) ⟨ea, a0, rfl, k3⟩
    · exact wpAny_noteFrame_againW hff ht (k _ x ⟨ea, a0, rfl, ht⟩)
end
end Mine

/- # F4 -/
namespace Mine
open PySem PySem.Calls PyProof.Rows PySem.W

section
variable {f : Fm} {env : Env} {n : Nat} {Ψ : Value → Prop} {ρ : List Addr} {σ : St} {s : Shared} {M : Model} {A : Around} {E : Value → Shared → Prop} {e c : Value}

theorem Rep.frames (r : Rep f ρ σ s) (hf : FmOk f env n) : s.heap.FunFrames f.H0 (f.fenv :: f.outer) := by
  refine ⟨hf.ffk, ?_, hf.ofr _ fun b o e _ => ⟨o.slots, r.keep b o e⟩⟩
  rcases hf.fl with h | ⟨o, h1, h2⟩
  · obtain ⟨m, ⟨o, es, ep, ho, hd, _⟩, _⟩ := r.ns
    exact ⟨f.FL, o, hf.ff, hf.fnew, by rw [h]; exact ho, fun vs q => by rw [hd] at q; (first | exact nn q | exact sn q | exact tf q | exact ft q | cases q)⟩
  · exact ⟨f.FL, o, hf.ff, hf.fnew, r.keep _ _ h1, h2⟩

/- what flew out of a call -/
structure Flew (H0 : Heap) (l : List Env) (e c : Value) (s s' : Shared) : Prop where
  stays : H0.StaysIn s'.heap
  up : s.heap.UpToSlots s'.heap
  frames : s'.heap.FunFrames H0 l
  gens : s'.gens = s.gens
  drawn : s'.drawn = s.drawn
  os : s'.os = s.os
  exc : ∃ ea a0, e = .ref ea ∧ H0.get? ea = none ∧ s'.heap.TracedW H0 ea c a0

theorem exn_leave (x : Exn f e c s) (hfr : A.frames = some (f.fenv :: f.outer)) (hff : f.fenv.frame = some f.FL) {Q : Unit → Shared → Prop}
    (k : ∀ h', f.H0.StaysIn h' → h'.FunFrames f.H0 f.outer → (∀ b o, f.he b = some o → (∀ vs, o.data ≠ .fields vs) → ∃ sl, h'.get? b = some { o with slots := sl }) →
      (∃ ea a0, e = .ref ea ∧ f.H0.get? ea = none ∧ h'.TracedW f.H0 ea c a0) → ∀ s', s'.heap = h' → s'.gens = f.sg → s'.drawn = f.sd → s'.os = f.so → Q () s') : wpAny M A (leaving f.fenv e) Q E s := by
  unfold leaving
  refine wpAny_bind (exn_note x hfr hff hff rfl fun s' x' qq1 => qq1.elim fun ea qq2 => qq2.elim fun a0 qq3 => qq3.elim fun he ht => ?_)
  subst he
  have ⟨y1, y2, y3, y4, y5, y6, ea', q, hn, _⟩ := x'
  obtain rfl : ea = ea' := by injection q
  refine wpAny_setFlight_noneW y1 y3 ht fun h' k1 k2 k3 k4 => ?_
  obtain ⟨_, _, k2'⟩ := k2
  refine k h' k1 k2' (fun b o hb hd => ?_) ⟨ea, a0, rfl, hn, k3⟩ _ rfl y4 y5 y6
  obtain ⟨sl, e1⟩ := y2 b o hb hd
  exact ⟨sl, k4 _ _ e1 hd⟩
theorem exn_cameBack (x : Exn f e c s) (hfr : A.frames = some (f.fenv :: f.outer)) (hff : f.fenv.frame = some f.FL) (henv : env.frame = some f.FL)
    (ht : ∃ ea a0, e = .ref ea ∧ s.heap.TracedAtW f.H0 ea c a0 (rawInt f.FL)) (hE : ∀ s', Exn f e c s' → E e s') : cameBackBy M A env E e s := by
  obtain ⟨ea, a0, rfl, oe, vs, T, oT, ts, he, ⟨hc, h0⟩, hd, h1, hnT, hTe, hT, hdT, h3⟩ := ht
  unfold cameBackBy
  refine wpAny_bind (wpAny_field he hd h1 ?_)
  rw [if_neg (by simp)]
  unfold setFlight
  refine wpAny_bind (wpAny_field he hd h1 ?_)
  rw [if_pos (show (Value.ref T != Value.none) = true from by simp)]
  refine wpAny_setField hT hdT (Array.getElem?_eq_some_iff.mp h3).1 ?_
  have other : ∀ b, b ≠ T → ∀ g, (s.heap.update T g).get? b = s.heap.get? b := fun b hb g => Heap.get?_update_other _ _ (Ne.symm hb)
  have noRecord : ∀ b o, s.heap.get? b = some o → (∀ vs, o.data ≠ .fields vs) → b ≠ T := fun b o hb hnf q => by
    rw [q, hT] at hb; injection hb with hb; subst hb; exact hnf ts hdT
  have ⟨y1, y2, y3, y4, y5, y6, ea', q, hn, _⟩ := x
  obtain rfl : ea = ea' := by injection q
  refine hE _ (x.heap (fun b o hbo => (other b (fun q => by rw [q, hnT] at hbo; (first | exact nn hbo | exact sn hbo | exact tf hbo | exact ft hbo | cases hbo)) _).trans (y1 b o hbo))
    (y3.of_keeps fun b o hb hnf => ⟨o, (other b (noRecord b o hb hnf) _).trans hb, rfl⟩) (fun b o hb hnf => ⟨o.slots, (other b (noRecord b o hb hnf) _).trans hb⟩) ea rfl hn a0 (rawInt f.FL) ?_ (.inr rfl))
  refine ⟨oe, vs, T, _, _, (other ea (Ne.symm hTe) _).trans he, ⟨hc, h0⟩, hd, h1, hnT, hTe, Heap.get?_update_self _ hT (Obj.isFreed_of_fields (Obj.data_mapFields hdT _)), Obj.data_mapFields hdT _, ?_⟩
  rw [henv]
  have := (Array.getElem?_eq_some_iff.mp h3).1
  simp [this]
end

/- ## calls of the program's defs -/
inductive RV where
  | flat (a : AV)
  | obj (o : AO)
noncomputable def RVR (s s' : Shared) : Value → RV → Prop
  | v, .flat a => VR [] v a
  | v, .obj o => ∃ a ob, v = .ref a ∧ s'.heap.get? a = some ob ∧ OR [] ob o ∧ s.heap.get? a = none
structure Cal (w : World) (A : Around) (H0 : Heap) (l : List Env) (s : Shared) (n : Nat) : Prop where
  g : ∃ mg mb, G0 w H0 mg mb
  frames : A.frames = some l
  handled : A.handled = none
  depth : A.depth + n ≤ 900
  units : A.units + 8 * n ≤ 9000
  stays : H0.StaysIn s.heap
  fun_ : s.heap.FunFrames H0 l
  guards : A.guards = some []
noncomputable abbrev Is (v r : RV) : Prop := r = v
inductive FV (Φ : RV → Prop) (s : Shared) (v : Value) (s' : Shared) : Prop where
  | mk (r : RV) (h1 : RVR s s' v r) (h2 : ∀ b o, s.heap.get? b = some o → s'.heap.get? b = some o) (h3 : s'.gens = s.gens) (h4 : s'.drawn = s.drawn) (h5 : s'.os = s.os) (h6 : Φ r)
inductive FE (H0 : Heap) (l : List Env) (Ψ : Value → Prop) (s : Shared) (e : Value) (s' : Shared) : Prop where
  | mk (c : Value) (x : Flew H0 l e c s s') (h : Ψ c)
theorem FV.elim {Φ : RV → Prop} {s s' : Shared} {v : Value} {C : Prop} (h : FV Φ s v s') (k : ∀ r : RV, RVR s s' v r → (∀ b o, s.heap.get? b = some o → s'.heap.get? b = some o) → s'.gens = s.gens → s'.drawn = s.drawn → s'.os = s.os → Φ r → C) : C := FV.casesOn (motive := fun _ => C) h k
theorem FE.elim {H0 : Heap} {l : List Env} {Ψ : Value → Prop} {s s' : Shared} {e : Value} {C : Prop} (h : FE H0 l Ψ s e s') (k : ∀ c, Flew H0 l e c s s' → Ψ c → C) : C := FE.casesOn (motive := fun _ => C) h k
noncomputable def Fn (n : Nat) (p : Addr) (args : List AV) (Φ : RV → Prop) (Ψ : Value → Prop) : Prop :=
  ∀ w A H0 l s vs, Cal w A H0 l s n → VRs [] vs args → wpAny (model pw w) A (call (.ref p) vs)
    (FV Φ s) (FE H0 l Ψ s) s

noncomputable def AV.Flat : AV → Prop
  | .ref _ => False
  | _ => True
noncomputable def FlatL : List AV → Prop
  | [] => True
  | a :: r => a.Flat ∧ FlatL r
noncomputable def AO.Flat : AO → Prop
  | .list xs => FlatL xs
  | .tup xs => FlatL xs
  | .ba _ => True
  | .fix _ _ xs => FlatL xs
  | .rng _ _ _ => True
theorem VR.flat {ρ : List Addr} {v : Value} {a : AV} (h : VR ρ v a) (ha : a.Flat) : VR [] v a := by
  cases a <;> first | exact h | exact ha.elim
theorem VRs.flat {ρ : List Addr} {vs : List Value} {as : List AV} (p : VRs ρ vs as) (h : FlatL as) : VRs [] vs as := by
  induction p with
  | nil => exact .nil
  | cons x _ ih => exact .cons (x.flat h.1) (ih h.2)
theorem OR.flat {ρ : List Addr} {o : Obj} {a : AO} (h : OR ρ o a) (ha : a.Flat) : OR [] o a := by
  cases a with
  | list xs => obtain ⟨vs, n, e, h⟩ := h; exact ⟨vs, n, e, VRs.flat h ha⟩
  | tup xs => obtain ⟨vs, n, e, h⟩ := h; exact ⟨vs, n, e, VRs.flat h ha⟩
  | ba b => exact h
  | fix o' t xs => obtain ⟨e1, vs, n, e, h⟩ := h; exact ⟨e1, vs, n, e, VRs.flat h ha⟩
  | rng a b c => exact h

noncomputable def St.new (σ : St) (o : AO) : St := { σ with mem := σ.mem ++ [o] }
theorem paired_append {α β : Type} {F : α → β → Prop} {l : List α} {m : List β} {l' : List α} {m' : List β} (p : Paired F l m) (h : Paired F l' m') : Paired F (l ++ l') (m ++ m') := by
  induction p with
  | nil => exact h
  | cons x _ ih => exact .cons x ih
theorem paired_length {α β : Type} {F : α → β → Prop} {l : List α} {m : List β} (p : Paired F l m) : l.length = m.length := by
  induction p with
  | nil => rfl
  | cons _ _ ih => exact congrArg (· + 1) ih

section
variable {α β γ δ : Type} {f : Fm} {env : Env} {n : Nat} {Ψ : Value → Prop} {ρ : List Addr} {σ : St} {s : Shared}

theorem Rep.lt (r : Rep f ρ σ s) {a : Addr} (h : a ∈ ρ) : (s.heap.get? a).isSome := by
  obtain ⟨i, hi⟩ := List.getElem?_of_mem h
  obtain ⟨_, _, _, h1, _⟩ := paired_get r.mem hi
  rw [h1]; rfl
theorem Rep.Lsome (r : Rep f ρ σ s) : (s.heap.get? f.L).isSome := by
  obtain ⟨m, ⟨o, es, ep, ho, _⟩, _⟩ := r.ns
  rw [ho]; rfl

/- a heap that kept all and holds a new object -/
theorem Rep.new (r : Rep f ρ σ s) {s' : Shared} (hk : ∀ b o, s.heap.get? b = some o → s'.heap.get? b = some o) (hg : s'.gens = s.gens) (hd : s'.drawn = s.drawn) (ho : s'.os = s.os)
    {a : Addr} {ob : Obj} {o : AO} (hn : s.heap.get? a = none) (ha : s'.heap.get? a = some ob) (hO : OR ρ ob o) : Rep f (ρ ++ [a]) (σ.new o) s' := by
  have hp : ρ <+: ρ ++ [a] := List.prefix_append ..
  have n1 : a ∉ ρ := fun h => by have := r.lt h; rw [hn] at this; (first | exact nn this | exact sn this | exact tf this | exact ft this | cases this)
  refine ⟨fun b o e => hk b o (r.keep b o e), ?_, ?_, ?_, hg.trans r.gens, hd.trans r.drawn, ho.trans r.os⟩
  · obtain ⟨m, h1, h2⟩ := r.ns
    exact ⟨m, h1.keeps hk, fun x b e => let ⟨v, h3, h4⟩ := h2 x b e; ⟨v, h3, h4.mono hp⟩⟩
  · refine paired_append (paired_mono (fun _ _ qq4 => qq4.elim fun ob qq5 => qq5.elim fun h1 qq6 => qq6.elim fun h2 h3 => ⟨ob, hk _ _ h1, h2.mono hp, h3⟩) r.mem) (.cons ⟨ob, ha, hO.mono hp, ?_, ?_⟩ .nil)
    · cases q : f.he a with
      | none => rfl
      | some x => have := r.keep _ _ q; rw [hn] at this; (first | exact nn this | exact sn this | exact tf this | exact ft this | cases this)
    · intro q
      have := r.Lsome
      rw [← q, hn] at this; (first | exact nn this | exact sn this | exact tf this | exact ft this | cases this)
  · exact List.nodup_append.mpr ⟨r.nodup, by simp, by intro x hx y hy q; simp at hy; subst hy; subst q; exact n1 hx⟩
theorem Rep.same (r : Rep f ρ σ s) {s' : Shared} (hk : ∀ b o, s.heap.get? b = some o → s'.heap.get? b = some o) (hg : s'.gens = s.gens) (hd : s'.drawn = s.drawn) (ho : s'.os = s.os) : Rep f ρ σ s' :=
  ⟨fun b o e => hk b o (r.keep b o e), let ⟨m, h1, h2⟩ := r.ns; ⟨m, h1.keeps hk, h2⟩, paired_mono (fun _ _ qq7 => qq7.elim fun ob qq8 => qq8.elim fun h1 h2 => ⟨ob, hk _ _ h1, h2⟩) r.mem, r.nodup, hg.trans r.gens, hd.trans r.drawn, ho.trans r.os⟩

theorem Rep.cal (r : Rep f ρ σ s) (hf : FmOk f env n) {m : Nat} (hm : m ≤ n) : Cal f.w f.A f.H0 (f.fenv :: f.outer) s m :=
  ⟨hf.g, hf.frames, hf.handled, Nat.le_trans (Nat.add_le_add_left hm _) hf.depth, Nat.le_trans (by omega) hf.units, r.stays hf, r.frames hf, hf.guards⟩

theorem Flew.exn (r : Rep f ρ σ s) {e c : Value} {s' : Shared} (x : Flew f.H0 (f.fenv :: f.outer) e c s s') : Exn f e c s' :=
  ⟨x.stays, fun b o hb hd => x.up b o (r.keep b o hb) hd, x.frames, x.gens.trans r.gens, x.drawn.trans r.drawn, x.os.trans r.os, let ⟨ea, a0, h1, h2, h3⟩ := x.exc; ⟨ea, h1, h2, .inr ⟨a0, _, h3.at, .inl rfl⟩⟩⟩

noncomputable def RvOk (Φ : AV → St → Prop) (σ : St) : RV → Prop
  | .flat a => Φ a σ
  | .obj o => Φ (.ref σ.mem.length) (σ.new o)
theorem o_call {m : Nat} {p : Addr} {args : List AV} {Φr : RV → Prop} {Ψr : Value → Prop} {Φ : AV → St → Prop} (hf : FmOk f env n) (hF : Fn m p args Φr Ψr) (hm : m ≤ n) (hfl : FlatL args)
    (hΦ : ∀ r, Φr r → RvOk Φ σ r) (hΨ : ∀ c, Ψr c → Ψ c) : OpN f (fun vs => call (.ref p) vs) VR args σ Φ Ψ := fun ρ vs hv s r => by
  refine wpAny_mono (hF _ _ _ _ _ _ (r.cal hf hm) (VRs.flat hv hfl)) (fun v s' qq9 => qq9.elim fun rv h1 h2 h3 h4 h5 h6 => ?_) fun e s' qq10 => qq10.elim fun c h1 h2 => ⟨c, h1.exn r, hΨ c h2⟩
  cases rv with
  | flat a => exact ⟨ρ, a, σ, List.prefix_refl _, r.same h2 h3 h4 h5, VR.mono List.nil_prefix h1, hΦ _ h6⟩
  | obj o =>
    obtain ⟨a, ob, rfl, h7, h8, h9⟩ := h1
    refine ⟨ρ ++ [a], .ref σ.mem.length, σ.new o, List.prefix_append .., r.new h2 h3 h4 h5 h9 h7 (h8.mono List.nil_prefix), ⟨a, ?_, rfl⟩, hΦ _ h6⟩
    rw [← paired_length r.mem]; simp
end

/- ## a def's contract, by its body -/
noncomputable def RetOk (Φ : RV → Prop) : AF → St → Prop
  | .ret (.ref i), σ => ∃ o, σ.mem[i]? = some o ∧ o.Flat ∧ Φ (.obj o)
  | .ret a, _ => Φ (.flat a)
  | _, _ => Φ (.flat .none)

theorem loc_of_binds {binds : List (Str × Value)} {as : List AV} (h : VRs [] (binds.map (·.2)) as) {names : List Str} (hn : binds.map (·.1) = names) :
    ∀ x a, ((names.zip as).reverse).lookup x = some a → ∃ v, binds.reverse.lookup x = some v ∧ VR [] v a := by
  subst hn
  induction binds generalizing as with
  | nil => intro x a e; simp at e
  | cons b r ih =>
    cases h with
    | cons h1 h2 =>
      intro x a e
      simp only [List.map_cons, List.zip_cons_cons, List.reverse_cons, List.lookup_append] at e ⊢
      cases q : ((List.map (fun x => x.1) r).zip _).reverse.lookup x with
      | some a' =>
        rw [q] at e
        obtain rfl : a' = a := by simpa using e
        obtain ⟨v, e1, e2⟩ := ih h2 x _ q
        exact ⟨v, by rw [e1]; rfl, e2⟩
      | none =>
        have : r.reverse.lookup x = none := by
          have key : ∀ (r : List (Str × Value)) (as : List AV), VRs [] (r.map (·.2)) as → (((r.map (·.1)).zip as).reverse.lookup x = none) → r.reverse.lookup x = none := by
            intro r
            induction r with
            | nil => intro _ _ _; rfl
            | cons b r ih =>
              intro as h q
              cases h with
              | cons _ h2 =>
                simp only [List.map_cons, List.zip_cons_cons, List.reverse_cons, List.lookup_append, Option.or_eq_none_iff] at q ⊢
                refine ⟨ih _ h2 q.1, ?_⟩
                have q2 := q.2
                rw [List.lookup_cons] at q2 ⊢
                cases hb : x == b.1 with
                | true => rw [hb] at q2; cases q2
                | false => rfl
          exact key _ _ h2 q
        rw [q] at e
        rw [this]
        rw [List.lookup_cons] at e
        cases hb : x == b.1 with
        | true =>
          rw [hb] at e
          obtain rfl := Option.some.inj (show some _ = some a by simpa using e)
          exact ⟨b.2, by rw [Option.none_or]; show List.lookup x [(b.1, b.2)] = _; rw [List.lookup_cons, hb], h1⟩
        | false => rw [hb] at e; simp at e

theorem fn_intro {n : Nat} {p : Addr} {oc : Value} {od : Option Addr} {osl : Array (Option Value)} {fd : FuncData} {body : List Stmt} {args full : List AV} {names : List Str} {Φ : RV → Prop} {Ψ : Value → Prop}
    (hk : ∀ w, (KK w).lookup p = some ⟨oc, od, .func fd, osl⟩) (hbody : fd.body = .stmts body) (hcode : ∀ w, codeIn (KK w) fd.code fd.qualname = true)
    (hbind : ∀ w (s : Shared) vs, VRs [] vs args → (KK w).In s.heap → ∃ binds, BindsTo s fd ⟨vs, []⟩ binds ∧ binds.map (·.1) = names ∧ VRs [] (binds.map (·.2)) full)
    (hloc : (names.all fun x => decide (fd.scope.names.lookup x = some .local)) = true)
    (hcell : (fd.scope.names.all fun x => decide (x.2 ≠ .cell)) = true)
    (hglob : fd.globals = mainGlobals) (hbui : fd.builtins = builtinsNs)
    (h : ∀ f : Fm, FmOk f (callEnv fd f.L p) n → f.fenv = callEnv fd f.L p → Es f body (callEnv fd f.L p) ⟨(names.zip full).reverse, []⟩ (RetOk Φ) Ψ)
    (hco : fd.scope.isCoroutine = false := by rfl) (hgen : fd.scope.isGenerator = false := by rfl) (hkind : fd.scope.kind = .function := by rfl) : Fn (n + 1) p args Φ Ψ := by
  intro w A H0 l s vs hc hv
  obtain ⟨mg, mb, G⟩ := hc.g
  obtain ⟨loose, mean, T⟩ := G.top
  have hin : (KK w).In s.heap := G.kin.keeps hc.stays
  obtain ⟨binds, hb, hbn, hbv⟩ := hbind w s vs hv hin
  refine wpAny_call (codeAny_call_def (fd := fd) (body := body) (binds := binds) ?_ (hin _ _ (hk w)) rfl (T.nolimit.keeps hc.stays) (codeRec_of hin (hcode w)) hbody hb ?_ ?_ (fun h₁ hns hkp => ?_) hco hgen hkind)
  · have := hc.depth
    show A.depth < 1000
    omega
  · intro x hx
    exact of_decide_eq_true (List.all_eq_true.mp hcell x hx)
  · intro x hx
    refine of_decide_eq_true (List.all_eq_true.mp hloc x.1 ?_)
    rw [← hbn]
    exact List.mem_map_of_mem hx
  · let f : Fm := { w := w, A := A.deeper (callEnv fd s.heap.objs.size p), L := s.heap.objs.size, he := s.heap.get?, H0 := H0, outer := l, fenv := callEnv fd s.heap.objs.size p, FL := s.heap.objs.size, sg := s.gens, sd := s.drawn, so := s.os }
    have hno : s.heap.get? s.heap.objs.size = none := by
      cases q : s.heap.get? s.heap.objs.size with
      | none => rfl
      | some o => exact absurd (Heap.lt_size q) (Nat.lt_irrefl _)
    have hf : FmOk f (callEnv fd f.L p) n := by
      refine ⟨⟨mg, mb, G⟩, Around.frames_deeper hc.frames, hc.handled, ?_, ?_, hc.stays, ?_, rfl, ?_, .inl rfl, hc.stays.fresh, rfl, hglob, hbui, hkind, rfl, fun _ => hno, hc.guards, hgen, hco, hbui, hglob⟩
      · have := hc.depth
        show A.depth + 1 + n ≤ 900
        omega
      · have := hc.units
        show A.units + 3 + 8 * n ≤ 9000
        omega
      · intro h' hh
        exact hc.fun_.of_keeps fun b o hb hd => let ⟨sl, e⟩ := hh b o hb hd; ⟨_, e, rfl⟩
      · show fd.scope.kind ≠ .module
        rw [hkind]; decide
    have hr : Rep f [] ⟨(names.zip full).reverse, []⟩ { s with heap := h₁, toks := s.toks + binds.length } :=
      ⟨fun b o e => hkp b o e, ⟨_, hns, loc_of_binds hbv hbn⟩, .nil, .nil, rfl, rfl, rfl⟩
    refine wpAny_mono (h f hf rfl [] _ hr) (fun fl s' qq11 => qq11.elim fun ρ' b σ' _ r' hb' hΦ' => ?_) fun e s' qq12 => qq12.elim fun c hx hΨ => ?_
    · have keep : ∀ b o, s.heap.get? b = some o → s'.heap.get? b = some o := r'.keep
      cases b with
      | next => have q : fl = .next := hb'; subst q; exact ⟨.flat .none, vr_none (ρ := []), keep, r'.gens, r'.drawn, r'.os, hΦ'⟩
      | brk => have q : fl = .brk := hb'; subst q; exact ⟨.flat .none, vr_none (ρ := []), keep, r'.gens, r'.drawn, r'.os, hΦ'⟩
      | cont => have q : fl = .cont := hb'; subst q; exact ⟨.flat .none, vr_none (ρ := []), keep, r'.gens, r'.drawn, r'.os, hΦ'⟩
      | ret a =>
        obtain ⟨v, rfl, hva⟩ := hb'
        cases a with
        | ref i =>
          obtain ⟨o, ho, hfl, hq⟩ := hΦ'
          obtain ⟨ad, had, rfl⟩ := hva
          obtain ⟨o', ho', ob, h1, h2, h3, h4⟩ := paired_get r'.mem had
          obtain rfl : o' = o := by rw [ho] at ho'; exact (Option.some.inj ho').symm
          exact ⟨.obj o', ⟨ad, ob, rfl, h1, h2.flat hfl, h3⟩, keep, r'.gens, r'.drawn, r'.os, hq⟩
        | _ => exact ⟨.flat _, VR.flat hva trivial, keep, r'.gens, r'.drawn, r'.os, hΦ'⟩
    · refine exn_leave hx (Around.frames_deeper hc.frames) rfl fun h' k1 k2 k3 k4 s'' e1 e2 e3 e4 => ?_
      subst e1
      exact ⟨c, ⟨k1, fun b o hb hd => k3 b o hb hd, k2, e2, e3, e4, k4⟩, hΨ⟩
end Mine

/- # F5 -/
namespace Mine
open PySem PySem.Calls PyProof.Rows PySem.W

section
variable {f : Fm} {env : Env} {n : Nat} {Ψ : Value → Prop} {ρ : List Addr} {σ : St} {s : Shared}

/- more objects kept -/
noncomputable def Fm.ext (f : Fm) (wr : List Addr) (h : Heap) : Fm := { f with he := fun b => if b ∈ wr then h.get? b else f.he b }

theorem FmOk.ext (hf : FmOk f env n) {wr : List Addr} {h : Heap} (hw : ∀ b ∈ wr, f.he b = none) (hL : f.L ∉ wr) : FmOk (f.ext wr h) env n := by
  have up : ∀ b o, f.he b = some o → (f.ext wr h).he b = some o := fun b o e => by
    show (if b ∈ wr then _ else _) = _
    rw [if_neg (fun q => by rw [hw b q] at e; (first | exact nn e | exact sn e | exact tf e | exact ft e | cases e))]; exact e
  exact { hf with
    stays := fun b o e => up b o (hf.stays b o e)
    ofr := fun h' hh => hf.ofr h' fun b o e hd => hh b o (up b o e) hd
    fl := hf.fl.imp (fun e => e) fun qq1 => qq1.elim fun o qq2 => qq2.elim fun e hd => ⟨o, up _ _ e, hd⟩
    lnew := fun e => by
      show (if f.L ∈ wr then _ else _) = _
      rw [if_neg hL]; exact hf.lnew e }
theorem Exn.unext {wr : List Addr} {h : Heap} {e c : Value} (hw : ∀ b ∈ wr, f.he b = none) (x : Exn (f.ext wr h) e c s) : Exn f e c s :=
  ⟨x.stays, fun b o hb hd => x.up b o (by show (if b ∈ wr then _ else _) = _; rw [if_neg (fun q => by rw [hw b q] at hb; (first | exact nn hb | exact sn hb | exact tf hb | exact ft hb | cases hb))]; exact hb) hd, x.frames, x.gens, x.drawn, x.os, x.exc⟩
theorem Rep.unext {wr : List Addr} {h : Heap} (hw : ∀ b ∈ wr, f.he b = none) (r : Rep (f.ext wr h) ρ σ s) : Rep f ρ σ s :=
  ⟨fun b o e => r.keep b o (by show (if b ∈ wr then _ else _) = _; rw [if_neg (fun q => by rw [hw b q] at e; (first | exact nn e | exact sn e | exact tf e | exact ft e | cases e))]; exact e), r.ns,
    paired_mono (fun a _ qq3 => qq3.elim fun ob qq4 => qq4.elim fun h1 qq5 => qq5.elim fun h2 qq6 => qq6.elim fun h3 h4 => ⟨ob, h1, h2, by
      have : (if a ∈ wr then _ else _) = none := h3
      by_cases q : a ∈ wr
      · exact hw a q
      · rw [if_neg q] at this; exact this, h4⟩) r.mem, r.nodup, r.gens, r.drawn, r.os⟩

/- all but wr kept -/
theorem Rep.but (r : Rep f ρ σ s) {wr : List Addr} (hw : ∀ b ∈ wr, f.he b = none) (hL : f.L ∉ wr) (hρ : ∀ b ∈ wr, b ∉ ρ) {h' : Heap} {tk : Nat} (hk : ∀ b o, b ∉ wr → s.heap.get? b = some o → h'.get? b = some o) :
    Rep f ρ σ { s with heap := h', toks := tk } := by
  refine ⟨fun b o e => hk b o (fun q => by rw [hw b q] at e; (first | exact nn e | exact sn e | exact tf e | exact ft e | cases e)) (r.keep b o e), ?_, ?_, r.nodup, r.gens, r.drawn, r.os⟩
  · obtain ⟨m, h1, h2⟩ := r.ns
    exact ⟨m, h1.at' fun o e => hk _ o hL e, h2⟩
  · have : ∀ {l : List Addr} {ms : List AO}, (∀ b ∈ wr, b ∉ l) → Paired (fun a o => ∃ ob, s.heap.get? a = some ob ∧ OR ρ ob o ∧ f.he a = none ∧ a ≠ f.L) l ms → Paired (fun a o => ∃ ob, h'.get? a = some ob ∧ OR ρ ob o ∧ f.he a = none ∧ a ≠ f.L) l ms := by
      intro l ms hl hp
      induction hp with
      | nil => exact .nil
      | cons x _ ih =>
        obtain ⟨ob, h1, h2⟩ := x
        exact .cons ⟨ob, hk _ _ (fun q => hl _ q (.head _)) h1, h2⟩ (ih fun b hb q => hl b hb (.tail _ q))
    exact this hρ r.mem
theorem Rep.ext (r : Rep f ρ σ s) {wr : List Addr} (hL : f.L ∉ wr) (hρ : ∀ b ∈ wr, b ∉ ρ) : Rep (f.ext wr s.heap) ρ σ s := by
  refine ⟨fun b o e => ?_, r.ns, ?_, r.nodup, r.gens, r.drawn, r.os⟩
  · have e' : (if b ∈ wr then s.heap.get? b else f.he b) = some o := e
    by_cases q : b ∈ wr
    · rw [if_pos q] at e'; exact e'
    · rw [if_neg q] at e'; exact r.keep b o e'
  · have : ∀ {l : List Addr} {ms : List AO}, (∀ b ∈ wr, b ∉ l) → Paired (fun a o => ∃ ob, s.heap.get? a = some ob ∧ OR ρ ob o ∧ f.he a = none ∧ a ≠ f.L) l ms → Paired (fun a o => ∃ ob, s.heap.get? a = some ob ∧ OR ρ ob o ∧ (f.ext wr s.heap).he a = none ∧ a ≠ (f.ext wr s.heap).L) l ms := by
      intro l ms hl hp
      induction hp with
      | nil => exact .nil
      | cons x _ ih =>
        obtain ⟨ob, h1, h2, h3, h4⟩ := x
        exact .cons ⟨ob, h1, h2, by show (if _ ∈ wr then _ else _) = _; rw [if_neg fun q => hl _ q (.head _)]; exact h3, h4⟩ (ih fun b hb q => hl b hb (.tail _ q))
    exact this hρ r.mem
theorem ext_disj {wr : List Addr} {h : Heap} (r : Rep (f.ext wr h) ρ σ s) (hx : ∀ b ∈ wr, (h.get? b).isSome) : ∀ b ∈ wr, b ∉ ρ := fun b hb q => by
  obtain ⟨i, hi⟩ := List.getElem?_of_mem q
  have := (r.ne hi).1
  have h2 : (if b ∈ wr then h.get? b else f.he b) = none := this
  rw [if_pos hb] at h2
  have := hx b hb
  rw [h2] at this; (first | exact nn this | exact sn this | exact tf this | exact ft this | cases this)

theorem pe_noted {env' : Env} {E : Value → Shared → Prop} (hf : FmOk f env n) {e c : Value} (x : Exn f e c s) (hE : ∀ s', Exn f e c s' → E e s') (hee : frameOf env = frameOf f.fenv) :
    notedBy (model pw f.w) f.A env (cameBackBy (model pw f.w) f.A env E) e s :=
  exn_note x hf.frames hf.ff hf.efr hee fun _ x' ht => exn_cameBack x' hf.frames hf.ff hf.efr ht hE

noncomputable abbrev LP (Inv : Nat → St → Prop) (Φ : AF → St → Prop) (i : Nat) (fl : AF) (σ' : St) : Prop := match fl with | .next => Inv (i + 1) σ' | .cont => Inv (i + 1) σ' | .brk => Φ .next σ' | .ret a => Φ (.ret a) σ'
noncomputable abbrev CP (f : Fm) (env : Env) (ρ : List Addr) (Φ : AF → St → Prop) (Ψ : Value → Prop) (r : Result) (s' : Shared) : Prop := match r with | .ok fl => PV f ρ FR Φ fl s' | .error e => cameBackBy (model pw f.w) f.A env (PE f Ψ) e s'
section core
variable {I : Addr} {fp wr : List Addr} {N : Nat} {St' : Nat → Heap → Prop}
/- what the loop's own objects need: frozen lists stand at their places -/
noncomputable def Frz (fp wr : List Addr) (ρ : List Addr) (s : Shared) (Inv : Nat → St → Prop) : Prop :=
  ∀ b ∈ fp, b ∈ wr ∨ ∃ (j : Nat) (o : Obj), ρ[j]? = some b ∧ s.heap.get? b = some o ∧ ∀ i σ', Inv i σ' → ∃ (t : Bool) (xs : List AV), σ'.mem[j]? = some (AO.fix o t xs)

theorem frz_at {Inv : Nat → St → Prop} {s₂ s' : Shared} {ρ' : List Addr} {σ' : St} {i : Nat} (hz : Frz fp wr ρ s₂ Inv) (hp : ρ <+: ρ') (r : Rep f ρ' σ' s') (hI : Inv i σ') {b : Addr} (hb : b ∈ fp) (hbw : b ∉ wr) : ∃ o, s₂.heap.get? b = some o ∧ s'.heap.get? b = some o := by
  rcases hz b hb with h | ⟨j, o, h1, h2, h3⟩
  · exact absurd h hbw
  · obtain ⟨t, xs, h4⟩ := h3 i σ' hI
    obtain ⟨q, rfl⟩ := hp
    have h5 : (ρ ++ q)[j]? = some b := by rw [List.getElem?_append_left (List.getElem?_eq_some_iff.mp h1).1]; exact h1
    obtain ⟨o', h6, ob, h7, h8, _⟩ := paired_get r.mem h5
    rw [h4] at h6
    obtain rfl := Option.some.inj h6
    obtain ⟨rfl, _⟩ := h8
    exact ⟨_, h2, h7⟩

end core
end
end Mine

/- # F6 -/
namespace Mine
open PySem PySem.Calls PyProof.Rows PySem.W

section
variable {α β γ δ : Type} {f : Fm} {env : Env} {n : Nat} {Ψ : Value → Prop} {ρ : List Addr} {σ : St} {s : Shared}

/- ## arguments and calls -/
noncomputable abbrev KN (f : Fm) (Ψ : Value → Prop) (k : List Value → Sem Value) (Φ : AV → St → Prop) (as : List AV) (σ₁ : St) : Prop := OpN f k VR as σ₁ Φ Ψ
noncomputable abbrev KN' (f : Fm) (Ψ : Value → Prop) (k : List Value → Sem Value) (Φ : AV → St → Prop) (a : AV) (as : List AV) (σ₁ : St) : Prop := OpN f k VR (a :: as) σ₁ Φ Ψ
noncomputable abbrev Cns (Φ : List AV → St → Prop) (a : AV) (as : List AV) (σ₂ : St) : Prop := Φ (a :: as) σ₂
noncomputable abbrev KA (f : Fm) (env : Env) (Ψ : Value → Prop) (pos : Pos) (rest : List Expr) (Φ : List AV → St → Prop) (a : AV) (σ₁ : St) : Prop := Tr f (spliced (backTo pos (starEach rest env))) VRs σ₁ (Cns Φ a) Ψ
noncomputable abbrev Ta (f : Fm) (es : List Expr) (env : Env) (pos : Pos) (σ : St) (Φ : List AV → St → Prop) (Ψ : Value → Prop) : Prop := Tr f (spliced (backTo pos (starEach es env))) VRs σ Φ Ψ
theorem a_nil {pos : Pos} {Φ : List AV → St → Prop} (h : Φ [] σ) : Ta f [] env pos σ Φ Ψ := fun _ _ r => args_nil (pv (R := VRs) r Paired.nil h)
theorem a_cons {e : Expr} {rest : List Expr} {pos : Pos} {Φ : List AV → St → Prop} (h : Ev f e env σ (KA f env Ψ pos rest Φ) Ψ)
    (he : starEach (e :: rest) env = (false, eval e env) :: starEach rest env := by rfl) : Ta f (e :: rest) env pos σ Φ Ψ := fun ρ s rp =>
  args_cons (wpAny_mono (h ρ s rp) (fun v _ qq1 => qq1.elim fun ρ₁ a _ p1 r1 v1 h1 => wpAny_mono (h1 ρ₁ _ r1) (fun vs _ qq2 => qq2.elim fun ρ₂ as _ p2 r2 v2 h2 => ⟨ρ₂, a :: as, _, p1.trans p2, r2, .cons (v1.mono p2) v2, h2⟩) fun _ _ q => q) fun _ _ q => q) he

theorem ta_then {es : List Expr} {pos : Pos} {Φ : AV → St → Prop} {k : List Value → Sem Value} (h : Ta f es env pos σ (fun as σ₁ => OpN f k VR as σ₁ Φ Ψ) Ψ) {s : Shared} {ρ : List Addr} (r : Rep f ρ σ s) :
    wpAny (model pw f.w) f.A (spliced (backTo pos (starEach es env))) (fun vs s₁ => wpAny (model pw f.w) f.A (k vs) (PV f ρ VR Φ) (PE f Ψ) s₁) (PE f Ψ) s :=
  wpAny_mono (h ρ s r) (fun vs _ qq3 => qq3.elim fun ρ₁ as _ p1 r1 v1 h1 => wpAny_mono (h1 ρ₁ _ v1 _ r1) (fun _ _ q => q.mono p1) fun _ _ q => q) fun _ _ q => q

theorem e_callB {x : Str} {np pos : Pos} {e : Expr} {rest : List Expr} {id : String} {Φ : AV → St → Prop} (hf : FmOk f env n) (hx : env.kindOf x = some .globalImplicit) (hn : ∀ w, nsIn (KK w) mainGlobals x = some none)
    (hv : bootBuiltins x = some (.builtin id)) (h : Ta f (e :: rest) env pos σ (KN f Ψ (fun vs => call (.builtin id) vs) Φ) Ψ)
    (hne : x ≠ "__name__" := by decide +kernel) (hd : (x == ("__debug__" : Str)) = false := by kernel_rfl)
    (he : starEach (e :: rest) env = (false, eval e env) :: starEach rest env := by rfl) (hplain : (backTo pos (starEach rest env)).any (·.1) = false := by rfl)
    (hc : eval (.Call (.Name x np) (e :: rest) [] pos) env = (do callWith pos (← eval (.Name x np) env) [] (backTo pos (starEach (e :: rest) env)) (backToKw pos (keywordEach [] env))) := by rfl) :
    Ev f (.Call (.Name x np) (e :: rest) [] pos) env σ Φ Ψ := fun ρ s r =>
  Call_ (wpAny_mono (e_bi (Φ := fun a σ' => a = .val (.builtin id) ∧ σ' = σ) (Ψ := Ψ) (p := np) hf hx hn hv ⟨rfl, rfl⟩ hne hd ρ s r) (fun v s₁ qq4 => qq4.elim fun ρ₁ a σ₁ p1 r1 v1 qq5 => qq5.elim fun e1 e2 => by
    subst e1 e2
    have q : v = .builtin id := v1
    subst q
    exact callWith_builtin1 (wpAny_mono (ta_then h r1) (fun _ _ q => wpAny_mono q (fun _ _ q => q.mono p1) fun _ _ q => q) fun _ _ q => q) he hplain) fun _ _ q => q) hc
theorem e_callT {x : Str} {np pos : Pos} {e : Expr} {rest : List Expr} {T : String} {Φ : AV → St → Prop} (hf : FmOk f env n) (hx : env.kindOf x = some .globalImplicit) (hn : ∀ w, nsIn (KK w) mainGlobals x = some none)
    (hv : bootBuiltins x = some (.type T)) (h : Ta f (e :: rest) env pos σ (KN f Ψ (fun vs => call (.type T) vs) Φ) Ψ)
    (hne : x ≠ "__name__" := by decide +kernel) (hd : (x == ("__debug__" : Str)) = false := by kernel_rfl)
    (he : starEach (e :: rest) env = (false, eval e env) :: starEach rest env := by rfl) (hplain : (backTo pos (starEach rest env)).any (·.1) = false := by rfl)
    (hc : eval (.Call (.Name x np) (e :: rest) [] pos) env = (do callWith pos (← eval (.Name x np) env) [] (backTo pos (starEach (e :: rest) env)) (backToKw pos (keywordEach [] env))) := by rfl) :
    Ev f (.Call (.Name x np) (e :: rest) [] pos) env σ Φ Ψ := fun ρ s r =>
  Call_ (wpAny_mono (e_bi (Φ := fun a σ' => a = .val (.type T) ∧ σ' = σ) (Ψ := Ψ) (p := np) hf hx hn hv ⟨rfl, rfl⟩ hne hd ρ s r) (fun v s₁ qq6 => qq6.elim fun ρ₁ a σ₁ p1 r1 v1 qq7 => qq7.elim fun e1 e2 => by
    subst e1 e2
    have q : v = .type T := v1
    subst q
    exact PyProof.Rows.callWith_type1 (wpAny_mono (ta_then h r1) (fun _ _ q => wpAny_mono q (fun _ _ q => q.mono p1) fun _ _ q => q) fun _ _ q => q) he hplain) fun _ _ q => q) hc
theorem e_callT0 {x : Str} {np pos : Pos} {T : String} {Φ : AV → St → Prop} (hf : FmOk f env n) (hx : env.kindOf x = some .globalImplicit) (hn : ∀ w, nsIn (KK w) mainGlobals x = some none)
    (hv : bootBuiltins x = some (.type T)) (h : OpN f (fun vs => call (.type T) vs) VR [] σ Φ Ψ)
    (hne : x ≠ "__name__" := by decide +kernel) (hd : (x == ("__debug__" : Str)) = false := by kernel_rfl)
    (hc : eval (.Call (.Name x np) [] [] pos) env = (do callWith pos (← eval (.Name x np) env) [] (backTo pos (starEach [] env)) (backToKw pos (keywordEach [] env))) := by rfl) :
    Ev f (.Call (.Name x np) [] [] pos) env σ Φ Ψ := fun ρ s r =>
  Call_ (wpAny_mono (e_bi (Φ := fun a σ' => a = .val (.type T) ∧ σ' = σ) (Ψ := Ψ) (p := np) hf hx hn hv ⟨rfl, rfl⟩ hne hd ρ s r) (fun v s₁ qq8 => qq8.elim fun ρ₁ a σ₁ p1 r1 v1 qq9 => qq9.elim fun e1 e2 => by
    subst e1 e2
    have q : v = .type T := v1
    subst q
    exact PyProof.Rows.callWith_type0 (wpAny_mono (h ρ₁ [] .nil _ r1) (fun _ _ q => q.mono p1) fun _ _ q => q)) fun _ _ q => q) hc
theorem e_callD {x : Str} {np pos : Pos} {e : Expr} {rest : List Expr} {p : Addr} {oc : Value} {od : Option Addr} {osl : Array (Option Value)} {fd : FuncData} {Φ : AV → St → Prop} (hf : FmOk f env n) (hx : env.kindOf x = some .globalImplicit)
    (hn : ∀ w, nsIn (KK w) mainGlobals x = some (some (.ref p))) (hk : ∀ w, (KK w).lookup p = some ⟨oc, od, .func fd, osl⟩)
    (h : Ta f (e :: rest) env pos σ (KN f Ψ (fun vs => call (.ref p) vs) Φ) Ψ) (hd : (x == ("__debug__" : Str)) = false := by kernel_rfl)
    (he : starEach (e :: rest) env = (false, eval e env) :: starEach rest env := by rfl)
    (hc : eval (.Call (.Name x np) (e :: rest) [] pos) env = (do callWith pos (← eval (.Name x np) env) [] (backTo pos (starEach (e :: rest) env)) (backToKw pos (keywordEach [] env))) := by rfl) :
    Ev f (.Call (.Name x np) (e :: rest) [] pos) env σ Φ Ψ := fun ρ s r =>
  Call_ (wpAny_mono (e_glob (Φ := fun a σ' => a = .val (.ref p) ∧ σ' = σ) (Ψ := Ψ) (p := np) hf hx hn vr_val ⟨rfl, rfl⟩ hd ρ s r) (fun v s₁ qq10 => qq10.elim fun ρ₁ a σ₁ p1 r1 v1 qq11 => qq11.elim fun e1 e2 => by
    subst e1 e2
    have q : v = .ref p := v1
    subst q
    refine callWith_def (fd := fd) (o := ⟨oc, od, .func fd, osl⟩) rfl (wpAny_mono (h ρ₁ _ r1) (fun vs s₂ qq12 => qq12.elim fun ρ₂ as σ₂ p2 r2 v2 h2 => ⟨?_, wpAny_mono (h2 ρ₂ _ v2 _ r2) (fun _ _ q => q.mono (p1.trans p2)) fun _ _ q => q⟩) fun _ _ q => q) he
    obtain ⟨mg, mb, G⟩ := hf.g
    exact (G.kin.keeps (r2.stays hf)) _ _ (hk _)) fun _ _ q => q) hc

/- a method of a built-in type: what getMethod gives -/
noncomputable def MethOk (f : Fm) (a : AV) (name : Str) (id : String) (σ : St) : Prop :=
  ∀ (M : Model) (A : Around) (pl : Sem Bool) (E : Value → Shared → Prop) (Q : Value × List Value → Shared → Prop) ρ v s, VR ρ v a → Rep f ρ σ s → Q (.builtin id, [v]) s → wpAny M A (getMethod v name pl) Q E s
noncomputable abbrev KM1 (f : Fm) (env : Env) (Ψ : Value → Prop) (name : Str) (id : String) (pos : Pos) (es : List Expr) (Φ : AV → St → Prop) (a : AV) (σ₁ : St) : Prop := MethOk f a name id σ₁ ∧ Ta f es env pos σ₁ (KN' f Ψ (fun vs => call (.builtin id) vs) Φ a) Ψ
noncomputable abbrev KM0 (f : Fm) (Ψ : Value → Prop) (name : Str) (id : String) (Φ : AV → St → Prop) (a : AV) (σ₁ : St) : Prop := MethOk f a name id σ₁ ∧ OpN f (fun vs => call (.builtin id) vs) VR [a] σ₁ Φ Ψ
theorem e_meth1 {o : Expr} {name : Str} {apos pos : Pos} {e : Expr} {rest : List Expr} {id : String} {pl : Sem Bool} {Φ : AV → St → Prop}
    (h : Ev f o env σ (KM1 f env Ψ name id pos (e :: rest) Φ) Ψ)
    (he : starEach (e :: rest) env = (false, eval e env) :: starEach rest env := by rfl) (hplain : (backTo pos (starEach rest env)).any (·.1) = false := by rfl)
    (hm : eval (.Call (.Attribute o name apos) (e :: rest) [] pos) env = (do
      let ov ← eval o env
      standAt apos.atName
      let (f, first) ← holding [ov] (getMethod ov name pl)
      callWith pos f first (backTo pos (starEach (e :: rest) env)) []) := by rfl) :
    Ev f (.Call (.Attribute o name apos) (e :: rest) [] pos) env σ Φ Ψ := fun ρ s r =>
  MethodCall_ (pl := pl) (wpAny_mono (h ρ s r) (fun v s₁ qq13 => qq13.elim fun ρ₁ a σ₁ p1 r1 v1 qq14 => qq14.elim fun hm h1 => hm _ _ _ _ _ _ _ _ v1 r1 (callWith_method1 (wpAny_mono (h1 ρ₁ _ r1) (fun vs s₂ qq15 => qq15.elim fun ρ₂ as σ₂ p2 r2 v2 h2 =>
    wpAny_mono (h2 ρ₂ (v :: vs) (.cons (v1.mono p2) v2) _ r2) (fun _ _ q => q.mono (p1.trans p2)) fun _ _ q => q) fun _ _ q => q) he hplain)) fun _ _ q => q) hm
theorem e_meth0 {o : Expr} {name : Str} {apos pos : Pos} {id : String} {pl : Sem Bool} {Φ : AV → St → Prop}
    (h : Ev f o env σ (KM0 f Ψ name id Φ) Ψ)
    (hm : eval (.Call (.Attribute o name apos) [] [] pos) env = (do
      let ov ← eval o env
      standAt apos.atName
      let (f, first) ← holding [ov] (getMethod ov name pl)
      callWith pos f first (backTo pos (starEach [] env)) []) := by rfl) :
    Ev f (.Call (.Attribute o name apos) [] [] pos) env σ Φ Ψ := fun ρ s r =>
  MethodCall_ (pl := pl) (wpAny_mono (h ρ s r) (fun v s₁ qq16 => qq16.elim fun ρ₁ a σ₁ p1 r1 v1 qq17 => qq17.elim fun hm h1 => hm _ _ _ _ _ _ _ _ v1 r1 (callWith_method0 (wpAny_mono (h1 ρ₁ [v] (.cons v1 .nil) _ r1) (fun _ _ q => q.mono p1) fun _ _ q => q))) fun _ _ q => q) hm

theorem meth_bytes {b : List UInt8} {name : Str} {id : String} (slot : Slot "bytes" name id) (ty : typeOf (.builtin id) = pure (.type "method_descriptor")) : MethOk f (.bytes b) name id σ := by
  intro M A pl E Q ρ v s hv r h
  obtain ⟨t, rfl⟩ := hv
  with_reducible exact getMethod_builtin (typeIs_bytes _ _ _) FB.plainAttrs_bytes slot ty (fun _ e => nomatch e) h
theorem meth_str {l : List Nat} {name : Str} {id : String} (slot : Slot "str" name id) (ty : typeOf (.builtin id) = pure (.type "method_descriptor")) : MethOk f (.str l) name id σ := by
  intro M A pl E Q ρ v s hv r h
  obtain ⟨t, rfl⟩ := hv
  with_reducible exact getMethod_builtin (typeIs_str _ _ _) F.plainAttrs_str slot ty (fun _ e => nomatch e) h

/- ## new lists and tuples -/
theorem Rep.pushed (r : Rep f ρ σ s) {ob : Obj} {o : AO} (hO : OR ρ ob o) (hfree : ob.isFreed = false := by rfl) {tk : Nat} : Rep f (ρ ++ [s.heap.objs.size]) (σ.new o) { s with heap := s.heap.push ob, toks := tk } := by
  have hp : ρ <+: ρ ++ [s.heap.objs.size] := List.prefix_append ..
  have hn : s.heap.get? s.heap.objs.size = none := by
    cases q : s.heap.get? s.heap.objs.size with
    | none => rfl
    | some o => exact absurd (Heap.lt_size q) (Nat.lt_irrefl _)
  have n1 : s.heap.objs.size ∉ ρ := fun h => by have := r.lt h; rw [hn] at this; (first | exact nn this | exact sn this | exact tf this | exact ft this | cases this)
  have hk : ∀ b o, s.heap.get? b = some o → (s.heap.push ob).get? b = some o := fun _ _ e => Heap.get?_push_of_some _ e
  refine ⟨fun b o e => hk b o (r.keep b o e), ?_, ?_, ?_, r.gens, r.drawn, r.os⟩
  · obtain ⟨m, h1, h2⟩ := r.ns
    exact ⟨m, h1.keeps hk, fun x b e => let ⟨v, h3, h4⟩ := h2 x b e; ⟨v, h3, h4.mono hp⟩⟩
  · refine paired_append (paired_mono (fun _ _ qq18 => qq18.elim fun ob qq19 => qq19.elim fun h1 qq20 => qq20.elim fun h2 h3 => ⟨ob, hk _ _ h1, h2.mono hp, h3⟩) r.mem) (.cons ⟨ob, Heap.get?_push_size _ hfree, hO.mono hp, ?_, ?_⟩ .nil)
    · cases q : f.he s.heap.objs.size with
      | none => rfl
      | some x => have := r.keep _ _ q; rw [hn] at this; (first | exact nn this | exact sn this | exact tf this | exact ft this | cases this)
    · intro q
      have := r.Lsome
      rw [← q, hn] at this; (first | exact nn this | exact sn this | exact tf this | exact ft this | cases this)
  · exact List.nodup_append.mpr ⟨r.nodup, by simp, by intro x hx y hy q; simp at hy; subst hy; subst q; exact n1 hx⟩
theorem vr_new (r : Rep f ρ σ s) {a : Addr} : VR (ρ ++ [a]) (.ref a) (.ref σ.mem.length) := ⟨a, by rw [← paired_length r.mem]; simp, rfl⟩
theorem pv_new {Φ : AV → St → Prop} (r : Rep f ρ σ s) {ob : Obj} {o : AO} (hO : OR ρ ob o) (hΦ : Φ (.ref σ.mem.length) (σ.new o)) (hfree : ob.isFreed = false := by rfl) {tk : Nat} :
    PV f ρ VR Φ (.ref s.heap.objs.size) { s with heap := s.heap.push ob, toks := tk } := ⟨_, _, _, List.prefix_append .., r.pushed hO hfree, vr_new r, hΦ⟩

theorem or_list {vs : List Value} {as : List AV} {k : Nat} (h : VRs ρ vs as) : OR ρ { cls := .type "list", data := .seq vs.toArray k } (.list as) := ⟨vs.toArray, k, rfl, h⟩
theorem or_tup {vs : List Value} {as : List AV} {k : Nat} (h : VRs ρ vs as) : OR ρ { cls := .type "tuple", data := .seq vs.toArray k } (.tup as) := ⟨vs.toArray, k, rfl, h⟩
noncomputable abbrev KLi (o : List AV → AO) (Φ : AV → St → Prop) (as : List AV) (σ₁ : St) : Prop := as.length ≤ 1000 ∧ Φ (.ref σ₁.mem.length) (σ₁.new (o as))
theorem e_list {es : List Expr} {pos : Pos} {Φ : AV → St → Prop} (h : Ta f es env pos σ (KLi .list Φ) Ψ) : Ev f (.List es pos) env σ Φ Ψ := fun ρ s r =>
  List_ (wpAny_mono (h ρ s r) (fun vs s₁ qq21 => qq21.elim fun ρ₁ as σ₁ p1 r1 v1 qq22 => qq22.elim fun hl h1 => wpAny_newObj_type ((pv_new r1 (or_list v1) h1 : PV f ρ₁ VR Φ _ _).mono p1)
    (by show vs.toArray.size ≤ sizeLine; rw [List.size_toArray, paired_length v1, sizeLine_eq]; omega)) fun _ _ q => q)
theorem e_tuple {es : List Expr} {k : Nat} {pos : Pos} {Φ : AV → St → Prop} (h : Ta f es env pos σ (KLi .tup Φ) Ψ) : Ev f (.Tuple es k pos) env σ Φ Ψ := fun ρ s r =>
  Tuple_ (wpAny_mono (h ρ s r) (fun vs s₁ qq23 => qq23.elim fun ρ₁ as σ₁ p1 r1 v1 qq24 => qq24.elim fun hl h1 => wpAny_newObj_type ((pv_new r1 (or_tup v1) h1 : PV f ρ₁ VR Φ _ _).mono p1)
    (by show vs.toArray.size ≤ sizeLine; rw [List.size_toArray, paired_length v1, sizeLine_eq]; omega)) fun _ _ q => q)
end
end Mine

/- # F7 -/
namespace Mine
open PySem PySem.Calls PyProof.Rows PySem.W

section
variable {α β γ δ : Type} {f : Fm} {env : Env} {n : Nat} {Ψ : Value → Prop} {ρ : List Addr} {σ : St} {s : Shared}

noncomputable def St.put (σ : St) (j : Nat) (o : AO) : St := { σ with mem := σ.mem.set j o }

inductive WalkOk (f : Fm) (ρ : List Addr) (σ : St) (it : Value) (s₂ : Shared) (items : List AV) (js : List Nat) : Prop where
  | mk (I : Addr) (fp wr : List Addr) (P : Nat → Value → Prop) (St' : Nat → Heap → Prop) (hI : it = .ref I) (W : Walks pw f.w f.A I fp wr items.length P St') (hst : St' 0 s₂.heap) (hfp : ∀ b ∈ fp, b < s₂.heap.objs.size) (hwe : ∀ i h, St' i h → ∀ b ∈ wr, (h.get? b).isSome)
    (hwr : ∀ b ∈ wr, f.he b = none ∧ b ≠ f.L ∧ b ∉ ρ) (hP : ∀ i v, P i v → ∃ y, items[i]? = some y ∧ VR ρ v y)
    (hfz : ∀ b ∈ fp, b ∈ wr ∨ ∃ j ∈ js, ∃ (o : Obj) (t : Bool) (xs : List AV), ρ[j]? = some b ∧ s₂.heap.get? b = some o ∧ σ.mem[j]? = some (AO.fix o t xs))
inductive IV (f : Fm) (ρ : List Addr) (Φ : List AV → St → List Nat → Prop) (it : Value) (s₂ : Shared) : Prop where
  | mk (ρ' : List Addr) (items : List AV) (σ' : St) (js : List Nat) (p : ρ <+: ρ') (r : Rep f ρ' σ' s₂) (w : WalkOk f ρ' σ' it s₂ items js) (h : Φ items σ' js)
theorem IV.mono {ρ₁ : List Addr} {Φ : List AV → St → List Nat → Prop} {it : Value} {s₂ : Shared} (p : ρ <+: ρ₁) (h : IV f ρ₁ Φ it s₂) : IV f ρ Φ it s₂ :=
  IV.casesOn (motive := fun _ => IV f ρ Φ it s₂) h fun ρ' items σ' js q r w h => ⟨ρ', items, σ', js, p.trans q, r, w, h⟩
/- evaluate, then iter() -/
noncomputable def Tit (f : Fm) (e : Expr) (env : Env) (σ : St) (Φ : List AV → St → List Nat → Prop) (Ψ : Value → Prop) : Prop :=
  ∀ ρ s, Rep f ρ σ s → wpAny (model pw f.w) f.A (eval e env) (fun x s₁ => wpAny (model pw f.w) f.A (pyIter x) (IV f ρ Φ) (PE f Ψ) s₁) (PE f Ψ) s

/- ## for -/
inductive LoopOk (f : Fm) (env : Env) (n : Nat) (x : Str) (body : List Stmt) (items : List AV) (σ : St) (js : List Nat) (Φ : AF → St → Prop) (Ψ : Value → Prop) : Prop where
  | mk (Inv : Nat → St → Prop) (h0 : Inv 0 σ) (hj : ∀ j ∈ js, ∀ i σ', Inv i σ' → σ'.mem[j]? = σ.mem[j]?)
    (step : ∀ i σ' y, Inv i σ' → items[i]? = some y → ∀ f₁ : Fm, f₁.L = f.L → f₁.fenv = f.fenv → FmOk f₁ env n → Es f₁ body env (σ'.set x y) (LP Inv Φ i) Ψ)
    (done : ∀ σ', Inv items.length σ' → Φ .next σ')
/- ## comprehensions -/
noncomputable def AV.Plain : AV → Prop
  | .none | .bool _ | .int _ | .str _ | .bytes _ => True
  | _ => False
noncomputable def absV : Value → Option AV
  | .none => some .none
  | .bool b => some (.bool b)
  | .int i _ => some (.int i)
  | .str x _ => some (.str x.cps.toList)
  | .bytes b _ => some (.bytes b.toList)
  | _ => none
theorem absV_of {v : Value} {a : AV} (h : VR ρ v a) (ha : a.Plain) : absV v = some a := by
  cases a with
  | none => obtain rfl : v = .none := h; rfl
  | bool b => obtain rfl : v = .bool b := h; rfl
  | int i => obtain ⟨t, rfl⟩ := h; rfl
  | str x => obtain ⟨t, rfl⟩ := h; simp [absV]
  | bytes b => obtain ⟨t, rfl⟩ := h; simp [absV]
  | ref i => exact ha.elim
  | val v => exact ha.elim
theorem AV.Plain.flat {a : AV} (h : a.Plain) : a.Flat := by cases a <;> first | trivial | exact h.elim

theorem paired_filter {G : Value → Value → Prop} {t : AV → Bool} : ∀ {vs : List Value} {items : List AV}, (∀ a ∈ items, a.Plain) → VRs ρ vs items → ∀ {ys : List Value},
    Paired G (vs.filter fun v => (absV v).any t) ys → ∀ {R : Value → AV → Prop} {g : AV → AV}, (∀ v y a, absV v = some a → a ∈ items → t a = true → G v y → R y (g a)) → Paired R ys ((items.filter t).map g) := by
  intro vs items hpl hv
  induction hv with
  | nil => intro ys h R g _; (first | exact nn h | exact sn h | exact tf h | exact ft h | cases h); exact .nil
  | cons x _ ih =>
    rename_i v a vs' items' _
    intro ys h R g hG
    have e : absV v = some a := absV_of x (hpl a (.head _))
    by_cases q : t a = true
    · have e1 : (absV v).any t = true := by rw [e]; exact q
      simp only [List.filter_cons, e1, q, if_true] at h ⊢
      cases h with
      | cons h1 h2 => exact .cons (hG v _ a e (.head _) q h1) (ih (fun b hb => hpl b (.tail _ hb)) h2 fun v y a h1 h2 => hG v y a h1 (.tail _ h2))
    · have q' : t a = false := by simpa using q
      have e1 : (absV v).any t = false := by rw [e]; exact q'
      simp only [List.filter_cons, e1, q', Bool.false_eq_true, if_false] at h ⊢
      exact ih (fun b hb => hpl b (.tail _ hb)) h fun v y a h1 h2 => hG v y a h1 (.tail _ h2)
theorem paired_of_places {P : Nat → Value → Prop} : ∀ {vs : List Value} {items : List AV}, vs.length = items.length → (∀ i v, vs[i]? = some v → P i v) → (∀ i v, P i v → ∃ y, items[i]? = some y ∧ VR ρ v y) → VRs ρ vs items := by
  intro vs items hl hv hP
  have key : ∀ i v, vs[i]? = some v → ∃ y, items[i]? = some y ∧ VR ρ v y := fun i v e => hP i v (hv i v e)
  clear hv hP
  induction vs generalizing items with
  | nil => cases items with
    | nil => exact .nil
    | cons _ _ => simp at hl
  | cons v vs ih => cases items with
    | nil => simp at hl
    | cons a items =>
      refine .cons ?_ (ih (by simpa using hl) fun i v e => ?_)
      · obtain ⟨y, h1, h2⟩ := key 0 v rfl
        obtain rfl := Option.some.inj (by simpa using h1)
        exact h2
      · obtain ⟨y, h1, h2⟩ := key (i + 1) v (by simpa using e)
        exact ⟨y, by simpa using h1, h2⟩

/- the frame of a comprehension's element -/
noncomputable def Fm.comp (f : Fm) (C : Addr) (s : Shared) : Fm := { f with L := C, he := s.heap.get?, sg := s.gens, sd := s.drawn, so := s.os }
theorem FmOk.comp (hf : FmOk f env n) {scope : Scope} {cl : List (Str × Addr)} {C : Addr} {s : Shared} (hk : ∀ b o, f.he b = some o → s.heap.get? b = some o) (hfl : ∃ o, s.heap.get? f.FL = some o ∧ ∀ vs, o.data ≠ .fields vs)
    (hC : f.FL ≠ C) (hkind : scope.kind = .function) : FmOk (f.comp C s) (compEnvC scope cl C env) n :=
  ⟨hf.g, hf.frames, hf.handled, hf.depth, hf.units, fun b o e => hk b o (hf.stays b o e), fun h hh => hf.ofr h fun b o e hd => hh b o (hk b o e) hd, hf.ff, hf.ffk, .inr hfl, hf.fnew, rfl, hf.glob, hf.bui, hkind, hf.efr,
    fun e => absurd e hC, hf.guards, hf.fe⟩
theorem Rep.FLobj (r : Rep f ρ σ s) (hf : FmOk f env n) : ∃ o, s.heap.get? f.FL = some o ∧ ∀ vs, o.data ≠ .fields vs := by
  rcases hf.fl with h | ⟨o, h1, h2⟩
  · obtain ⟨m, ⟨o, es, ep, ho, hd, _⟩, _⟩ := r.ns
    exact ⟨o, by rw [h]; exact ho, fun vs q => by rw [hd] at q; (first | exact nn q | exact sn q | exact tf q | exact ft q | cases q)⟩
  · exact ⟨o, r.keep _ _ h1, h2⟩

/- what the element, the test, say for each item -/
structure CompOk (f : Fm) (env : Env) (n : Nat) (scope : Scope) (cl : List (Str × Addr)) (x : Str) (elt : Expr) (ifs : List Expr) (items : List AV) (t : AV → Bool) (g : AV → AV) (K : Fm → Prop) : Prop where
  plain : ∀ a ∈ items, a.Plain
  size : items.length ≤ 16777216
  flat : ∀ a ∈ items, t a = true → (g a).Flat
  elt : ∀ a ∈ items, t a = true → ∀ f₁ : Fm, K f₁ → FmOk f₁ (compEnvC scope cl f₁.L env) n → Ev f₁ elt (compEnvC scope cl f₁.L env) ⟨[(x, a)], []⟩ (fun b _ => b = g a) (fun _ => False)
  tests : ∀ a ∈ items, ∀ f₁ : Fm, K f₁ → FmOk f₁ (compEnvC scope cl f₁.L env) n → match ifs with
    | [] => t a = true
    | [c] => Tt f₁ c (compEnvC scope cl f₁.L env) ⟨[(x, a)], []⟩ (fun b _ => b = t a) (fun _ => False)
    | _ => False

theorem keeps_of_rep {C : Addr} {s₃ s₄ : Shared} {ρ' : List Addr} {σ' : St} (r : Rep (f.comp C s₃) ρ' σ' s₄) : Keeps s₃ s₄ := by
  obtain ⟨h3, g3, d3, t3, o3⟩ := s₃
  obtain ⟨h4, g4, d4, t4, o4⟩ := s₄
  have hg : g4 = g3 := r.gens
  have hd : d4 = d3 := r.drawn
  have ho : o4 = o3 := r.os
  subst hg hd ho
  exact ⟨h4, t4, rfl, fun b o e => r.keep b o e⟩

theorem comp_quiet {scope : Scope} {cl : List (Str × Addr)} {x : Str} {elt : Expr} {ifs : List Expr} {items : List AV} {t : AV → Bool} {g : AV → AV} {K : Fm → Prop} {P : Nat → Value → Prop} {wr : List Addr}
    (hf : FmOk f env n) (r : Rep f ρ σ s) (hP : ∀ i v, P i v → ∃ y, items[i]? = some y ∧ VR ρ v y) (hwr : ∀ b ∈ wr, f.he b = none ∧ b ≠ f.L ∧ b ∉ ρ) (hkind : scope.kind = .function)
    (hc : CompOk f env n scope cl x elt ifs items t g K)
    (hK : ∀ C s₃, (∀ b o, b ∉ wr → s.heap.get? b = some o → s₃.heap.get? b = some o) → K (f.comp C s₃)) :
    QuietOnC pw f.w f.A env scope cl x ifs elt wr P (fun v => (absV v).any t) (fun v y => ∀ a, absV v = some a → t a = true → VR [] y (g a)) s := by
  have hwe : ∀ b o, f.he b = some o → b ∉ wr := fun b o e q => by rw [(hwr b q).1] at e; (first | exact nn e | exact sn e | exact tf e | exact ft e | cases e)
  have base : ∀ (C : Addr) (i : Nat) (v : Value) (s₃ : Shared) (m₃ : Str → Option Value) (a : AV), s.heap.objs.size ≤ C → s₃.heap.Ns C m₃ → m₃ x = some v → (∀ b o, b ∉ wr → s.heap.get? b = some o → s₃.heap.get? b = some o) → VR ρ v a → a ∈ items →
      FmOk (f.comp C s₃) (compEnvC scope cl C env) n ∧ Rep (f.comp C s₃) [] ⟨[(x, a)], []⟩ s₃ := by
    intro C i v s₃ m₃ a hC hn hm hk hv ha
    obtain ⟨o, ho, hd⟩ := r.FLobj hf
    have hfw : f.FL ∉ wr := fun q => by
      obtain ⟨h1, h2, h3⟩ := hwr _ q
      rcases hf.fl with e | ⟨o', e, _⟩
      · exact h2 e
      · rw [h1] at e; (first | exact nn e | exact sn e | exact tf e | exact ft e | cases e)
    refine ⟨hf.comp (fun b o e => hk b o (hwe b o e) (r.keep b o e)) ⟨o, hk _ _ hfw ho, hd⟩ (Nat.ne_of_lt (Nat.lt_of_lt_of_le (Heap.lt_size ho) hC)) hkind, fun b o e => e, ⟨m₃, hn, fun y b e => ?_⟩, .nil, .nil, rfl, rfl, rfl⟩
    rw [List.lookup_cons] at e
    by_cases q : y = x
    · subst q
      simp only [beq_self_eq_true] at e
      obtain rfl := Option.some.inj e
      exact ⟨v, hm, hv.flat (hc.plain a ha).flat⟩
    · have q' : (y == x) = false := by simpa using q
      simp only [q', List.lookup_nil] at e
      (first | exact nn e | exact sn e | exact tf e | exact ft e | cases e)
  constructor
  · intro C i v s₃ m₃ E' hC hPi hn hm hk htk
    obtain ⟨a, hia, hva⟩ := hP i v hPi
    have ha : a ∈ items := List.mem_of_getElem? hia
    have e : absV v = some a := absV_of hva (hc.plain a ha)
    obtain ⟨hf₁, r₁⟩ := base C i v s₃ m₃ a hC hn hm hk hva ha
    have ht := hc.tests a ha (f.comp C s₃) (hK C s₃ hk) hf₁
    match ifs, ht with
    | [], ht =>
      rw [List.forIn_nil]
      exact wpAny_pure ⟨by rw [e]; exact ht.symm, ⟨_, _, rfl, fun _ _ e => e⟩⟩
    | [c], ht =>
      rw [List.forIn_cons]
      simp only [if_true]
      refine wpAny_bind (wpAny_bind (wpAny_mono (ht [] s₃ r₁) (fun b s₄ qq1 => qq1.elim fun ρ₄ b' σ₄ _ r₄ v₄ e₄ => wpAny_pure ?_) fun _ _ qq2 => qq2.elim fun _ _ q => q.elim))
      obtain rfl : b = b' := v₄
      dsimp only
      rw [List.forIn_nil]
      refine wpAny_pure ⟨by rw [e, e₄]; rfl, keeps_of_rep r₄⟩
  · intro C i v s₃ m₃ E' hC hPi hpv hn hm hk htk
    obtain ⟨a, hia, hva⟩ := hP i v hPi
    have ha : a ∈ items := List.mem_of_getElem? hia
    have e : absV v = some a := absV_of hva (hc.plain a ha)
    have hta : t a = true := by rw [e] at hpv; exact hpv
    obtain ⟨hf₁, r₁⟩ := base C i v s₃ m₃ a hC hn hm hk hva ha
    refine wpAny_mono (hc.elt a ha hta (f.comp C s₃) (hK C s₃ hk) hf₁ [] s₃ r₁) (fun y s₄ qq3 => qq3.elim fun ρ₄ b σ₄ _ r₄ v₄ e₄ => ⟨?_, keeps_of_rep r₄⟩) fun _ _ qq4 => qq4.elim fun _ _ q => q.elim
    intro a' e' hta'
    rw [e] at e'
    obtain rfl := Option.some.inj e'
    rw [← e₄]
    exact v₄.flat (by rw [e₄]; exact hc.flat a ha hta)

theorem e_comp {x : Str} {px : Pos} {elt iter : Expr} {ifs : List Expr} {scope : Scope} {pos : Pos} {cl : List (Str × Addr)} {Φ : AV → St → Prop} (t : AV → Bool) (g : AV → AV) (hf : FmOk f env n)
    (hclos : closureFor scope env = pure cl) (hcell : (scope.names.all fun y => decide (y.2 ≠ .cell)) = true) (hkind : scope.kind = .function)
    (hnames : (scope.names.all fun y => decide (y.2 = .local → scope.names.lookup y.1 = some .local)) = true) (hx : scope.names.lookup x = some .local) (K : Fm → Prop := fun _ => True) (hK : ∀ C s₃, (∀ b o, f.he b = some o → s₃.heap.get? b = some o) → K (f.comp C s₃) := by intros; trivial)
    (h : Tit f iter env σ (fun items σ' js => CompOk f env n scope cl x elt ifs items t g K ∧ Φ (.ref σ'.mem.length) (σ'.new (.list ((items.filter t).map g)))) Ψ)
    (hs : ∀ x, foldedSetIterable iter env x = pure x := by intro _; rfl) : Ev f (.ListComp elt [⟨.Name x px, iter, ifs, 0⟩] scope pos) env σ Φ Ψ := fun ρ s r => by
  refine wpAny_ListComp_free (fun v => (absV v).any t) (fun v y => ∀ a, absV v = some a → t a = true → VR [] y (g a)) hclos (fun y hy => of_decide_eq_true (List.all_eq_true.mp hcell y hy)) hkind (fun y hy => of_decide_eq_true (List.all_eq_true.mp hnames y hy)) hx
    (wpAny_mono (h ρ s r) (fun xv s₁ h₁ => wpAny_mono h₁ (fun it s₂ qz => IV.casesOn (motive := fun _ => _) qz fun ρ' items σ' js p1 r' qw qh => WalkOk.casesOn (motive := fun _ => _) qw fun I fp wr P St' hI W hst hfp hwe hwr hP hfz => qh.elim fun hc hΦ => ?_) fun _ _ q => q) fun _ _ q => q) hs
  have hw : ∀ b o, f.he b = some o → b ∉ wr := fun b o e q => by rw [(hwr b q).1] at e; (first | exact nn e | exact sn e | exact tf e | exact ft e | cases e)
  refine ⟨I, fp, wr, items.length, P, St', hI, W, by rw [sizeLine_eq]; exact hc.size, hst, hfp, comp_quiet hf r' hP hwr hkind hc (fun C s₃ hk => hK C s₃ fun b o e => hk b o (hw b o e) (r'.keep b o e)), ?_⟩
  intro D h' tk ys vs hD hl hpl hlen hPv hF hk
  obtain ⟨k, hpl⟩ := hpl
  have hys : VRs [] ys.toList ((items.filter t).map g) := paired_filter hc.plain (paired_of_places hlen hPv hP) hF fun v y a h1 h2 h3 hG => hG a h1 h3
  have r₂ : Rep f ρ' σ' { s₂ with heap := h', toks := tk } := r'.but (fun b hb => (hwr b hb).1) (fun q => (hwr _ q).2.1 rfl) (fun b hb => (hwr b hb).2.2) hk
  have hDρ : D ∉ ρ' := fun q => by have := r'.lt q; rw [hD] at this; (first | exact nn this | exact sn this | exact tf this | exact ft this | cases this)
  have hDL : D ≠ f.L := fun q => by have := r'.Lsome; rw [← q, hD] at this; (first | exact nn this | exact sn this | exact tf this | exact ft this | cases this)
  have hDh : f.he D = none := by
    cases q : f.he D with
    | none => rfl
    | some o => have := r'.keep _ _ q; rw [hD] at this; (first | exact nn this | exact sn this | exact tf this | exact ft this | cases this)
  refine ⟨ρ' ++ [D], .ref σ'.mem.length, σ'.new _, p1.trans (List.prefix_append ..), ?_, ⟨D, by rw [← paired_length r'.mem]; simp, rfl⟩, hΦ⟩
  have hpre : ρ' <+: ρ' ++ [D] := List.prefix_append ..
  refine ⟨r₂.keep, ?_, ?_, ?_, r₂.gens, r₂.drawn, r₂.os⟩
  · obtain ⟨m, h1, h2⟩ := r₂.ns
    exact ⟨m, h1, fun x b e => let ⟨v, h3, h4⟩ := h2 x b e; ⟨v, h3, h4.mono hpre⟩⟩
  · refine paired_append (paired_mono (fun _ _ qq5 => qq5.elim fun ob qq6 => qq6.elim fun h1 qq7 => qq7.elim fun h2 h3 => ⟨ob, h1, h2.mono hpre, h3⟩) r₂.mem) (.cons ⟨_, hpl, ⟨ys, _, rfl, VRs.mono List.nil_prefix hys⟩, hDh, hDL⟩ .nil)
  · exact List.nodup_append.mpr ⟨r₂.nodup, by simp, by intro x hx y hy q; simp at hy; subst hy; subst q; exact hDρ hx⟩

theorem x_assign_comp {x y : Str} {px py : Pos} {elt iter : Expr} {ifs : List Expr} {scope : Scope} {pos spos : Pos} {cl : List (Str × Addr)} {Φ : AF → St → Prop} (t : AV → Bool) (g : AV → AV) (hf : FmOk f env n)
    (hsw : swapsWith (.ListComp elt [⟨.Name x px, iter, ifs, 0⟩] scope pos) (some (.Name y py)) spos.line env = pure true)
    (hclos : closureFor scope env = pure cl) (hcell : (scope.names.all fun y => decide (y.2 ≠ .cell)) = true) (hkind : scope.kind = .function)
    (hnames : (scope.names.all fun y => decide (y.2 = .local → scope.names.lookup y.1 = some .local)) = true) (hx : scope.names.lookup x = some .local) (hy : env.kindOf y = some .local)
    (K : Fm → Prop := fun _ => True) (hK : ∀ C s₃, (∀ b o, f.he b = some o → s₃.heap.get? b = some o) → K (f.comp C s₃) := by intros; trivial)
    (h : Tit f iter env σ (fun items σ' js => CompOk f env n scope cl x elt ifs items t g K ∧ Φ .next ((σ'.new (.list ((items.filter t).map g))).set y (.ref σ'.mem.length))) Ψ)
    (hfr : env.frame = some env.locals := by rfl)
    (hs : ∀ x, foldedSetIterable iter env x = pure x := by intro _; rfl) : Ex f (.Assign [.Name y py] (.ListComp elt [⟨.Name x px, iter, ifs, 0⟩] scope pos) spos) env σ Φ Ψ := fun ρ s r => by
  refine wpAny_Assign_ListComp_free (fun v => (absV v).any t) (fun v y => ∀ a, absV v = some a → t a = true → VR [] y (g a)) hsw hclos (fun y hy => of_decide_eq_true (List.all_eq_true.mp hcell y hy)) hkind (fun y hy => of_decide_eq_true (List.all_eq_true.mp hnames y hy)) hx hy (by rw [hf.kind]; rfl)
    (wpAny_mono (h ρ s r) (fun xv s₁ h₁ => wpAny_mono h₁ (fun it s₂ qz => IV.casesOn (motive := fun _ => _) qz fun ρ' items σ' js p1 r' qw qh => WalkOk.casesOn (motive := fun _ => _) qw fun I fp wr P St' hI W hst hfp hwe hwr hP hfz => qh.elim fun hc hΦ => ?_) fun _ _ q => q) fun _ _ q => q) hs
  have hw : ∀ b o, f.he b = some o → b ∉ wr := fun b o e q => by rw [(hwr b q).1] at e; (first | exact nn e | exact sn e | exact tf e | exact ft e | cases e)
  have hl0 := hf.lnew (hf.isFL hfr)
  obtain ⟨m, hm1, hm2⟩ := r'.ns
  refine ⟨I, fp, wr, items.length, P, St', m, hI, W, by rw [sizeLine_eq]; exact hc.size, hst, hfp, by rw [hf.loc]; exact fun q => (hwr _ q).2.1 rfl, by rw [hf.loc]; exact hm1,
    comp_quiet hf r' hP hwr hkind hc (fun C s₃ hk => hK C s₃ fun b o e => hk b o (hw b o e) (r'.keep b o e)), ?_⟩
  intro D h' tk ys vs hD hl hpl hlen hPv hF hn hk
  rw [hf.loc] at hn hk
  obtain ⟨k, hpl⟩ := hpl
  have hys : VRs [] ys.toList ((items.filter t).map g) := paired_filter hc.plain (paired_of_places hlen hPv hP) hF fun v y a h1 h2 h3 hG => hG a h1 h3
  have hDρ : D ∉ ρ' := fun q => by have := r'.lt q; rw [hD] at this; (first | exact nn this | exact sn this | exact tf this | exact ft this | cases this)
  have hDL : D ≠ f.L := fun q => by have := r'.Lsome; rw [← q, hD] at this; (first | exact nn this | exact sn this | exact tf this | exact ft this | cases this)
  have hDh : f.he D = none := by
    cases q : f.he D with
    | none => rfl
    | some o => have := r'.keep _ _ q; rw [hD] at this; (first | exact nn this | exact sn this | exact tf this | exact ft this | cases this)
  have hpre : ρ' <+: ρ' ++ [D] := List.prefix_append ..
  refine ⟨ρ' ++ [D], .next, _, p1.trans hpre, ?_, fr_next, hΦ⟩
  refine ⟨fun b o e => hk b o (fun q => by rw [q, hl0] at e; (first | exact nn e | exact sn e | exact tf e | exact ft e | cases e)) (hw b o e) (r'.keep b o e), ⟨_, hn, fun z c e => ?_⟩, ?_, ?_, r'.gens, r'.drawn, r'.os⟩
  · have e' : List.lookup z ((y, AV.ref σ'.mem.length) :: σ'.loc) = some c := e
    rw [List.lookup_cons] at e'
    by_cases q : z = y
    · subst q
      simp only [beq_self_eq_true] at e'
      obtain rfl := Option.some.inj e'
      exact ⟨.ref D, by rw [if_pos rfl], D, by rw [← paired_length r'.mem]; simp, rfl⟩
    · have q' : (z == y) = false := by simpa using q
      simp only [q'] at e'
      obtain ⟨v, h3, h4⟩ := hm2 z c e'
      exact ⟨v, by rw [if_neg q]; exact h3, h4.mono hpre⟩
  · have hmem : Paired (fun a o => ∃ ob, h'.get? a = some ob ∧ OR (ρ' ++ [D]) ob o ∧ f.he a = none ∧ a ≠ f.L) ρ' σ'.mem := by
      have : ∀ {l : List Addr} {ms : List AO}, (∀ b ∈ wr, b ∉ l) → Paired (fun a o => ∃ ob, s₂.heap.get? a = some ob ∧ OR ρ' ob o ∧ f.he a = none ∧ a ≠ f.L) l ms → Paired (fun a o => ∃ ob, h'.get? a = some ob ∧ OR (ρ' ++ [D]) ob o ∧ f.he a = none ∧ a ≠ f.L) l ms := by
        intro l ms hl hp
        induction hp with
        | nil => exact .nil
        | cons x _ ih =>
          obtain ⟨ob, h1, h2, h3, h4⟩ := x
          exact .cons ⟨ob, hk _ _ h4 (fun q => hl _ q (.head _)) h1, h2.mono hpre, h3, h4⟩ (ih fun b hb q => hl b hb (.tail _ q))
      exact this (fun b hb => (hwr b hb).2.2) r'.mem
    exact paired_append hmem (.cons ⟨_, hpl, ⟨ys, _, rfl, VRs.mono List.nil_prefix hys⟩, hDh, hDL⟩ .nil)
  · exact List.nodup_append.mpr ⟨r'.nodup, by simp, by intro x hx y hy q; simp at hy; subst hy; subst q; exact hDρ hx⟩
end
end Mine

/- # F8 -/
namespace Mine
open PySem PySem.Calls PyProof.Rows PySem.W

section
variable {α β γ δ : Type} {f : Fm} {env : Env} {n : Nat} {Ψ : Value → Prop} {ρ : List Addr} {σ : St} {s : Shared}

theorem paired_set {α β : Type} {F : α → β → Prop} {l : List α} {m : List β} (p : Paired F l m) : ∀ {j : Nat} {a : α} {b : β}, l[j]? = some a → F a b → Paired F l (m.set j b) := by
  induction p with
  | nil => exact fun h _ => nn h
  | cons x r ih =>
    intro j a b h hb
    cases j with
    | zero => exact .cons ((Option.some.inj h).symm ▸ hb) r
    | succ j => exact .cons x (ih h hb)
/- an entry said anew -/
theorem Rep.restate (r : Rep f ρ σ s) {j : Nat} {a : Addr} {ob : Obj} {o : AO} (hj : ρ[j]? = some a) (ho : s.heap.get? a = some ob) (hO : OR ρ ob o) : Rep f ρ (σ.put j o) s :=
  ⟨r.keep, r.ns, paired_set r.mem hj ⟨ob, ho, hO, r.ne hj⟩, r.nodup, r.gens, r.drawn, r.os⟩

/- a list's entry, however it is told -/
noncomputable def ListAt (σ : St) (j : Nat) (xs : List AV) : Prop := σ.mem[j]? = some (.list xs) ∨ ∃ o, σ.mem[j]? = some (.fix o false xs)
noncomputable def TupAt (σ : St) (j : Nat) (xs : List AV) : Prop := σ.mem[j]? = some (.tup xs) ∨ ∃ o, σ.mem[j]? = some (.fix o true xs)
theorem Rep.listAt (r : Rep f ρ σ s) {j : Nat} {xs : List AV} (h : ListAt σ j xs) {v : Value} (hv : VR ρ v (.ref j)) :
    ∃ a vs k, v = .ref a ∧ ρ[j]? = some a ∧ s.heap.get? a = some { cls := .type "list", data := .seq vs k } ∧ VRs ρ vs.toList xs := by
  obtain ⟨a, ha, rfl⟩ := hv
  obtain ⟨o, ho, ob, h1, h2, _⟩ := paired_get r.mem ha
  rcases h with h | ⟨o', h⟩
  · rw [ho] at h
    obtain rfl := Option.some.inj h
    obtain ⟨vs, k, rfl, h3⟩ := h2
    exact ⟨a, vs, k, rfl, ha, h1, h3⟩
  · rw [ho] at h
    obtain rfl := Option.some.inj h
    obtain ⟨rfl, vs, k, rfl, h3⟩ := h2
    exact ⟨a, vs, k, rfl, ha, h1, h3⟩
theorem Rep.tupAt (r : Rep f ρ σ s) {j : Nat} {xs : List AV} (h : TupAt σ j xs) {v : Value} (hv : VR ρ v (.ref j)) :
    ∃ a vs k, v = .ref a ∧ ρ[j]? = some a ∧ s.heap.get? a = some { cls := .type "tuple", data := .seq vs k } ∧ VRs ρ vs.toList xs := by
  obtain ⟨a, ha, rfl⟩ := hv
  obtain ⟨o, ho, ob, h1, h2, _⟩ := paired_get r.mem ha
  rcases h with h | ⟨o', h⟩
  · rw [ho] at h
    obtain rfl := Option.some.inj h
    obtain ⟨vs, k, rfl, h3⟩ := h2
    exact ⟨a, vs, k, rfl, ha, h1, h3⟩
  · rw [ho] at h
    obtain rfl := Option.some.inj h
    obtain ⟨rfl, vs, k, rfl, h3⟩ := h2
    exact ⟨a, vs, k, rfl, ha, h1, h3⟩

theorem size_none (h : Heap) : h.get? h.objs.size = none := by
  cases q : h.get? h.objs.size with
  | none => rfl
  | some o => exact absurd (Heap.lt_size q) (Nat.lt_irrefl _)
theorem Rep.fresh (r : Rep f ρ σ s) : f.he s.heap.objs.size = none ∧ s.heap.objs.size ≠ f.L ∧ s.heap.objs.size ∉ ρ := by
  refine ⟨?_, fun q => ?_, fun q => ?_⟩
  · cases q : f.he s.heap.objs.size with
    | none => rfl
    | some o => have := r.keep _ _ q; rw [size_none] at this; (first | exact nn this | exact sn this | exact tf this | exact ft this | cases this)
  · have := r.Lsome; rw [← q, size_none] at this; (first | exact nn this | exact sn this | exact tf this | exact ft this | cases this)
  · have := r.lt q; rw [size_none] at this; (first | exact nn this | exact sn this | exact tf this | exact ft this | cases this)
theorem Rep.push (r : Rep f ρ σ s) {ob : Obj} {tk : Nat} : Rep f ρ σ { s with heap := s.heap.push ob, toks := tk } := r.keeps fun _ _ e => Heap.get?_push_of_some _ e
theorem vrs_get {vs : List Value} {xs : List AV} (h : VRs ρ vs xs) {i : Nat} {v : Value} (hv : vs[i]? = some v) : ∃ y, xs[i]? = some y ∧ VR ρ v y := by
  obtain ⟨b, h1, h2⟩ := paired_get h hv
  exact ⟨b, h1, h2⟩

/- ## what may be walked -/
noncomputable abbrev KIl (P : St → Nat → List AV → Prop) (t : Bool) (Φ : List AV → St → List Nat → Prop) (a : AV) (σ₁ : St) : Prop := ∃ j xs, a = .ref j ∧ P σ₁ j xs ∧ ∀ o, Φ xs (σ₁.put j (.fix o t xs)) [j]
noncomputable abbrev KIb (Φ : List AV → St → List Nat → Prop) (a : AV) (σ₁ : St) : Prop := match a with | .bytes b => Φ (b.map fun c => .int c.toNat) σ₁ [] | _ => False
noncomputable abbrev KIs (Φ : List AV → St → List Nat → Prop) (a : AV) (σ₁ : St) : Prop := match a with | .str b => Φ (b.map fun c => .str [c]) σ₁ [] | _ => False
theorem KIb.elim {Φ : List AV → St → List Nat → Prop} {a : AV} {σ₁ : St} {C : Prop} (h : KIb Φ a σ₁) (k : ∀ b, a = .bytes b → Φ (b.map fun c => .int c.toNat) σ₁ [] → C) : C := by
  cases a <;> first | exact k _ rfl h | exact False.elim h
theorem KIs.elim {Φ : List AV → St → List Nat → Prop} {a : AV} {σ₁ : St} {C : Prop} (h : KIs Φ a σ₁) (k : ∀ b, a = .str b → Φ (b.map fun c => .str [c]) σ₁ [] → C) : C := by
  cases a <;> first | exact k _ rfl h | exact False.elim h
theorem it_list {e : Expr} {Φ : List AV → St → List Nat → Prop} (hf : FmOk f env n)
    (h : Ev f e env σ (KIl ListAt false Φ) Ψ) : Tit f e env σ Φ Ψ := fun ρ s r => by
  refine wpAny_mono (h ρ s r) (fun x s₁ qq1 => qq1.elim fun ρ₁ a σ₁ p1 r1 v1 qq2 => qq2.elim fun j qq3 => qq3.elim fun xs qq4 => qq4.elim fun ha qq5 => qq5.elim fun hl hΦ => ?_) fun _ _ q => q
  subst ha
  obtain ⟨l, vs, k, rfl, hj, hh, hvs⟩ := r1.listAt hl v1
  have hlist : s₁.heap.IsList l vs := ⟨_, hh, rfl, k, rfl⟩
  have r2 := r1.restate hj hh (o := .fix _ false xs) ⟨rfl, vs, k, rfl, hvs⟩
  have W := Walks.list (prog := pw) (w := f.w) (A := f.A) hf.handled s₁.heap.objs.size l (Nat.ne_of_lt (Heap.lt_size hh)) vs
  have e : vs.size = xs.length := by rw [← paired_length hvs]; simp
  rw [e] at W
  refine wpAny_pyIter_list hlist ?_
  refine ⟨ρ₁, xs, _, [j], p1, r2.push (tk := s₁.toks), ⟨s₁.heap.objs.size, _, _, _, _, rfl, W, ⟨⟨_, Heap.get?_push_size _ rfl, rfl, rfl⟩, ⟨_, Heap.get?_push_of_some _ hh, rfl, k, rfl⟩⟩, ?_, ?_, ?_, ?_, ?_⟩, hΦ _⟩
  · intro b hb
    simp only [List.mem_cons, List.not_mem_nil, or_false] at hb
    rw [Heap.size_push]
    rcases hb with rfl | rfl
    · exact Nat.lt_succ_self _
    · exact Nat.lt_succ_of_lt (Heap.lt_size hh)
  · rintro i h ⟨⟨o, ho, _⟩, _⟩ b hb
    simp only [List.mem_cons, List.not_mem_nil, or_false] at hb
    subst hb
    rw [ho]; rfl
  · intro b hb
    simp only [List.mem_cons, List.not_mem_nil, or_false] at hb
    subst hb
    exact r1.fresh
  · intro i v hv
    exact vrs_get hvs (by simpa using hv)
  · intro b hb
    simp only [List.mem_cons, List.not_mem_nil, or_false] at hb
    rcases hb with rfl | rfl
    · exact .inl (by simp)
    · refine .inr ⟨j, by simp, _, false, xs, hj, Heap.get?_push_of_some _ hh, ?_⟩
      obtain ⟨o', ho', _⟩ := paired_get r1.mem hj
      show (σ₁.mem.set j _)[j]? = _
      rw [List.getElem?_set_self (List.getElem?_eq_some_iff.mp ho').1]
theorem it_tup {e : Expr} {Φ : List AV → St → List Nat → Prop} (hf : FmOk f env n)
    (h : Ev f e env σ (KIl TupAt true Φ) Ψ) : Tit f e env σ Φ Ψ := fun ρ s r => by
  refine wpAny_mono (h ρ s r) (fun x s₁ qq6 => qq6.elim fun ρ₁ a σ₁ p1 r1 v1 qq7 => qq7.elim fun j qq8 => qq8.elim fun xs qq9 => qq9.elim fun ha qq10 => qq10.elim fun hl hΦ => ?_) fun _ _ q => q
  subst ha
  obtain ⟨l, vs, k, rfl, hj, hh, hvs⟩ := r1.tupAt hl v1
  have hlist : s₁.heap.IsTuple l vs := ⟨_, hh, rfl, k, rfl⟩
  have r2 := r1.restate hj hh (o := .fix _ true xs) ⟨rfl, vs, k, rfl, hvs⟩
  have W := Walks.tuple (prog := pw) (w := f.w) (A := f.A) hf.handled s₁.heap.objs.size l (Nat.ne_of_lt (Heap.lt_size hh)) vs
  have e : vs.size = xs.length := by rw [← paired_length hvs]; simp
  rw [e] at W
  refine wpAny_pyIter_tuple hlist ?_
  refine ⟨ρ₁, xs, _, [j], p1, r2.push (tk := s₁.toks), ⟨s₁.heap.objs.size, _, _, _, _, rfl, W, ⟨⟨_, Heap.get?_push_size _ rfl, rfl, rfl⟩, ⟨_, Heap.get?_push_of_some _ hh, rfl, k, rfl⟩⟩, ?_, ?_, ?_, ?_, ?_⟩, hΦ _⟩
  · intro b hb
    simp only [List.mem_cons, List.not_mem_nil, or_false] at hb
    rw [Heap.size_push]
    rcases hb with rfl | rfl
    · exact Nat.lt_succ_self _
    · exact Nat.lt_succ_of_lt (Heap.lt_size hh)
  · rintro i h ⟨⟨o, ho, _⟩, _⟩ b hb
    simp only [List.mem_cons, List.not_mem_nil, or_false] at hb
    subst hb
    rw [ho]; rfl
  · intro b hb
    simp only [List.mem_cons, List.not_mem_nil, or_false] at hb
    subst hb
    exact r1.fresh
  · intro i v hv
    exact vrs_get hvs (by simpa using hv)
  · intro b hb
    simp only [List.mem_cons, List.not_mem_nil, or_false] at hb
    rcases hb with rfl | rfl
    · exact .inl (by simp)
    · refine .inr ⟨j, by simp, _, true, xs, hj, Heap.get?_push_of_some _ hh, ?_⟩
      obtain ⟨o', ho', _⟩ := paired_get r1.mem hj
      show (σ₁.mem.set j _)[j]? = _
      rw [List.getElem?_set_self (List.getElem?_eq_some_iff.mp ho').1]
theorem it_bytes {e : Expr} {Φ : List AV → St → List Nat → Prop} (hf : FmOk f env n)
    (h : Ev f e env σ (KIb Φ) Ψ) : Tit f e env σ Φ Ψ := fun ρ s r => by
  refine wpAny_mono (h ρ s r) (fun x s₁ qq11 => qq11.elim fun ρ₁ a σ₁ p1 r1 v1 qq12 => qq12.elim fun b ha hΦ => ?_) fun _ _ q => q
  subst ha
  obtain ⟨t, rfl⟩ := v1
  have W := KBw.walks (prog := pw) (w := f.w) (A := f.A) hf.handled s₁.heap.objs.size b.toArray t
  have e : b.toArray.size = (b.map fun c => AV.int c.toNat).length := by simp
  rw [e] at W
  refine KBw.pyIter_bytes ?_
  refine ⟨ρ₁, _, _, [], p1, r1.push (tk := s₁.toks), ⟨s₁.heap.objs.size, [s₁.heap.objs.size], [s₁.heap.objs.size], _, _, rfl, W, ⟨_, Heap.get?_push_size _ rfl, rfl, rfl⟩, ?_, ?_, ?_, ?_, ?_⟩, hΦ⟩
  · intro b hb
    simp only [List.mem_cons, List.not_mem_nil, or_false] at hb
    rw [Heap.size_push]
    subst hb; exact Nat.lt_succ_self _
  · rintro i h ⟨o, ho, _⟩ b hb
    simp only [List.mem_cons, List.not_mem_nil, or_false] at hb
    subst hb
    rw [ho]; rfl
  · intro b hb
    simp only [List.mem_cons, List.not_mem_nil, or_false] at hb
    subst hb
    exact r1.fresh
  · rintro i v ⟨c, u, hc, rfl⟩
    exact ⟨.int c.toNat, by simp only [List.getElem?_map]; rw [show b[i]? = some c by simpa using hc]; rfl, vr_int⟩
  · intro b hb
    exact .inl hb

theorem it_one {it₀ : Obj} {P : Nat → Value → Prop} {St' : Nat → Heap → Prop} {items : List AV} {Φ : List AV → St → List Nat → Prop} (r1 : Rep f ρ σ s)
    (W : Walks pw f.w f.A s.heap.objs.size [s.heap.objs.size] [s.heap.objs.size] items.length P St') (hst : St' 0 (s.heap.push it₀)) (hwe : ∀ i h, St' i h → (h.get? s.heap.objs.size).isSome)
    (hP : ∀ i v, P i v → ∃ y, items[i]? = some y ∧ VR ρ v y) (hΦ : Φ items σ []) {tk : Nat} :
    IV f ρ Φ (.ref s.heap.objs.size) { s with heap := s.heap.push it₀, toks := tk } := by
  refine ⟨ρ, items, σ, [], List.prefix_refl _, r1.push, ⟨s.heap.objs.size, [s.heap.objs.size], [s.heap.objs.size], P, St', rfl, W, hst, ?_, ?_, ?_, hP, fun b hb => .inl hb⟩, hΦ⟩
  · intro b hb
    simp only [List.mem_cons, List.not_mem_nil, or_false] at hb
    show b < (s.heap.push it₀).objs.size
    rw [Heap.size_push]
    subst hb; exact Nat.lt_succ_self _
  · intro i h hi b hb
    simp only [List.mem_cons, List.not_mem_nil, or_false] at hb
    subst hb
    exact hwe i h hi
  · intro b hb
    simp only [List.mem_cons, List.not_mem_nil, or_false] at hb
    subst hb
    exact r1.fresh
theorem it_str {e : Expr} {Φ : List AV → St → List Nat → Prop} (hf : FmOk f env n)
    (h : Ev f e env σ (KIs Φ) Ψ) : Tit f e env σ Φ Ψ := fun ρ s r => by
  refine wpAny_mono (h ρ s r) (fun x s₁ qq14 => qq14.elim fun ρ₁ a σ₁ p1 r1 v1 qq15 => qq15.elim fun b ha hΦ => ?_) fun _ _ q => q
  subst ha
  obtain ⟨t, rfl⟩ := v1
  have hP : ∀ i v, SignAt ⟨b.toArray⟩ i v → ∃ y, (b.map fun c => AV.str [c])[i]? = some y ∧ VR ρ₁ v y := by
    rintro i v ⟨c, u, hc, rfl⟩
    exact ⟨.str [c], by simp only [List.getElem?_map]; rw [show b[i]? = some c by simpa using hc]; rfl, vr_str (l := [c])⟩
  have e : (⟨b.toArray⟩ : Str).cps.size = (b.map fun c => AV.str [c]).length := by simp
  have out : ∀ {s₂ : Shared}, IV f ρ₁ Φ (.ref s₁.heap.objs.size) s₂ → IV f ρ Φ (.ref s₁.heap.objs.size) s₂ := IV.mono p1
  cases ha : (⟨b.toArray⟩ : Str).cps.all (· < 128)
  · refine wpAny_pyIter_wide ha ?_
    exact out (it_one (tk := s₁.toks) r1 (e ▸ Walks.strWide hf.handled _ _ t) ⟨_, Heap.get?_push_size _ rfl, rfl, rfl⟩ (fun i h qq17 => qq17.elim fun o qq18 => qq18.elim fun ho _ => by rw [ho]; rfl) hP hΦ)
  · refine wpAny_pyIter_ascii ha ?_
    exact out (it_one (tk := s₁.toks) r1 (e ▸ Walks.strAscii hf.handled _ _ t) ⟨_, Heap.get?_push_size _ rfl, rfl, rfl⟩ (fun i h qq19 => qq19.elim fun o qq20 => qq20.elim fun ho _ => by rw [ho]; rfl) hP hΦ)
/- a range object's numbers -/
noncomputable def rangeL (a c : Int) (k : Nat) : List AV := (List.range k).map fun (i : Nat) => AV.int (a + (i : Int) * c)
noncomputable abbrev KIr (Φ : List AV → St → List Nat → Prop) (v : AV) (σ₁ : St) : Prop := ∃ j a b c k, v = .ref j ∧ σ₁.mem[j]? = some (.rng a b c) ∧ Builtin.Range.small a b c = true ∧ Builtin.Range.rangeSize a b c = (k : Nat) ∧ Φ (rangeL a c k) σ₁ []
theorem it_range {e : Expr} {Φ : List AV → St → List Nat → Prop} (hf : FmOk f env n)
    (h : Ev f e env σ (KIr Φ) Ψ) : Tit f e env σ Φ Ψ := fun ρ s r => by
  refine wpAny_mono (h ρ s r) (fun x s₁ qq21 => qq21.elim fun ρ₁ v σ₁ p1 r1 v1 qq22 => qq22.elim fun j qq23 => qq23.elim fun a qq24 => qq24.elim fun b qq25 => qq25.elim fun c qq26 => qq26.elim fun k qq27 => qq27.elim fun hv qq28 => qq28.elim fun hm qq29 => qq29.elim fun hs qq30 => qq30.elim fun hk hΦ => ?_) fun _ _ q => q
  subst hv
  obtain ⟨l, hl, rfl⟩ := v1
  obtain ⟨o, ho, ob, h1, h2, _⟩ := paired_get r1.mem hl
  rw [hm] at ho
  obtain rfl := Option.some.inj ho
  obtain ⟨t, u, w, rfl⟩ := h2
  refine wpAny_pyIter_range h1 hs ?_
  have out : ∀ {s₂ : Shared}, IV f ρ₁ Φ (.ref s₁.heap.objs.size) s₂ → IV f ρ Φ (.ref s₁.heap.objs.size) s₂ := IV.mono p1
  have e : (rangeL a c k).length = k := by simp [rangeL]
  have W := Walks.range (prog := pw) (w := f.w) (A := f.A) hf.handled s₁.heap.objs.size a c k
  have W' : Walks pw f.w f.A s₁.heap.objs.size [s₁.heap.objs.size] [s₁.heap.objs.size] (rangeL a c k).length (fun i v => i < k ∧ ∃ t, v = Value.int (a + (i : Int) * c) t) (fun i h => IsRangeIter h s₁.heap.objs.size (a + (i : Nat) * c) ((k : Int) - (i : Nat)) c) := by rw [e]; exact W.bound
  refine out (it_one (items := rangeL a c k) (tk := s₁.toks) r1 W' ?_ (fun i h st => by rw [st]; rfl) ?_ hΦ)
  · have e1 : a + ((0 : Nat) : Int) * c = a := by simp
    have e2 : (k : Int) - ((0 : Nat) : Int) = Builtin.Range.rangeSize a b c := by rw [hk]; simp
    show IsRangeIter _ _ (a + ((0 : Nat) : Int) * c) ((k : Int) - ((0 : Nat) : Int)) c
    rw [e1, e2]
    exact Heap.get?_push_size _ rfl
  · rintro i v ⟨hi, t, rfl⟩
    exact ⟨.int (a + (i : Int) * c), by simp [rangeL, hi], vr_int⟩
end
end Mine

/- # F9 -/
namespace Mine
open PySem PySem.Calls PyProof.Rows PySem.W

/- xs[lo:hi] -/
noncomputable def cut {α : Type} (xs : List α) (lo hi : Option Int) : List α := (xs.drop (lo.elim 0 (clipAt xs.length))).take (hi.elim xs.length (clipAt xs.length) - lo.elim 0 (clipAt xs.length))

section
variable {α β γ δ : Type} {f : Fm} {env : Env} {n : Nat} {Ψ : Value → Prop} {ρ : List Addr} {σ : St} {s : Shared}

/- ## slices -/
noncomputable def partV : Option Int → Value → Prop
  | none, v => v = .none
  | some i, v => ∃ t, v = .int i t
noncomputable def Tp (f : Fm) (x : Option Expr) (env : Env) (σ : St) (Φ : Option Int → St → Prop) (Ψ : Value → Prop) : Prop := Tr f (evalPart x env) (fun _ v i => partV i v) σ Φ Ψ
theorem p_none {Φ : Option Int → St → Prop} (h : Φ none σ) : Tp f none env σ Φ Ψ := fun _ _ r => wpAny_pure (pv (R := fun _ v i => partV i v) (b := none) r (show partV none Value.none from rfl) h)
noncomputable abbrev KSm (Φ : Option Int → St → Prop) (a : AV) (σ₁ : St) : Prop := match a with | .int i => Φ (some i) σ₁ | _ => False
theorem KSm.elim {Φ : Option Int → St → Prop} {a : AV} {σ₁ : St} {C : Prop} (h : KSm Φ a σ₁) (k : ∀ i, a = .int i → Φ (some i) σ₁ → C) : C := by
  cases a <;> first | exact k _ rfl h | exact False.elim h
theorem p_some {e : Expr} {Φ : Option Int → St → Prop} (h : Ev f e env σ (KSm Φ) Ψ) : Tp f (some e) env σ Φ Ψ := fun ρ s r =>
  wpAny_mono (h ρ s r) (fun v _ qq1 => qq1.elim fun ρ₁ a _ p1 r1 v1 qq2 => qq2.elim fun i ha h1 => by subst ha; exact ⟨ρ₁, some i, _, p1, r1, v1, h1⟩) fun _ _ q => q
theorem partV.isPart {i : Option Int} {v : Value} (h : partV i v) : IsPart v i := by
  cases i with
  | none => obtain rfl : v = .none := h; exact .none
  | some i => obtain ⟨t, rfl⟩ := h; exact .int i t

noncomputable def SlcOp (f : Fm) (a : AV) (lo hi : Option Int) (σ : St) (Φ : AV → St → Prop) (Ψ : Value → Prop) : Prop :=
  ∀ ρ v vl vu, VR ρ v a → partV lo vl → partV hi vu → ∀ s, Rep f ρ σ s → ∃ T id, typeLookup (.type T) "__getitem__" = pure (some (.builtin id)) ∧ s.TypeIs v T ∧
    ∀ sl, s.heap.IsSliceOf sl vl vu .none → wpAny (model pw f.w) f.A (getItem v (.ref sl)) (PV f ρ VR Φ) (PE f Ψ) s
noncomputable abbrev KS3 (f : Fm) (Φ : AV → St → Prop) (Ψ : Value → Prop) (a : AV) (l u : Option Int) (σ₃ : St) : Prop := SlcOp f a l u σ₃ Φ Ψ
noncomputable abbrev KS2 (f : Fm) (hi : Option Expr) (env : Env) (Φ : AV → St → Prop) (Ψ : Value → Prop) (a : AV) (l : Option Int) (σ₂ : St) : Prop := Tp f hi env σ₂ (KS3 f Φ Ψ a l) Ψ
noncomputable abbrev KS1 (f : Fm) (lo hi : Option Expr) (env : Env) (Φ : AV → St → Prop) (Ψ : Value → Prop) (a : AV) (σ₁ : St) : Prop := Tp f lo env σ₁ (KS2 f hi env Φ Ψ a) Ψ
theorem e_slice {value : Expr} {lo hi : Option Expr} {p pos : Pos} {Φ : AV → St → Prop}
    (h : Ev f value env σ (KS1 f lo hi env Φ Ψ) Ψ) : Ev f (.Subscript value (.Slice lo hi none p) pos) env σ Φ Ψ := fun ρ s r => by
  show wpAny _ _ (eval (.Subscript value (.Slice lo hi none p) pos) env) _ _ s
  rw [eval_Subscript]
  refine wpAny_bind (wpAny_mono (h ρ s r) (fun o s₁ qq4 => qq4.elim fun ρ₁ a σ₁ p1 r1 v1 h1 => wpAny_bind (wpAny_holding (wpAny_mono (wpAny_Slice
    (Q := fun i s' => ∃ ρ₃ σ₃ l u vl vu, ρ <+: ρ₃ ∧ Rep f ρ₃ σ₃ s' ∧ VR ρ₃ o a ∧ partV l vl ∧ partV u vu ∧ SlcOp f a l u σ₃ Φ Ψ ∧ ∃ sl, i = .ref sl ∧ s'.heap.IsSliceOf sl vl vu .none)
    (wpAny_mono (h1 ρ₁ _ r1) (fun vl s₂ qq5 => qq5.elim fun ρ₂ l σ₂ p2 r2 v2 h2 => wpAny_mono (h2 ρ₂ _ r2) (fun vu s₃ qq6 => qq6.elim fun ρ₃ u σ₃ p3 r3 v3 h3 => ?_) fun _ _ q => q) fun _ _ q => q)) (fun i s' q => ?_) fun _ _ q => q))) fun _ _ q => q)
  · rw [evalPart_none]
    exact wpAny_pure ⟨ρ₃, σ₃, l, u, vl, vu, (p1.trans p2).trans p3, r3.push (tk := s₃.toks), v1.mono (p2.trans p3), v2, v3, h3, _, rfl, Heap.IsSliceOf.new ..⟩
  · obtain ⟨ρ₃, σ₃, l, u, vl, vu, p3, r3, v1', v2, v3, h3, sl, rfl, hsl⟩ := q
    obtain ⟨T, id, hl, hT, hop⟩ := h3 ρ₃ o vl vu v1' v2 v3 s' r3
    refine wpAny_bind (wpAny_standAt ?_)
    have fin : wpAny (model pw f.w) f.A (operate [.ref sl, o] (getItem o (.ref sl))) (fun r s₃ => wpAny (model pw f.w) f.A (letTemporaryGo value o r >>= fun _ => pure r) (PV f ρ VR Φ) (PE f Ψ) s₃) (PE f Ψ) s' :=
      wpAny_operating (wpAny_mono (hop sl hsl) (fun r s₃ h₃ => wpAny_bind (wpAny_letTemporaryGo (wpAny_pure (PV.mono p3 h₃)))) fun _ _ x => x)
    refine wpAny_bind ?_
    rw [getitemInPython_of_ne hT.not_modules]
    refine wpAny_bind (wpAny_specialOf hT hl ?_)
    first
      | exact wpAny_pure (wpAny_bind fin)
      | exact wpAny_bind (wpAny_pure (wpAny_bind fin))
      | exact wpAny_bind fin

theorem s_bytes {b : List UInt8} {lo hi : Option Int} {Φ : AV → St → Prop} (hsz : b.length ≤ 16777216) (h : Φ (.bytes (cut b lo hi)) σ) : SlcOp f (.bytes b) lo hi σ Φ Ψ := by
  rintro ρ v vl vu ⟨t, rfl⟩ hl hu s r
  refine ⟨"bytes", _, FB.slot_bytes_getitem.lookup, typeIs_bytes _ _ _, fun sl hsl => ?_⟩
  refine getItem_meets (typeIs_bytes _ _ _) (by decide) FB.slot_bytes_getitem FB.entry_bytes_getitem (FB.args_bytes_getitem_2 _ _) (KBc.meets_slice2 b.toArray t sl hl.isPart hu.isPart) ⟨hsl, ?_, fun t' k => ?_⟩
  · exact Nat.le_trans (KBc.size_picked_le _ _ _) (by rw [sizeLine_eq]; simpa using hsz)
  · rw [KBc.picked_eq]
    have := pv (Φ := Φ) (R := VR) (v := .bytes (cut b lo hi).toArray t') (r.tk (tk := k)) vr_bytes h
    simpa [cut] using this
theorem strIdx_plain (lo hi : Option Int) (n : Nat) : Builtin.Str.strSliceIndices lo hi 1 n = sliceRange ((lo.elim 0 (clipAt n) : Nat) : Int) ((hi.elim n (clipAt n) : Nat) : Int) 1 := by
  have h := sliceBounds_plain lo hi n
  have h1 := congrArg Prod.fst h
  have h2 := congrArg (fun x => x.2.1) h
  unfold Builtin.Str.strSliceIndices
  unfold sliceBounds at h1 h2
  simp only [Option.getD_none] at h1 h2
  dsimp only at h1 h2 ⊢
  rw [← h1, ← h2]
  cases lo <;> cases hi <;> rfl
theorem clip_le (n : Nat) (i : Int) : clipAt n i ≤ n :=
  Int.toNat_le.mpr (Int.max_le.mpr ⟨Int.natCast_nonneg _, Int.min_le_right _ _⟩)
theorem sliceMade_post {M : Made} {x : Str} {t : Tok} {lo hi : Option Int} {l u : Option (Int × Tok)} (hl : l.map (·.1) = lo) (hu : u.map (·.1) = hi) (hsz : x.length ≤ 16777216) {Q : Value → Shared → Prop}
    (h : ∀ t' k, Q (.str ⟨(cut x.cps.toList lo hi).toArray⟩ t') { s with toks := k }) : (sliceMade x t l u none).post Q s := by
  have hp : slicePicked x l u none = sliceRange ((lo.elim 0 (clipAt x.length) : Nat) : Int) ((hi.elim x.length (clipAt x.length) : Nat) : Int) 1 := by
    unfold slicePicked
    rw [hl, hu]
    exact strIdx_plain _ _ _
  have hc : (slicePicked x l u none).filterMap (x.cps[·]?) = cut x.cps.toList lo hi := by
    rw [hp, sliceRange_one, pick_run]
    unfold cut
    simp only [Array.length_toList]
    rfl
  unfold sliceMade
  by_cases q : (((none : Option (Int × Tok)).map (·.1)).getD 1 == 1 && (slicePicked x l u none).length == x.length) = true
  · rw [if_pos q]
    have e : cut x.cps.toList lo hi = x.cps.toList := by
      rw [← hc]
      have hlen : (slicePicked x l u none).length = x.length := by simpa using q
      rw [hp] at hlen ⊢
      rw [sliceRange_one] at hlen ⊢
      rw [pick_run]
      have h3 : (hi.elim x.length (clipAt x.length)) - (lo.elim 0 (clipAt x.length)) = x.length := by simpa using hlen
      have h4 : hi.elim x.length (clipAt x.length) ≤ x.length := by
        cases hi with
        | none => exact Nat.le_refl _
        | some i => exact clip_le _ _
      rw [h3]
      by_cases h5 : x.length = 0
      · have : x.cps.toList = [] := List.eq_nil_of_length_eq_zero (by simpa [Str.length] using h5)
        rw [this]; simp
      · have h6 : lo.elim 0 (clipAt x.length) = 0 := by (first | lia | omega)
        rw [h6, List.drop_zero, List.take_of_length_le (by simp [Str.length])]
    have h' := h t s.toks
    rw [e] at h'
    simpa [Made.post] using h'
  · rw [if_neg q, hc]
    refine ⟨?_, h _ _⟩
    show (cut x.cps.toList lo hi).toArray.size ≤ sizeLine
    rw [List.size_toArray, sizeLine_eq]
    refine Nat.le_trans ?_ hsz
    unfold cut
    rw [List.length_take, List.length_drop, Array.length_toList]
    show min _ (x.cps.size - _) ≤ x.cps.size
    (first | lia | omega)
theorem partV.split {i : Option Int} {v : Value} (h : partV i v) : ∃ l : Option (Int × Tok), v = partValue l ∧ l.map (·.1) = i := by
  cases i with
  | none => obtain rfl : v = .none := h; exact ⟨none, rfl, rfl⟩
  | some i => obtain ⟨t, rfl⟩ := h; exact ⟨some (i, t), rfl, rfl⟩
theorem s_str {b : List Nat} {lo hi : Option Int} {Φ : AV → St → Prop} (hsz : b.length ≤ 16777216) (h : Φ (.str (cut b lo hi)) σ) : SlcOp f (.str b) lo hi σ Φ Ψ := by
  rintro ρ v vl vu ⟨t, rfl⟩ hl hu s r
  obtain ⟨l, rfl, hl1⟩ := hl.split
  obtain ⟨u, rfl, hu1⟩ := hu.split
  refine ⟨"str", _, F.slot_str_getitem.lookup, typeIs_str _ _ _, fun sl hsl => ?_⟩
  refine wpAny_getItem_str_slice (l := l) (u := u) (st := none) hsl rfl ?_
  refine sliceMade_post (M := .int 0) hl1 hu1 (by simpa [Str.length] using hsz) fun t' k => ?_
  have := pv (Φ := Φ) (R := VR) (v := .str ⟨(cut b lo hi).toArray⟩ t') (r.tk (tk := k)) vr_str h
  simpa using this
theorem vrs_cut {vs : Array Value} {xs : List AV} (h : VRs ρ vs.toList xs) (lo hi : Option Int) : VRs ρ (slicePick vs lo hi none).toList (cut xs lo hi) := by
  rw [slicePick_plain]
  unfold cut
  have e : vs.size = xs.length := by rw [← paired_length h]; simp
  rw [e]
  have take : ∀ {l : List Value} {m : List AV} (k : Nat), VRs ρ l m → VRs ρ (l.take k) (m.take k) := by
    intro l m k h
    induction h generalizing k with
    | nil => simp; exact .nil
    | cons x _ ih => cases k with
      | zero => exact .nil
      | succ k => exact .cons x (ih k)
  have drop : ∀ {l : List Value} {m : List AV} (k : Nat), VRs ρ l m → VRs ρ (l.drop k) (m.drop k) := by
    intro l m k h
    induction h generalizing k with
    | nil => simp; exact .nil
    | cons x r ih => cases k with
      | zero => exact .cons x r
      | succ k => exact ih k
  exact take _ (drop _ h)
theorem s_list {j : Nat} {xs : List AV} {lo hi : Option Int} {Φ : AV → St → Prop} (hj : ListAt σ j xs) (hsz : xs.length ≤ 16777216) (h : Φ (.ref σ.mem.length) (σ.new (.list (cut xs lo hi)))) : SlcOp f (.ref j) lo hi σ Φ Ψ := by
  rintro ρ v vl vu hv hl hu s r
  obtain ⟨a, vs, k, rfl, ha, hh, hvs⟩ := r.listAt hj hv
  have hlist : s.heap.IsList a vs := ⟨_, hh, rfl, k, rfl⟩
  refine ⟨"list", _, list_getitem_lookup, hlist.typeIs, fun sl hsl => ?_⟩
  refine wpAny_getItem_list_slice hlist hsl hl.isPart hu.isPart .none (by simp) ?_ (by rw [sizeLine_eq]; have := paired_length hvs; simp at this; (first | lia | omega))
  exact pv_new (tk := s.toks) (o := .list (cut xs lo hi)) r ⟨slicePick vs lo hi none, _, rfl, vrs_cut hvs lo hi⟩ h
end
end Mine

/- # B1 -/
namespace Mine
open PySem PySem.Calls PyProof.Rows PySem.W
namespace BF

theorem owner_bytes : Manifest.owners.lookup (String.ofList ['s', 'e', 't', 'y', 'b'].reverse) = some Manifest.sig_bytes := by kernel_rfl
theorem owner_bytearray : Manifest.owners.lookup (String.ofList ['y', 'a', 'r', 'r', 'a', 'e', 't', 'y', 'b'].reverse) = some Manifest.sig_bytearray := by kernel_rfl
theorem slot_bytes_split : Slot "bytes" "split" "bytes.split" :=
  .of (owner := "bytes") (n := "split") (by rw [typeLookup_type, builtinLookup_eq_fast]; kernel_rfl) (by decide +kernel) (by decide +kernel) (by decide +kernel)
    (by first | exact .inl (by decide +kernel) | exact .inr (by decide +kernel)) (by rw [isSubtype_type]; kernel_rfl)
theorem type_bytes_split : typeOf (.builtin "bytes.split") = pure (.type "method_descriptor") := by show builtinType _ = _; rw [builtinType_eq_fast]; kernel_rfl
theorem entry_bytes_split : entryFor table "bytes.split" = some Builtin.«bytes.split» := entryFor_of_tree (by kernel_rfl)
theorem args_bytes_split_2 (a b : Value) : argsOk "bytes.split" ⟨[a, b], []⟩ := by
  unfold argsOk; rw [signature?_of (id := "bytes.split") (n := ['t', 'i', 'l', 'p', 's']) (o := ['s', 'e', 't', 'y', 'b']) (by kernel_rfl) owner_bytes]; kernel_rfl
theorem slot_bytes_join : Slot "bytes" "join" "bytes.join" :=
  .of (owner := "bytes") (n := "join") (by rw [typeLookup_type, builtinLookup_eq_fast]; kernel_rfl) (by decide +kernel) (by decide +kernel) (by decide +kernel)
    (by first | exact .inl (by decide +kernel) | exact .inr (by decide +kernel)) (by rw [isSubtype_type]; kernel_rfl)
theorem type_bytes_join : typeOf (.builtin "bytes.join") = pure (.type "method_descriptor") := by show builtinType _ = _; rw [builtinType_eq_fast]; kernel_rfl
theorem entry_bytes_join : entryFor table "bytes.join" = some Builtin.«bytes.join» := entryFor_of_tree (by kernel_rfl)
theorem args_bytes_join_2 (a b : Value) : argsOk "bytes.join" ⟨[a, b], []⟩ := by
  unfold argsOk; rw [signature?_of (id := "bytes.join") (n := ['n', 'i', 'o', 'j']) (o := ['s', 'e', 't', 'y', 'b']) (by kernel_rfl) owner_bytes]; kernel_rfl
theorem slot_bytes_find : Slot "bytes" "find" "bytes.find" :=
  .of (owner := "bytes") (n := "find") (by rw [typeLookup_type, builtinLookup_eq_fast]; kernel_rfl) (by decide +kernel) (by decide +kernel) (by decide +kernel)
    (by first | exact .inl (by decide +kernel) | exact .inr (by decide +kernel)) (by rw [isSubtype_type]; kernel_rfl)
theorem type_bytes_find : typeOf (.builtin "bytes.find") = pure (.type "method_descriptor") := by show builtinType _ = _; rw [builtinType_eq_fast]; kernel_rfl
theorem entry_bytes_find : entryFor table "bytes.find" = some Builtin.«bytes.find» := entryFor_of_tree (by kernel_rfl)
theorem args_bytes_find_2 (a b : Value) : argsOk "bytes.find" ⟨[a, b], []⟩ := by
  unfold argsOk; rw [signature?_of (id := "bytes.find") (n := ['d', 'n', 'i', 'f']) (o := ['s', 'e', 't', 'y', 'b']) (by kernel_rfl) owner_bytes]; kernel_rfl
theorem slot_bytes_rfind : Slot "bytes" "rfind" "bytes.rfind" :=
  .of (owner := "bytes") (n := "rfind") (by rw [typeLookup_type, builtinLookup_eq_fast]; kernel_rfl) (by decide +kernel) (by decide +kernel) (by decide +kernel)
    (by first | exact .inl (by decide +kernel) | exact .inr (by decide +kernel)) (by rw [isSubtype_type]; kernel_rfl)
theorem type_bytes_rfind : typeOf (.builtin "bytes.rfind") = pure (.type "method_descriptor") := by show builtinType _ = _; rw [builtinType_eq_fast]; kernel_rfl
theorem entry_bytes_rfind : entryFor table "bytes.rfind" = some Builtin.«bytes.rfind» := entryFor_of_tree (by kernel_rfl)
theorem args_bytes_rfind_2 (a b : Value) : argsOk "bytes.rfind" ⟨[a, b], []⟩ := by
  unfold argsOk; rw [signature?_of (id := "bytes.rfind") (n := ['d', 'n', 'i', 'f', 'r']) (o := ['s', 'e', 't', 'y', 'b']) (by kernel_rfl) owner_bytes]; kernel_rfl
theorem slot_bytes_isdigit : Slot "bytes" "isdigit" "bytes.isdigit" :=
  .of (owner := "bytes") (n := "isdigit") (by rw [typeLookup_type, builtinLookup_eq_fast]; kernel_rfl) (by decide +kernel) (by decide +kernel) (by decide +kernel)
    (by first | exact .inl (by decide +kernel) | exact .inr (by decide +kernel)) (by rw [isSubtype_type]; kernel_rfl)
theorem type_bytes_isdigit : typeOf (.builtin "bytes.isdigit") = pure (.type "method_descriptor") := by show builtinType _ = _; rw [builtinType_eq_fast]; kernel_rfl
theorem entry_bytes_isdigit : entryFor table "bytes.isdigit" = some Builtin.«bytes.isdigit» := entryFor_of_tree (by kernel_rfl)
theorem args_bytes_isdigit_1 (a : Value) : argsOk "bytes.isdigit" ⟨[a], []⟩ := by
  unfold argsOk; rw [signature?_of (id := "bytes.isdigit") (n := ['t', 'i', 'g', 'i', 'd', 's', 'i']) (o := ['s', 'e', 't', 'y', 'b']) (by kernel_rfl) owner_bytes]; kernel_rfl
theorem slot_bytes_lower : Slot "bytes" "lower" "bytes.lower" :=
  .of (owner := "bytes") (n := "lower") (by rw [typeLookup_type, builtinLookup_eq_fast]; kernel_rfl) (by decide +kernel) (by decide +kernel) (by decide +kernel)
    (by first | exact .inl (by decide +kernel) | exact .inr (by decide +kernel)) (by rw [isSubtype_type]; kernel_rfl)
theorem type_bytes_lower : typeOf (.builtin "bytes.lower") = pure (.type "method_descriptor") := by show builtinType _ = _; rw [builtinType_eq_fast]; kernel_rfl
theorem entry_bytes_lower : entryFor table "bytes.lower" = some Builtin.«bytes.lower» := entryFor_of_tree (by kernel_rfl)
theorem args_bytes_lower_1 (a : Value) : argsOk "bytes.lower" ⟨[a], []⟩ := by
  unfold argsOk; rw [signature?_of (id := "bytes.lower") (n := ['r', 'e', 'w', 'o', 'l']) (o := ['s', 'e', 't', 'y', 'b']) (by kernel_rfl) owner_bytes]; kernel_rfl
theorem slot_bytearray_append : Slot "bytearray" "append" "bytearray.append" :=
  .of (owner := "bytearray") (n := "append") (by rw [typeLookup_type, builtinLookup_eq_fast]; kernel_rfl) (by decide +kernel) (by decide +kernel) (by decide +kernel)
    (by first | exact .inl (by decide +kernel) | exact .inr (by decide +kernel)) (by rw [isSubtype_type]; kernel_rfl)
theorem type_bytearray_append : typeOf (.builtin "bytearray.append") = pure (.type "method_descriptor") := by show builtinType _ = _; rw [builtinType_eq_fast]; kernel_rfl
theorem entry_bytearray_append : entryFor table "bytearray.append" = some Builtin.«bytearray.append» := entryFor_of_tree (by kernel_rfl)
theorem args_bytearray_append_2 (a b : Value) : argsOk "bytearray.append" ⟨[a, b], []⟩ := by
  unfold argsOk; rw [signature?_of (id := "bytearray.append") (n := ['d', 'n', 'e', 'p', 'p', 'a']) (o := ['y', 'a', 'r', 'r', 'a', 'e', 't', 'y', 'b']) (by kernel_rfl) owner_bytearray]; kernel_rfl

end BF
end Mine

/- # B2 -/
namespace Mine
open PySem PySem.Calls PyProof.Rows PySem.W Builtin
namespace BM
variable {b c : Array UInt8} {t u : Tok}


theorem window_eq (n : Nat) : Bytes.window n none none = (0, (n : Int)) := by
  unfold Bytes.window
  simp only [Option.getD_none]
  have h : ¬ ((n : Int) < 0) := by (first | lia | omega)
  rw [if_neg h]
  simp

noncomputable def rawFind (b c : Array UInt8) : Option Nat := if (b.size : Int) < c.size then none else Bytes.find? b c 0 b.size
noncomputable def rawRfind (b c : Array UInt8) : Option Nat := if (b.size : Int) < c.size then none else Bytes.rfind? b c 0 b.size
noncomputable def optInt (o : Option Nat) : Int := match o with | some i => (i : Int) | none => -1

/- does c stand at b's end, start -/
noncomputable def rawEnds (b c : Array UInt8) : Bool := if (b.size : Int) < c.size then false else b.extract (b.size - c.size) b.size == c
noncomputable def rawStarts (b c : Array UInt8) : Bool := if (b.size : Int) < c.size then false else b.extract 0 (0 + c.size) == c

theorem notTuple_bytes : isInstance (.bytes c u) (.type "tuple") = pure false := by
  have e : isInstance (.bytes c u) (.type "tuple") = isSubtype (.type "bytes") (.type "tuple") := rfl
  rw [e, isSubtype_type]; kernel_rfl
theorem gives_find : Gives («bytes.find» ⟨[.bytes b t, .bytes c u], []⟩) (.int (optInt (rawFind b c))) := by
  refine .of_wp fun M A E s Q h => ?_
  unfold «bytes.find» Bytes.searchM
  refine wpAny_bind ?_
  show wpAny M A (Bytes.buffer? _ (.bytes c u) >>= fun r => _) _ E s
  refine wpAny_bind (wpAny_of_eq KBy.buffer_eq ?_)
  refine wpAny_pure ?_
  have h0 : ¬ ((b.size : Int) < 0) := by (first | lia | omega)
  have h1 : Min.min (b.size : Int) (b.size : Int) = (b.size : Int) := by simp
  simp only [Option.getD_none, if_neg h0, Int.lt_irrefl, if_false, h1, Int.sub_zero, Bool.false_eq_true, if_true, Int.toNat_zero, Int.toNat_natCast]
  unfold rawFind at h
  by_cases q : (b.size : Int) < c.size
  · rw [if_pos q] at h
    simp only [if_pos q, Option.bind_none]
    exact wpAny_bind (wpAny_rule (wpAny_bind (wpAny_mkInt (wpAny_pure ⟨_, rfl, h⟩))))
  · rw [if_neg q] at h
    simp only [if_neg q, Option.bind_some]
    cases w : Bytes.find? b c 0 b.size with
    | some i =>
      rw [w] at h
      exact wpAny_bind (wpAny_mkInt (wpAny_pure ⟨_, rfl, h⟩))
    | none =>
      rw [w] at h
      exact wpAny_bind (wpAny_rule (wpAny_bind (wpAny_mkInt (wpAny_pure ⟨_, rfl, h⟩))))
theorem gives_rfind : Gives («bytes.rfind» ⟨[.bytes b t, .bytes c u], []⟩) (.int (optInt (rawRfind b c))) := by
  refine .of_wp fun M A E s Q h => ?_
  unfold «bytes.rfind» Bytes.searchM
  refine wpAny_bind ?_
  show wpAny M A (Bytes.buffer? _ (.bytes c u) >>= fun r => _) _ E s
  refine wpAny_bind (wpAny_of_eq KBy.buffer_eq ?_)
  refine wpAny_pure ?_
  have h0 : ¬ ((b.size : Int) < 0) := by (first | lia | omega)
  have h1 : Min.min (b.size : Int) (b.size : Int) = (b.size : Int) := by simp
  simp only [Option.getD_none, if_neg h0, Int.lt_irrefl, if_false, h1, Int.sub_zero, Bool.false_eq_true, if_true, Int.toNat_zero, Int.toNat_natCast]
  unfold rawRfind at h
  by_cases q : (b.size : Int) < c.size
  · rw [if_pos q] at h
    simp only [if_pos q, Option.bind_none]
    exact wpAny_bind (wpAny_rule (wpAny_bind (wpAny_mkInt (wpAny_pure ⟨_, rfl, h⟩))))
  · rw [if_neg q] at h
    simp only [if_neg q, Option.bind_some]
    cases w : Bytes.rfind? b c 0 b.size with
    | some i =>
      rw [w] at h
      exact wpAny_bind (wpAny_mkInt (wpAny_pure ⟨_, rfl, h⟩))
    | none =>
      rw [w] at h
      exact wpAny_bind (wpAny_rule (wpAny_bind (wpAny_mkInt (wpAny_pure ⟨_, rfl, h⟩))))
theorem gives_ends : Gives («bytes.endswith» ⟨[.bytes b t, .bytes c u], []⟩) (.val (.bool (rawEnds b c))) := by
  refine .of_wp fun M A E s Q h => ?_
  unfold «bytes.endswith» Bytes.tailMatchM
  show wpAny M A (isInstance (.bytes c u) (.type "tuple") >>= fun r => _) _ E s
  refine wpAny_bind (wpAny_of_eq notTuple_bytes ?_)
  show wpAny M A (Bytes.buffer? _ (.bytes c u) >>= fun r => _) _ E s
  refine wpAny_bind (wpAny_of_eq KBy.buffer_eq ?_)
  refine wpAny_pure ⟨_, rfl, ?_⟩
  have key : rawEnds b c = (if (Bytes.window b.size none none).2 - (Bytes.window b.size none none).1 < c.size then false else if true = true then b.extract ((Bytes.window b.size none none).2.toNat - c.size) (Bytes.window b.size none none).2.toNat == c else b.extract (Bytes.window b.size none none).1.toNat ((Bytes.window b.size none none).1.toNat + c.size) == c) := by
    rw [window_eq, Int.sub_zero]; rfl
  rw [key] at h
  exact h
theorem gives_starts : Gives («bytes.startswith» ⟨[.bytes b t, .bytes c u], []⟩) (.val (.bool (rawStarts b c))) := by
  refine .of_wp fun M A E s Q h => ?_
  unfold «bytes.startswith» Bytes.tailMatchM
  show wpAny M A (isInstance (.bytes c u) (.type "tuple") >>= fun r => _) _ E s
  refine wpAny_bind (wpAny_of_eq notTuple_bytes ?_)
  show wpAny M A (Bytes.buffer? _ (.bytes c u) >>= fun r => _) _ E s
  refine wpAny_bind (wpAny_of_eq KBy.buffer_eq ?_)
  refine wpAny_pure ⟨_, rfl, ?_⟩
  have key : rawStarts b c = (if (Bytes.window b.size none none).2 - (Bytes.window b.size none none).1 < c.size then false else if false = true then b.extract ((Bytes.window b.size none none).2.toNat - c.size) (Bytes.window b.size none none).2.toNat == c else b.extract (Bytes.window b.size none none).1.toNat ((Bytes.window b.size none none).1.toNat + c.size) == c) := by
    rw [window_eq, Int.sub_zero]; rfl
  rw [key] at h
  exact h
theorem gives_isdigit : Gives («bytes.isdigit» ⟨[.bytes b t], []⟩) (.val (.bool (Bytes.allOf Bytes.isDigit b.toList))) := .of_eq rfl
theorem gives_lower : Gives («bytes.lower» ⟨[.bytes b t], []⟩) (.bytes (b.toList.map Bytes.toLower).toArray) := .of_eq rfl

end BM
end Mine

/- # F10 -/
namespace Mine
open PySem PySem.Calls PyProof.Rows PySem.W

section
variable {f : Fm} {env : Env} {n : Nat} {Ψ : Value → Prop} {ρ : List Addr} {σ : St} {s : Shared} {Φ : AV → St → Prop}

theorem vrs1 {vs : List Value} {a : AV} (h : VRs ρ vs [a]) : ∃ v, vs = [v] ∧ VR ρ v a := by
  cases h with | cons h1 h2 => cases h2; exact ⟨_, rfl, h1⟩
theorem vrs2 {vs : List Value} {a b : AV} (h : VRs ρ vs [a, b]) : ∃ v u, vs = [v, u] ∧ VR ρ v a ∧ VR ρ u b := by
  cases h with | cons h1 h2 => obtain ⟨u, rfl, h3⟩ := vrs1 h2; exact ⟨_, _, rfl, h1, h3⟩
theorem vrs3 {vs : List Value} {a b c : AV} (h : VRs ρ vs [a, b, c]) : ∃ v u w, vs = [v, u, w] ∧ VR ρ v a ∧ VR ρ u b ∧ VR ρ w c := by
  cases h with | cons h1 h2 => obtain ⟨u, w, rfl, h3⟩ := vrs2 h2; exact ⟨_, _, _, rfl, h1, h3⟩
/- ## ints -/
theorem o_add_int {a b : Int} (h : Φ (.int (a + b)) σ) : Op2 f (binaryOp .Add) VR (.int a) (.int b) σ Φ Ψ := by
  rintro ρ _ _ ⟨t, rfl⟩ ⟨u, rfl⟩ s r; exact P.add_int (pv r.tk vr_int h)
theorem o_iadd_int {a b : Int} (h : Φ (.int (a + b)) σ) : Op2 f (inplaceOp .Add) VR (.int a) (.int b) σ Φ Ψ := by
  rintro ρ _ _ ⟨t, rfl⟩ ⟨u, rfl⟩ s r; exact P.iadd_int (pv r.tk vr_int h)
theorem o_sub_int {a b : Int} (h : Φ (.int (a - b)) σ) : Op2 f (binaryOp .Sub) VR (.int a) (.int b) σ Φ Ψ := by
  rintro ρ _ _ ⟨t, rfl⟩ ⟨u, rfl⟩ s r; exact P.sub_int (pv r.tk vr_int h)
theorem o_mul_int {a b : Int} (hm : IntMulOk a b) (h : Φ (.int (a * b)) σ) : Op2 f (binaryOp .Mult) VR (.int a) (.int b) σ Φ Ψ := by
  rintro ρ _ _ ⟨t, rfl⟩ ⟨u, rfl⟩ s r; exact P.mul_int (pv r.tk vr_int h) hm
theorem o_neg_int {a : Int} (h : Φ (.int (-a)) σ) : Op1 f (unaryOp .USub) VR (.int a) σ Φ Ψ := by
  rintro ρ _ ⟨t, rfl⟩ s r; exact P.neg_int (pv r.tk vr_int h)
theorem o_eq_int {a b : Int} {Φ : AV → St → Prop} (h : Φ (.bool (a == b)) σ) : Op2 f (compareOp .Eq) VR (.int a) (.int b) σ Φ Ψ := by
  rintro ρ _ _ ⟨t, rfl⟩ ⟨u, rfl⟩ s r; exact P.eq_int (pv r vr_bool h)
theorem o_ne_int {a b : Int} (h : Φ (.bool (a != b)) σ) : Op2 f (compareOp .NotEq) VR (.int a) (.int b) σ Φ Ψ := by
  rintro ρ _ _ ⟨t, rfl⟩ ⟨u, rfl⟩ s r; exact P.ne_int (pv r vr_bool h)
theorem o_lt_int {a b : Int} (h : Φ (.bool (decide (a < b))) σ) : Op2 f (compareOp .Lt) VR (.int a) (.int b) σ Φ Ψ := by
  rintro ρ _ _ ⟨t, rfl⟩ ⟨u, rfl⟩ s r; exact P.lt_int (pv r vr_bool h)
theorem o_le_int {a b : Int} (h : Φ (.bool (decide (a ≤ b))) σ) : Op2 f (compareOp .LtE) VR (.int a) (.int b) σ Φ Ψ := by
  rintro ρ _ _ ⟨t, rfl⟩ ⟨u, rfl⟩ s r; exact P.le_int (pv r vr_bool h)
theorem o_gt_int {a b : Int} (h : Φ (.bool (decide (b < a))) σ) : Op2 f (compareOp .Gt) VR (.int a) (.int b) σ Φ Ψ := by
  rintro ρ _ _ ⟨t, rfl⟩ ⟨u, rfl⟩ s r; exact P.gt_int (pv r vr_bool h)
theorem o_ge_int {a b : Int} (h : Φ (.bool (decide (b ≤ a))) σ) : Op2 f (compareOp .GtE) VR (.int a) (.int b) σ Φ Ψ := by
  rintro ρ _ _ ⟨t, rfl⟩ ⟨u, rfl⟩ s r; exact P.ge_int (pv r vr_bool h)

theorem Rep.room (r : Rep f ρ σ s) (hf : FmOk f env n) (hn : 1 ≤ n) : PySem.PylongRoom (model pw f.w) f.A s := by
  obtain ⟨mg, mb, G⟩ := hf.g
  obtain ⟨loose, mean, T⟩ := G.top
  have h1 := hf.depth
  have hl : s.heap.NoLimit := T.nolimit.keeps (r.stays hf)
  have hs : s.heap.NoSeer := (Top.seer T (by decide +kernel)).keeps (r.stays hf)
  refine PySem.PylongRoom.of hl ?_ (SeerAt.of hs rfl hf.frames hf.fe.1 hf.fe.2.1 hf.fe.2.2.1 hf.fe.2.2.2)
  show f.A.depth + 100 < 1000
  (first | lia | omega)
theorem o_div_int {a b : Int} (hf : FmOk f env n) (hn : 1 ≤ n) (hb : b ≠ 0) (h : Φ (.int (a.fdiv b)) σ) : Op2 f (binaryOp .FloorDiv) VR (.int a) (.int b) σ Φ Ψ := by
  rintro ρ _ _ ⟨t, rfl⟩ ⟨u, rfl⟩ s r; exact floordiv_int hb (pv r.tk vr_int h) (.inr (r.room hf hn))
theorem o_mod_int {a b : Int} (hb : b ≠ 0) (h : Φ (.int (a.fmod b)) σ) : Op2 f (binaryOp .Mod) VR (.int a) (.int b) σ Φ Ψ := by
  rintro ρ _ _ ⟨t, rfl⟩ ⟨u, rfl⟩ s r; exact mod_int' hb (pv r.tk vr_int h)
theorem o_truthy_bool {b : Bool} {Φ : Bool → St → Prop} (h : Φ b σ) : Op1 f truthy BR (.bool b) σ Φ Ψ := by
  rintro ρ v hv s r
  have q : v = .bool b := hv
  subst q
  exact wpAny_truthy_bool (pv r rfl h)

/- ## str -/
theorem str_len (l : List Nat) : (⟨l.toArray⟩ : Str).length = l.length := by simp [Str.length]
theorem o_add_str {a b : List Nat} (hsz : a.length + b.length ≤ 16777216) (h : Φ (.str (a ++ b)) σ) : Op2 f (binaryOp .Add) VR (.str a) (.str b) σ Φ Ψ := by
  rintro ρ _ _ ⟨t, rfl⟩ ⟨u, rfl⟩ s r
  refine PyProof.Rows.add_str (fun t' k => ?_) (by rw [str_len, str_len, sizeLine_eq]; exact hsz)
  have e : (⟨a.toArray⟩ : Str) ++ (⟨b.toArray⟩ : Str) = ⟨(a ++ b).toArray⟩ := by show Str.append _ _ = _; simp [Str.append]
  rw [e]
  exact pv r.tk vr_str h
theorem o_eq_str {a b : List Nat} (h : Φ (.bool (a == b)) σ) : Op2 f (compareOp .Eq) VR (.str a) (.str b) σ Φ Ψ := by
  rintro ρ _ _ ⟨t, rfl⟩ ⟨u, rfl⟩ s r
  exact P.eq_str (pv r vr_bool h)
theorem o_ne_str {a b : List Nat} (h : Φ (.bool (a != b)) σ) : Op2 f (compareOp .NotEq) VR (.str a) (.str b) σ Φ Ψ := by
  rintro ρ _ _ ⟨t, rfl⟩ ⟨u, rfl⟩ s r
  exact P.ne_str (pv r vr_bool h)
noncomputable def occ (x y : List Nat) : Bool := !(Builtin.Str.occurrences ⟨x.toArray⟩ ⟨y.toArray⟩ 0 x.length 1).isEmpty
theorem o_in_str {a b : List Nat} (h : Φ (.bool (occ b a)) σ) : Op2 f (compareOp .In) VR (.str a) (.str b) σ Φ Ψ := by
  rintro ρ _ _ ⟨t, rfl⟩ ⟨u, rfl⟩ s r
  refine PyProof.Rows.in_str ?_
  rw [str_len]
  exact pv r vr_bool h
theorem o_notin_str {a b : List Nat} (h : Φ (.bool (!occ b a)) σ) : Op2 f (compareOp .NotIn) VR (.str a) (.str b) σ Φ Ψ := by
  rintro ρ _ _ ⟨t, rfl⟩ ⟨u, rfl⟩ s r
  refine PyProof.Rows.notIn_str ?_
  rw [str_len]
  exact pv r vr_bool h
theorem o_len_str {a : List Nat} (hsz : a.length ≤ 16777216) (h : Φ (.int a.length) σ) : OpN f (fun vs => call (.builtin "len") vs) VR [.str a] σ Φ Ψ := by
  intro ρ vs hv s r
  obtain ⟨_, rfl, t, rfl⟩ := vrs1 hv
  refine PyProof.Rows.len_str (by rw [str_len]; (first | lia | omega)) ?_
  rw [str_len]
  exact pv r.tk vr_int h
theorem o_truthy_str {a : List Nat} {Φ : Bool → St → Prop} (hsz : a.length ≤ 16777216) (h : Φ (a.length != 0) σ) : Op1 f truthy BR (.str a) σ Φ Ψ := by
  rintro ρ _ ⟨t, rfl⟩ s r
  refine P.truthy_str (by rw [str_len]; (first | lia | omega)) ?_
  rw [str_len]
  refine pv r.tk ?_ h
  show _ = _
  cases a <;> rfl

/- ## bytes -/
theorem o_add_bytes {a b : List UInt8} (hsz : a.length + b.length ≤ 16777216) (h : Φ (.bytes (a ++ b)) σ) : Op2 f (binaryOp .Add) VR (.bytes a) (.bytes b) σ Φ Ψ := by
  rintro ρ _ _ ⟨t, rfl⟩ ⟨u, rfl⟩ s r
  refine KBy.add_bytes (by simpa using hsz) (fun t' k => ?_)
  rw [List.append_toArray]
  exact pv r.tk vr_bytes h
theorem o_eq_bytes {a b : List UInt8} (h : Φ (.bool (a == b)) σ) : Op2 f (compareOp .Eq) VR (.bytes a) (.bytes b) σ Φ Ψ := by
  rintro ρ _ _ ⟨t, rfl⟩ ⟨u, rfl⟩ s r
  exact PySem.W.eq_bytes (pv r vr_bool h)
theorem o_ne_bytes {a b : List UInt8} (h : Φ (.bool (a != b)) σ) : Op2 f (compareOp .NotEq) VR (.bytes a) (.bytes b) σ Φ Ψ := by
  rintro ρ _ _ ⟨t, rfl⟩ ⟨u, rfl⟩ s r
  exact PySem.W.ne_bytes (pv r vr_bool h)
theorem o_len_bytes {a : List UInt8} (hsz : a.length ≤ 16777216) (h : Φ (.int a.length) σ) : OpN f (fun vs => call (.builtin "len") vs) VR [.bytes a] σ Φ Ψ := by
  intro ρ vs hv s r
  obtain ⟨_, rfl, t, rfl⟩ := vrs1 hv
  refine PySem.W.len_bytes (by simp; (first | lia | omega)) ?_
  rw [List.size_toArray]
  exact pv r.tk vr_int h

/- ## lists -/
theorem Rep.isList (r : Rep f ρ σ s) {j : Nat} {xs : List AV} (h : ListAt σ j xs) {v : Value} (hv : VR ρ v (.ref j)) :
    ∃ a vs, v = .ref a ∧ s.heap.IsList a vs ∧ VRs ρ vs.toList xs := by
  obtain ⟨a, vs, k, h1, h2, h3, h4⟩ := r.listAt h hv
  exact ⟨a, vs, h1, ⟨_, h3, rfl, k, rfl⟩, h4⟩
theorem o_len_list {j : Nat} {xs : List AV} (hj : ListAt σ j xs) (hsz : xs.length ≤ 16777216) (h : Φ (.int xs.length) σ) : OpN f (fun vs => call (.builtin "len") vs) VR [.ref j] σ Φ Ψ := by
  intro ρ vs hv s r
  obtain ⟨v, rfl, hv'⟩ := vrs1 hv
  obtain ⟨a, ws, rfl, hl, hw⟩ := r.isList hj hv'
  have e : ws.size = xs.length := by rw [← paired_length hw]; simp
  refine call_len_list hl (by (first | lia | omega)) ?_
  rw [e]
  exact pv r.tk vr_int h
theorem o_add_list {i j : Nat} {xs ys : List AV} (hi : ListAt σ i xs) (hj : ListAt σ j ys) (hsz : xs.length + ys.length ≤ 16777216) (h : Φ (.ref σ.mem.length) (σ.new (.list (xs ++ ys)))) : Op2 f (binaryOp .Add) VR (.ref i) (.ref j) σ Φ Ψ := by
  rintro ρ v u hv hu s r
  obtain ⟨a, vs, k, rfl, h1, h2, h3⟩ := r.listAt hi hv
  obtain ⟨b, ws, k', rfl, h4, h5, h6⟩ := r.listAt hj hu
  have e : vs.size = xs.length := by rw [← paired_length h3]; simp
  have e' : ws.size = ys.length := by rw [← paired_length h6]; simp
  refine P.add_list (n := k) (n2 := k') h2 h5 ?_ (by rw [e, e', sizeLine_eq]; exact hsz)
  exact pv_new (tk := s.toks) (o := .list (xs ++ ys)) r ⟨vs ++ ws, _, rfl, by rw [Array.toList_append]; exact paired_append h3 h6⟩ h
theorem o_mul_list {i : Nat} {xs : List AV} {x : Int} (hi : ListAt σ i xs) (hx : -1000 ≤ x ∧ x ≤ 1000) (hsz : xs.length ≤ 1000) (h : Φ (.ref σ.mem.length) (σ.new (.list (List.replicate x.toNat xs).flatten))) :
    Op2 f (binaryOp .Mult) VR (.ref i) (.int x) σ Φ Ψ := by
  rintro ρ v _ hv ⟨u, rfl⟩ s r
  obtain ⟨a, items, k, rfl, h1, hl, h3⟩ := r.listAt hi hv
  have e : items.size = xs.length := by rw [← paired_length h3]; simp
  have hm : items.size * x.toNat ≤ 1000 * 1000 := Nat.mul_le_mul (by (first | lia | omega)) (by (first | lia | omega))
  refine wpAny_binaryOp_repeat_ref (T := "list") (U := "int") (by decide) ⟨_, hl, rfl⟩ (fun s' => typeIs_int s' x u) noFill_list_mul F.fills_int_mul F.slot_int_rmul repeat_list F.slot_int_index.lookup
    (call_meets F.slot_int_rmul (typeIs_int s x u) F.entry_int_rmul (F.args_int_rmul_2 _ _) (int___rmul___int_list x u a items k)
      ⟨hl, rfl, ⟨_, hl, rfl⟩, call_meets F.slot_list_mul ⟨_, hl, rfl⟩ F.entry_list_mul (F.args_list_mul_2 _ _)
        (AutoListH.list___mul___list_int_3 a items k x u (by simp [Builtin.List.listFitsIndex]; (first | lia | omega)) (by (first | lia | omega)) (by simp [Builtin.List.listTooLong, sizeLine]; (first | lia | omega)))
        ⟨hl, pv_new (tk := s.toks) (o := .list (List.replicate x.toNat xs).flatten) r ⟨_, _, rfl, ?_⟩ h⟩⟩)
  have key : ∀ (n : Nat) (acc : Array Value) (ac : List AV), VRs ρ acc.toList ac → VRs ρ (List.foldl (fun x1 x2 => x1 ++ x2) acc (List.replicate n items)).toList (ac ++ (List.replicate n xs).flatten) := by
    intro n
    induction n with
    | zero => intro acc ac h; simpa using h
    | succ n ih =>
      intro acc ac h
      rw [List.replicate_succ, List.foldl_cons, List.replicate_succ, List.flatten_cons, ← List.append_assoc]
      exact ih _ _ (by rw [Array.toList_append]; exact paired_append h h3)
  by_cases q : items.isEmpty = true
  · rw [if_pos q]
    have hx0 : xs = [] := List.eq_nil_of_length_eq_zero (by rw [← e]; simpa using q)
    subst hx0
    have : ∀ n : Nat, (List.replicate n ([] : List AV)).flatten = [] := by intro n; simp
    rw [this]
    exact Paired.nil
  · rw [if_neg q]
    simpa using key x.toNat #[] [] Paired.nil
theorem ints_of {xs : List Int} : ∀ {vs : List Value}, VRs ρ vs (xs.map .int) → IntsAre vs xs := by
  induction xs with
  | nil => intro vs h; cases h; exact .nil
  | cons x xs ih => intro vs h; cases h with | cons h1 h2 => obtain ⟨t, rfl⟩ := h1; exact .cons _ _ (ih h2)
theorem o_eq_ints {i j : Nat} {xs ys : List Int} (hf : FmOk f env n) (hi : ListAt σ i (xs.map .int)) (hj : ListAt σ j (ys.map .int)) (h : Φ (.bool (xs == ys)) σ) : Op2 f (compareOp .Eq) VR (.ref i) (.ref j) σ Φ Ψ := by
  rintro ρ v u hv hu s r
  obtain ⟨a, vs, rfl, h2, h3⟩ := r.isList hi hv
  obtain ⟨b, ws, rfl, h5, h6⟩ := r.isList hj hu
  have hu := hf.units
  refine ke_eq_ints (xs := vs.toList) (ys := ws.toList) (by simpa using h2) (by simpa using h5) (ints_of h3) (ints_of h6) (by show f.A.units + 64 < 9900; (first | lia | omega)) ?_
  have e : decide (xs = ys) = (xs == ys) := by by_cases q : xs = ys <;> simp [q]
  rw [e]
  exact pv r vr_bool h
theorem o_ne_nil {i j : Nat} {xs : List AV} (hf : FmOk f env n) (hi : ListAt σ i xs) (hj : ListAt σ j []) (h : Φ (.bool (!xs.isEmpty)) σ) : Op2 f (compareOp .NotEq) VR (.ref i) (.ref j) σ Φ Ψ := by
  rintro ρ v u hv hu s r
  obtain ⟨a, vs, rfl, h2, h3⟩ := r.isList hi hv
  obtain ⟨b, ws, rfl, h5, h6⟩ := r.isList hj hu
  have hu := hf.units
  have hu' : f.A.units < cLine := by show f.A.units < 9900; (first | lia | omega)
  have e : vs.size = xs.length := by rw [← paired_length h3]; simp
  have e' : ws.size = 0 := by have := paired_length h6; simpa using this
  by_cases q : xs = []
  · subst q
    refine (SeqAt.RcNeAt.lists (e := fun _ => true) h2 h5 (by rw [e, e']; rfl) hu' (fun j h1 _ => absurd h1 (by rw [e]; simp))) _ _ _ _ ?_
    have : vs.size = 0 := e
    rw [this]
    exact pv r vr_bool h
  · refine (SeqAt.RcNeAt.lists_lengths h2 h5 (by rw [e, e']; cases xs with | nil => exact absurd rfl q | cons => simp) hu') _ _ _ _ ?_
    have : (!xs.isEmpty) = true := by cases xs with | nil => exact absurd rfl q | cons => rfl
    rw [this] at h
    exact pv r vr_bool h
/- ## is -/
noncomputable def AV.isN : AV → Bool
  | .none => true
  | .val .none => true
  | _ => false
theorem o_is_none {a : AV} (h : Φ (.bool a.isN) σ) : Op2 f (compareOp .Is) VR a .none σ Φ Ψ := by
  rintro ρ v u hv hu s r
  have q : u = .none := hu
  subst q
  refine is_none_gen (pv r (?_ : VR ρ (.bool (v == .none)) _) h)
  cases a with
  | none => have q : v = .none := hv; subst q; exact vr_bool
  | bool b => have q : v = .bool b := hv; subst q; exact vr_bool
  | int b => obtain ⟨t, rfl⟩ := hv; exact vr_bool
  | str b => obtain ⟨t, rfl⟩ := hv; exact vr_bool
  | bytes b => obtain ⟨t, rfl⟩ := hv; exact vr_bool
  | ref b => obtain ⟨t, _, rfl⟩ := hv; exact vr_bool
  | val u => have q : v = u := hv; subst q; cases v <;> exact vr_bool
theorem o_isnot_none {a : AV} (h : Φ (.bool (!a.isN)) σ) : Op2 f (compareOp .IsNot) VR a .none σ Φ Ψ := by
  rintro ρ v u hv hu s r
  have q : u = .none := hu
  subst q
  refine isnot_none_gen (pv r (?_ : VR ρ (.bool (!(v == .none))) _) h)
  cases a with
  | none => have q : v = .none := hv; subst q; exact vr_bool
  | bool b => have q : v = .bool b := hv; subst q; exact vr_bool
  | int b => obtain ⟨t, rfl⟩ := hv; exact vr_bool
  | str b => obtain ⟨t, rfl⟩ := hv; exact vr_bool
  | bytes b => obtain ⟨t, rfl⟩ := hv; exact vr_bool
  | ref b => obtain ⟨t, _, rfl⟩ := hv; exact vr_bool
  | val u => have q : v = u := hv; subst q; cases v <;> exact vr_bool
/- ## isinstance -/

theorem o_isbytes_bytes {b : List UInt8} (h : Φ (.bool true) σ) : OpN f (fun vs => call (.builtin "isinstance") vs) VR [.bytes b, .val (.type "bytes")] σ Φ Ψ := by
  intro ρ vs hv s r
  obtain ⟨_, _, rfl, ⟨t, rfl⟩, q⟩ := vrs2 hv
  have q : _ = Value.type "bytes" := q
  subst q
  exact call_isinstance_yes (typeIs_bytes _ _ _) (F.isi_meta_bytes) F.sub_bytes_bytes (pv r vr_bool h)
theorem o_isbytes_str {b : List Nat} (h : Φ (.bool false) σ) : OpN f (fun vs => call (.builtin "isinstance") vs) VR [.str b, .val (.type "bytes")] σ Φ Ψ := by
  intro ρ vs hv s r
  obtain ⟨_, _, rfl, ⟨t, rfl⟩, q⟩ := vrs2 hv
  have q : _ = Value.type "bytes" := q
  subst q
  exact PySem.call_isinstance (PySem.isinstance_false_str (by decide) (F.isi_meta_bytes) F.sub_str_bytes) (pv r.tk vr_bool h)
end
end Mine

/- # F11 -/
namespace Mine
open PySem PySem.Calls PyProof.Rows PySem.W

section
variable {prog : Program} {w : World} {A : Around} {E : Value → Shared → Prop} {s : Shared} {env : Env}
variable {nm q : Str} {C N : Addr} {bs bm : List Value} {hdct : Bool} {sn : List Str} {sub : List Value} {ab : Bool} {col : Option Bool} {dd : Option Addr} {k0 k1 k2 k3 k5 : Option Value} {B newId initId : String} {bmB : List Value}

theorem typeOf_exc {M : Model} {h : Heap} {g : Array GenState} {d : Drawn} {t : Nat} {os : OsState} {Q : Value → Shared → Prop} (hC : h.get? C = some (excClassObj nm q C N bs bm hdct sn sub ab col dd k0 k1 k2 k3 k5 newId))
    (hq : Q (.type "type") ⟨h, g, d, t, os⟩) : wpAny M A (typeOf (.ref C)) Q E ⟨h, g, d, t, os⟩ := by
  refine wpAny_typeOf (T := "type") ⟨_, hC, rfl⟩ hq
theorem isType_exc {M : Model} {h : Heap} {g : Array GenState} {d : Drawn} {t : Nat} {os : OsState} {Q : Bool → Shared → Prop} (hC : h.get? C = some (excClassObj nm q C N bs bm hdct sn sub ab col dd k0 k1 k2 k3 k5 newId))
    (hq : Q true ⟨h, g, d, t, os⟩) : wpAny M A (isType (.ref C)) Q E ⟨h, g, d, t, os⟩ := by
  unfold isType
  repeat (any_goals (first | assumption | with_reducible refine wpAny_loadPart_at hC ?_ | wp_step))

theorem issubclass_nested_exc {h : Heap} {g : Array GenState} {d : Drawn} {t : Nat} {os : OsState} {k : Value} {dep : Int} {tk : Tok} {Q : Fin → Shared → Prop} (hk : k = .int dep tk)
    (hC : h.get? C = some (excClassObj nm q C N bs bm hdct sn sub ab col dd k0 k1 k2 k3 k5 newId)) (hq : Q (.done (.ret (.bool true))) ⟨h, g, d, t, os⟩) :
    wpAny (model prog w) A (Builtin.«issubclass.nested» ⟨[.ref C, .ref C, k], []⟩) Q E ⟨h, g, d, t, os⟩ := by
  subst hk
  unfold Builtin.«issubclass.nested»
  refine wpAny_bind (m := typeOf (.ref C)) (typeOf_exc hC ?_)
  rw [if_pos (by decide)]
  refine wpAny_bind ?_
  refine wpAny_bind (m := isType (.ref C)) (isType_exc hC ?_)
  refine wpAny_bind (m := isType (.ref C)) (isType_exc hC ?_)
  rw [if_pos (by decide)]
  refine wpAny_isSubtype_exc hC ?_
  have e : (Value.ref C :: bm).contains (Value.ref C) = true := by rw [List.contains_cons]; simp
  rw [e]
  exact wpAny_pure hq

theorem issubclass_exc : Meets (Builtin.«issubclass» ⟨[.ref C, .ref C], []⟩) (fun _ R s => s.heap.get? C = some (excClassObj nm q C N bs bm hdct sn sub ab col dd k0 k1 k2 k3 k5 newId) ∧ R (.ok (.ret (.bool true))) s) :=
  fun _ _ _ _ s hs => by
    obtain ⟨hp, g, d, tk, os⟩ := s
    exact issubclass_outer (issubclass_nested_exc rfl hs.1 hs.2)

theorem raise_bare {x : Str} {np pos : Pos} {mN : Str → Option Value} {Q : Flow → Shared → Prop} (F : ExcBaseFacts B newId initId bmB) (T : OwnTail s.heap bmB bm) (hh : A.handled = none)
    (hC : s.heap.get? C = some (excClassObj nm q C N bs bm hdct sn sub ab col dd k0 k1 k2 k3 k5 newId)) (hn : s.heap.Ns N mN) (hni : mN "__init__" = none)
    (hx : wpAny (model prog w) A (eval (.Name x np) env) (fun v s₁ => v = .ref C ∧ s₁ = s) E s)
    (h : ∀ h' e, Heap.MadeExcOf s.heap h' e (.ref C) [] → E (.ref e) { s with heap := h' }) :
    wpAny (model prog w) A (exec (.Raise (some (.Name x np)) none pos) env) Q E s := by
  have hbase : bm.contains (.type "BaseException") = true := T.hasType F.hasBase
  have hcB : (Value.ref C :: bm).contains (.type "BaseException") = true := by rw [List.contains_cons, hbase, Bool.or_true]
  show wpAny (model prog w) A (do standAt pos; raiseStmt env (some (do let v ← eval (.Name x np) env; standAt pos; pure v)) none) Q E s
  refine wpAny_bind (wpAny_standAt ?_)
  unfold raiseStmt
  dsimp only
  refine wpAny_bind (wpAny_bind (wpAny_mono hx (fun v s₁ h₁ => wpAny_bind (wpAny_standAt (wpAny_pure ?_))) fun _ _ e => e))
  obtain ⟨rfl, hs₁⟩ := h₁
  subst s₁
  obtain ⟨hp, g, d, tk, os⟩ := s
  refine wpAny_bind (wpAny_pure ?_)
  dsimp only
  refine wpAny_bind (wpAny_holding ?_)
  unfold excFromValue isExcClass
  refine wpAny_bind (wpAny_bind (m := isType (.ref C)) (isType_exc hC ?_))
  rw [if_pos rfl]
  refine wpAny_isSubtype_exc hC ?_
  rw [hcB, if_pos rfl]
  refine wpAny_bind (wpAny_call_exc_subT F T hC hn hni (fun h' e hm => ?_) (Nat.zero_le _))
  obtain ⟨t, ht, _, _⟩ := hm.there
  have hC' := hm.keeps _ _ hC
  have inst : ∀ {Q' : Bool → Shared → Prop}, Q' true ⟨h', g, d, tk, os⟩ → wpAny (model prog w) A (isInstance (.ref e) (.type "BaseException")) Q' E ⟨h', g, d, tk, os⟩ := by
    intro Q' hq
    repeat (any_goals (first | with_reducible refine wpAny_loadPart_at ht ?_ | (with_reducible refine wpAny_isSubtype_exc hC' ?_; rw [hcB]) | assumption | wp_step))
  refine wpAny_bind (inst ?_)
  simp only [Bool.not_true, Bool.false_eq_true, if_false]
  refine wpAny_pure ?_
  refine wpAny_bind (m := isType (.ref C)) (isType_exc hC' ?_)
  rw [if_pos rfl]
  refine wpAny_bind (wpAny_holding ?_)
  unfold raisedFor
  rw [if_neg (by decide)]
  have ty : ∀ {Q' : Value → Shared → Prop}, Q' (.ref C) ⟨h', g, d, tk, os⟩ → wpAny (model prog w) A (typeOf (.ref e)) Q' E ⟨h', g, d, tk, os⟩ := by
    intro Q' hq
    repeat (any_goals (first | with_reducible refine wpAny_loadPart_at ht ?_ | assumption | wp_step))
  have isub : ∀ {Q' : Value → Shared → Prop}, Q' (.bool true) ⟨h', g, d, tk, os⟩ → wpAny (model prog w) A (call (.builtin "issubclass") [.ref C, .ref C]) Q' E ⟨h', g, d, tk, os⟩ := by
    intro Q' hq
    exact call_issubclass (s := ⟨h', g, d, tk, os⟩) issubclass_exc ⟨hC', hq⟩
  refine wpAny_bind (wpAny_bind (m := typeOf (.ref e)) (ty ?_))
  refine wpAny_pure (wpAny_bind (isub (wpAny_bind (wpAny_truthy_bool ?_))))
  dsimp only
  rw [if_pos rfl]
  refine wpAny_pure ?_
  unfold setFlight raiseNew
  refine wpAny_bind (wpAny_bind (wpAny_field (i := 1) (x := Value.none) ht rfl rfl ?_))
  rw [if_neg (by decide)]
  refine wpAny_pure (wpAny_bind (wpAny_handled ?_))
  rw [hh]
  first
    | exact wpAny_throw (h h' e hm)
    | exact wpAny_bind (wpAny_pure (wpAny_throw (h h' e hm)))
end

section
variable {α β γ δ : Type} {f : Fm} {env : Env} {n : Nat} {Ψ : Value → Prop} {ρ : List Addr} {σ : St} {s : Shared}
/- a new exception, in the frame -/
theorem Rep.exn (r : Rep f ρ σ s) (hf : FmOk f env n) {h' : Heap} {tk : Nat} {e : Addr} {oe : Obj} {a0 : Value} {vs : Array Value} (hk : ∀ b o, s.heap.get? b = some o → h'.get? b = some o) (hn : s.heap.get? e = none)
    (he : h'.get? e = some oe) (hd : oe.data = .fields vs) (h1 : vs[1]? = some .none) (h0 : vs[0]? = some a0) : Exn f (.ref e) oe.cls { s with heap := h', toks := tk } :=
  ⟨fun b o x => hk b o (r.stays hf b o x), fun b o x _ => ⟨o.slots, hk b o (r.keep b o x)⟩, (r.frames hf).of_keeps fun b o x _ => ⟨o, hk b o x, rfl⟩, r.gens, r.drawn, r.os,
    e, rfl, (by
      cases q : f.H0.get? e with
      | none => rfl
      | some o => have := r.stays hf e o q; rw [hn] at this; (first | exact nn this | exact sn this | exact tf this | exact ft this | cases this)), .inl ⟨oe, vs, a0, he, rfl, hd, h1, h0⟩⟩
theorem x_raise {x : Str} {np pos : Pos} {C : Addr} {B newId initId : String} {bmB : List Value} {Φ : AF → St → Prop} (hf : FmOk f env n) (hx : env.kindOf x = some .globalImplicit)
    (hn : ∀ w, nsIn (KK w) mainGlobals x = some (some (.ref C))) (hq : ∀ w, excIn (KK w) C bmB newId = true) (F : ExcBaseFacts B newId initId bmB) (hΨ : Ψ (.ref C)) (hd : (x == ("__debug__" : Str)) = false := by kernel_rfl) :
    Ex f (.Raise (some (.Name x np)) none pos) env σ Φ Ψ := fun ρ s r => by
  obtain ⟨mg, mb, G⟩ := hf.g
  obtain ⟨loose, mean, T⟩ := G.top
  have O := own_of_in G.kin (topRead_of T) (hn _) (hq _)
  obtain ⟨tl, N, nm, q, bs, hdct, sn, sub, ab, col, dd, k0, k1, k2, k3, k5, mN, hC, hN, hni, TT⟩ := O.obj
  have hst := r.stays hf
  refine raise_bare F (TT.keeps hst) hf.handled (hst _ _ hC) (hN.keeps hst) hni (Calls.Name_function_global hf.kind hx (Calls.loadGlobal_global (hf.glob ▸ T.g.keeps hst) (mg_of G.kin T.g (hn _)) ⟨rfl, rfl⟩) hd) ?_
  intro h' e hm
  obtain ⟨t, ht, _, _⟩ := hm.there
  exact ⟨_, r.exn hf (tk := s.toks) hm.keeps hm.new ht rfl rfl rfl, hΨ⟩
end
end Mine

/- # F12 -/
namespace Mine
open PySem PySem.Calls PyProof.Rows PySem.W

section
variable {α β γ δ : Type} {f : Fm} {env : Env} {n : Nat} {Ψ : Value → Prop} {ρ : List Addr} {σ : St} {s : Shared}

/- ## index -/
noncomputable def IdxOp (f : Fm) (a b : AV) (σ : St) (Φ : AV → St → Prop) (Ψ : Value → Prop) : Prop :=
  ∀ ρ v u, VR ρ v a → VR ρ u b → ∀ s, Rep f ρ σ s → ∃ T id, typeLookup (.type T) "__getitem__" = pure (some (.builtin id)) ∧ s.TypeIs v T ∧
    wpAny (model pw f.w) f.A (getItem v u) (PV f ρ VR Φ) (PE f Ψ) s
noncomputable abbrev KI2 (f : Fm) (Ψ : Value → Prop) (Φ : AV → St → Prop) (a b : AV) (σ₂ : St) : Prop := IdxOp f a b σ₂ Φ Ψ
noncomputable abbrev KIx (f : Fm) (env : Env) (Ψ : Value → Prop) (idx : Expr) (Φ : AV → St → Prop) (a : AV) (σ₁ : St) : Prop := Ev f idx env σ₁ (KI2 f Ψ Φ a) Ψ
theorem e_index {value idx : Expr} {pos : Pos} {Φ : AV → St → Prop}
    (h : Ev f value env σ (KIx f env Ψ idx Φ) Ψ)
    (hs : ∀ o i, subscripted idx false o i = operate [o, i] (getItem o i) := by intros; rfl) : Ev f (.Subscript value idx pos) env σ Φ Ψ := fun ρ s r => by
  show wpAny _ _ (eval (.Subscript value idx pos) env) _ _ s
  rw [eval_Subscript]
  refine wpAny_bind (wpAny_mono (h ρ s r) (fun o s₁ qq1 => qq1.elim fun ρ₁ a σ₁ p1 r1 v1 h1 => wpAny_bind (wpAny_holding (wpAny_mono (h1 ρ₁ _ r1) (fun i s₂ qq2 => qq2.elim fun ρ₂ b σ₂ p2 r2 v2 h2 => ?_) fun _ _ q => q))) fun _ _ q => q)
  obtain ⟨T, id, hl, hT, hop⟩ := h2 ρ₂ o i (v1.mono p2) v2 s₂ r2
  refine wpAny_bind (wpAny_standAt ?_)
  have fin : wpAny (model pw f.w) f.A (subscripted idx false o i) (fun r s₃ => wpAny (model pw f.w) f.A (letTemporaryGo value o r >>= fun _ => pure r) (PV f ρ VR Φ) (PE f Ψ) s₃) (PE f Ψ) s₂ := by
    rw [hs]
    exact wpAny_operating (wpAny_mono hop (fun r s₃ h₃ => wpAny_bind (wpAny_letTemporaryGo (wpAny_pure (PV.mono (p1.trans p2) h₃)))) fun _ _ x => x)
  refine wpAny_bind ?_
  rw [getitemInPython_of_ne hT.not_modules]
  refine wpAny_bind (wpAny_specialOf hT hl ?_)
  first
    | exact wpAny_pure (wpAny_bind fin)
    | exact wpAny_bind (wpAny_pure (wpAny_bind fin))
    | exact wpAny_bind fin

theorem seqIdx_of {i : Int} {k : Nat} (h0 : 0 ≤ i) (h1 : i < k) : seqIndex? i k = some i.toNat := by
  unfold seqIndex?
  simp only
  rw [if_neg (show ¬ i < 0 by (first | lia | omega)), if_pos (show (decide (0 ≤ i) && decide (i < (k : Int))) = true by simp; (first | lia | omega))]
theorem i_bytes {b : List UInt8} {i : Int} {Φ : AV → St → Prop} (hsz : b.length ≤ 16777216) (h0 : 0 ≤ i) (h1 : i < b.length) (h : Φ (.int (b.getD i.toNat 0).toNat) σ) : IdxOp f (.bytes b) (.int i) σ Φ Ψ := by
  rintro ρ _ _ ⟨t, rfl⟩ ⟨u, rfl⟩ s r
  exact ⟨"bytes", _, FB.slot_bytes_getitem.lookup, typeIs_bytes _ _ _, PySem.W.getItem_bytes (by (first | lia | omega)) h0 h1 (pv r.tk vr_int h)⟩
theorem i_str {b : List Nat} {i : Int} {Φ : AV → St → Prop} (hsz : b.length ≤ 16777216) (h0 : 0 ≤ i) (h1 : i < b.length) (h : Φ (.str [b.getD i.toNat 0]) σ) : IdxOp f (.str b) (.int i) σ Φ Ψ := by
  rintro ρ _ _ ⟨t, rfl⟩ ⟨u, rfl⟩ s r
  refine ⟨"str", _, F.slot_str_getitem.lookup, typeIs_str _ _ _, PyProof.Rows.getItem_str (c := b.getD i.toNat 0) ?_ ?_ (pv r.tk (vr_str (l := [b.getD i.toNat 0])) h)⟩
  · simp only [Bool.or_eq_false_iff, decide_eq_false_iff_not]; (first | lia | omega)
  · have hl : i.toNat < b.length := by (first | lia | omega)
    have e : seqIndex? i (⟨b.toArray⟩ : Str).length = some i.toNat := by
      rw [str_len]
      exact seqIdx_of h0 h1
    rw [e]
    simp [List.getD, hl]
theorem i_list {j : Nat} {xs : List AV} {i : Int} {y : AV} {Φ : AV → St → Prop} (hj : ListAt σ j xs) (h0 : 0 ≤ i) (hfit : i < 2 ^ 63) (hy : xs[i.toNat]? = some y) (h : Φ y σ) : IdxOp f (.ref j) (.int i) σ Φ Ψ := by
  rintro ρ v _ hv ⟨u, rfl⟩ s r
  obtain ⟨a, vs, rfl, hl, hw⟩ := r.isList hj hv
  obtain ⟨x, hx, hxy⟩ := paired_get' hw hy
  exact ⟨"list", _, list_getitem_lookup, hl.typeIs, wpAny_getItem_list hl h0 hfit (by simpa using hx) (pv r hxy h)⟩
theorem i_tup {j : Nat} {xs : List AV} {i : Int} {y : AV} {Φ : AV → St → Prop} (hj : TupAt σ j xs) (h0 : 0 ≤ i) (hfit : i < 2 ^ 63) (hy : xs[i.toNat]? = some y) (h : Φ y σ) : IdxOp f (.ref j) (.int i) σ Φ Ψ := by
  rintro ρ v _ hv ⟨u, rfl⟩ s r
  obtain ⟨a, vs, k, rfl, ha, hh, hw⟩ := r.tupAt hj hv
  obtain ⟨x, hx, hxy⟩ := paired_get' hw hy
  have hT : IsTup s.heap a vs := ⟨_, hh, rfl, k, rfl⟩
  have hlt : i.toNat < vs.size := by simpa using (List.getElem?_eq_some_iff.mp hx).1
  refine ⟨"tuple", _, F.slot_tuple_getitem.lookup, ⟨_, hh, rfl⟩, PyProof.Rows.getItem_tuple (j := i.toNat) hT (by (first | lia | omega)) hfit ?_ (by simpa using hx) (pv r hxy h)⟩
  exact seqIdx_of h0 (by (first | lia | omega))

/- ## raise of a built-in class with arguments -/
theorem x_raiseV {x cls newId initId : String} {X : Str} {np cpos pos : Pos} {e₀ : Expr} {rest : List Expr} {Φ : AF → St → Prop} (FC : ExcCallFacts cls newId initId) (FR : ExcRaiseFacts cls) (hf : FmOk f env n) (hx : env.kindOf X = some .globalImplicit)
    (hn : ∀ w, nsIn (KK w) mainGlobals X = some none) (hv : bootBuiltins X = some (.type cls))
    (h : Ta f (e₀ :: rest) env cpos σ (fun as σ₁ => as.length ≤ 1000 ∧ Ψ (.type cls)) Ψ)
    (hne : X ≠ "__name__" := by decide +kernel) (hd : (X == ("__debug__" : Str)) = false := by kernel_rfl)
    (he : starEach (e₀ :: rest) env = (false, eval e₀ env) :: starEach rest env := by rfl) (hplain : (backTo cpos (starEach rest env)).any (·.1) = false := by rfl) :
    Ex f (.Raise (some (.Call (.Name X np) (e₀ :: rest) [] cpos)) none pos) env σ Φ Ψ := fun ρ s r =>
  Raise_madeB FC FR hf.handled (wpAny_mono (e_bi (Φ := fun a σ' => a = .val (.type cls) ∧ σ' = σ) (Ψ := Ψ) (p := np) hf hx hn hv ⟨rfl, rfl⟩ hne hd ρ s r) (fun v s₁ qq3 => qq3.elim fun ρ₁ a σ₁ p1 r1 v1 qq4 => qq4.elim fun e1 e2 => by
    subst e1 e2
    have q : v = .type cls := v1
    subst q
    refine ⟨rfl, wpAny_mono (h ρ₁ _ r1) (fun vs s₂ qq5 => qq5.elim fun ρ₂ as σ₂ p2 r2 v2 qq6 => qq6.elim fun hl h2 => ⟨by rw [paired_length v2, sizeLine_eq]; (first | lia | omega), fun h' e hm => ?_⟩) fun _ _ q => q⟩
    obtain ⟨t, ht, _, _⟩ := hm.there
    exact ⟨_, r2.exn hf (tk := s₂.toks) hm.keeps hm.new ht rfl rfl rfl, h2⟩) fun _ _ q => q) he hplain
end
end Mine

/- # F13 -/
namespace Mine
open PySem PySem.Calls PyProof.Rows PySem.W

/- ## bytes: split, join, in -/
section
open Builtin
variable {b c : Array UInt8} {t u : Tok}
noncomputable def bytesFrom : Nat → List (Array UInt8) → List Value
  | _, [] => []
  | tk, x :: r => .bytes x tk :: bytesFrom (tk + 1) r
theorem mapM_mkBytes {M : Model} {A : Around} {E : Value → Shared → Prop} : ∀ (xs : List (Array UInt8)) (s : Shared) (Q : List Value → Shared → Prop), (∀ x ∈ xs, x.size ≤ sizeLine) → Q (bytesFrom s.toks xs) { s with toks := s.toks + xs.length } → wpAny M A (xs.mapM mkBytes) Q E s
  | [], s, Q, _, h => by rw [List.mapM_nil]; exact wpAny_pure h
  | x :: r, s, Q, hx, h => by
    rw [List.mapM_cons]
    refine wpAny_bind (wpAny_mkBytes (wpAny_bind (mapM_mkBytes r _ _ (fun y hy => hx y (List.mem_cons_of_mem _ hy)) (wpAny_pure ?_))) (hx x (List.mem_cons_self ..)))
    have e : s.toks + 1 + r.length = s.toks + (x :: r).length := by simp [Nat.add_comm, Nat.add_left_comm]
    show Q (.bytes x s.toks :: bytesFrom (s.toks + 1) r) { s with toks := s.toks + 1 + r.length }
    rw [e]; exact h
theorem bytesFrom_length : ∀ (tk : Nat) (xs : List (Array UInt8)), (bytesFrom tk xs).length = xs.length
  | _, [] => rfl
  | tk, _ :: r => by rw [bytesFrom, List.length_cons, List.length_cons, bytesFrom_length (tk + 1) r]
theorem bytesFrom_vrs {ρ : List Addr} : ∀ (tk : Nat) (xs : List (Array UInt8)), VRs ρ (bytesFrom tk xs) (xs.map fun x => .bytes x.toList)
  | _, [] => .nil
  | tk, x :: r => .cons ⟨tk, by simp⟩ (bytesFrom_vrs (tk + 1) r)

noncomputable def splitA (b c : Array UInt8) : List (Array UInt8) := if ((Bytes.occurrences b c 0 b.size).take (b.size + 1)).isEmpty then [b] else Bytes.between b c.size ((Bytes.occurrences b c 0 b.size).take (b.size + 1))

theorem meets_bytes_split (hc : c.isEmpty = false) (hl : (splitA b c).length ≤ sizeLine) (hs : ∀ x ∈ splitA b c, x.size ≤ sizeLine) : Meets («bytes.split» ⟨[.bytes b t, .bytes c u], []⟩)
    (fun _ R s => ∀ vs k, (∀ ρ, VRs ρ vs ((splitA b c).map fun x => .bytes x.toList)) → R (.ok (.ret (.ref s.heap.objs.size))) { s with heap := s.heap.push { cls := .type "list", data := .seq vs.toArray }, toks := k }) := by
  refine .of_wp fun prog w A R s h => ?_
  show wpAny _ _ (Bytes.bindOptional "bytes.split" "split" ["sep", "maxsplit"] [.bytes c u] [] >>= fun r => _) _ _ s
  refine wpAny_bind (wpAny_of_eq (a := [some (.bytes c u), none]) (by kernel_rfl) ?_)
  show wpAny _ _ ((pure (-1 : Int)) >>= fun r => _) _ _ s
  refine wpAny_bind (wpAny_pure ?_)
  show wpAny _ _ (Bytes.payload (.bytes b t) >>= fun r => _) _ _ s
  refine wpAny_bind (wpAny_of_eq (a := b) rfl ?_)
  show wpAny _ _ (Bytes.bytesLike _ (.bytes c u) >>= fun r => _) _ _ s
  refine wpAny_bind (wpAny_of_eq KBd.like_eq ?_)
  dsimp only
  rw [hc]
  simp only [Bool.false_eq_true, if_false, show ((-1 : Int) < 0) = True from by simp, if_true]
  unfold splitA at hl hs h
  cases hp : ((Bytes.occurrences b c 0 b.size).take (b.size + 1)).isEmpty with
  | true =>
    rw [hp] at hl hs h
    simp only [if_true] at hl hs h ⊢
    refine wpAny_bind (wpAny_rule ?_)
    refine wpAny_bind (wpAny_of_eq (a := Value.bytes b t) rfl ?_)
    refine wpAny_bind (wpAny_newList ?_ (by show (1 : Nat) ≤ sizeLine; rw [sizeLine_eq]; (first | lia | omega)))
    exact wpAny_pure ⟨_, rfl, h [.bytes b t] s.toks fun ρ => .cons ⟨t, by simp⟩ .nil⟩
  | false =>
    rw [hp] at hl hs h
    simp only [Bool.false_eq_true, if_false] at hl hs h ⊢
    show wpAny _ _ ((Bytes.between b c.size _).mapM mkBytes >>= fun r => _) _ _ s
    refine wpAny_bind (mapM_mkBytes _ _ _ hs ?_)
    refine wpAny_bind (wpAny_newList ?_ ?_)
    · exact wpAny_pure ⟨_, rfl, h _ _ fun ρ => bytesFrom_vrs _ _⟩
    · rw [bytesFrom_length]; exact hl
theorem splitA_one (l : List UInt8) (c : UInt8) : splitA l.toArray #[c] = (spl c l).map List.toArray := by
  unfold splitA
  rw [occ_one]
  have e : l.toArray.size = l.length := by simp
  rw [e]
  have e2 : ((List.range l.length).filter (fun i => decide (l.toArray[i]? = some c))).take (l.length + 1) = (List.range l.length).filter (fun i => decide (l.toArray[i]? = some c)) :=
    List.take_of_length_le (Nat.le_trans (filter_len l c) (Nat.le_succ _))
  rw [e2]
  have key := between_one l c
  split
  · rename_i h
    rw [List.isEmpty_iff.mp h] at key
    rw [← key]
    simp [Bytes.between]
  · exact key
end

section
variable {f : Fm} {env : Env} {n : Nat} {Ψ : Value → Prop} {ρ : List Addr} {σ : St} {s : Shared} {Φ : AV → St → Prop}
theorem o_split_bytes {b : List UInt8} {c : UInt8} (hsz : b.length ≤ 1000000) (h : Φ (.ref σ.mem.length) (σ.new (.list ((spl c b).map .bytes)))) :
    OpN f (fun vs => call (.builtin "bytes.split") vs) VR [.bytes b, .bytes [c]] σ Φ Ψ := by
  intro ρ vs hv s r
  obtain ⟨_, _, rfl, ⟨t, rfl⟩, ⟨u, rfl⟩⟩ := vrs2 hv
  have e := splitA_one b c
  refine call_meets BF.slot_bytes_split (typeIs_bytes _ _ _) BF.entry_bytes_split (BF.args_bytes_split_2 _ _) (meets_bytes_split (c := #[c]) rfl ?_ ?_) (fun ws k hw => ?_)
  · rw [e, List.length_map, sizeLine_eq]
    have := spl_length_le c b
    (first | lia | omega)
  · rw [e]
    intro x hx
    obtain ⟨p, hp, rfl⟩ := List.mem_map.mp hx
    rw [List.size_toArray, sizeLine_eq]
    have := spl_mem_le c b p hp
    (first | lia | omega)
  · rw [e, List.map_map] at hw
    exact pv_new (o := .list ((spl c b).map .bytes)) r ⟨ws.toArray, _, rfl, by simpa [Function.comp_def] using hw ρ⟩ h

/- ## str.split -/
noncomputable def splS (x y : List Nat) : List (List Nat) := (Txt.split ⟨x.toArray⟩ ⟨y.toArray⟩).map fun p => p.cps.toList
theorem vrs_strs {l : List (Str × Tok)} : ∀ {ws : List (List Nat)}, l.map (fun p => p.1.cps.toList) = ws → VRs ρ (strValues l) (ws.map .str) := by
  induction l with
  | nil => intro ws e; subst e; exact .nil
  | cons p r ih => intro ws e; subst e; exact .cons ⟨p.2, by simp⟩ (ih rfl)
theorem call_split {prog : Program} {w : World} {A : Around} {E : Value → Shared → Prop} {x y : Str} {t u : Tok} {Q : Value → Shared → Prop} (hy : (y.length == 0) = false)
    (h : ∀ l k, l.map (·.1) = Txt.split x y → Q (.ref s.heap.objs.size) { s with heap := s.heap.push { cls := .type "list", data := .seq (strValues l).toArray }, toks := k })
    (hsz : x.length + 2 ≤ sizeLine) : wpAny (model prog w) A (call (.builtin "str.split") [.str x t, .str y u]) Q E s := by
  have hn : (Builtin.Str.partsBetween x (Builtin.Str.occurrences x y 0 x.length (x.length + 1)) y.length).length ≤ sizeLine := by
    have e1 := StrLaws.occ_length_le x y 0 x.length (x.length + 1)
    rw [length_partsBetween]; (first | lia | omega)
  cases h1 : (decide (x.length < y.length) || decide (Builtin.Str.strKind x < Builtin.Str.strKind y))
  · cases hf : (Builtin.Str.occurrences x y 0 x.length (x.length + 1)).isEmpty
    · refine call_meets F.slot_str_split (typeIs_str _ _ _) F.entry_str_split (F.args_str_split_2 _ _) (meets_str_split_sep x y t u h1 hy hf (by (first | lia | omega)) hn) ?_
      show wants Q E _ { s with toks := _, heap := s.heap.push { cls := .type "list", data := .seq (strsFrom s.toks (Builtin.Str.partsBetween x (Builtin.Str.occurrences x y 0 x.length (x.length + 1)) y.length)).toArray } }
      rw [strsFrom_eq]
      exact h (numbered s.toks _) _ ((numbered_texts _ _).trans ((if_neg (ne_true_of_eq_false h1)).trans (if_neg (ne_true_of_eq_false hf))).symm)
    · exact call_meets F.slot_str_split (typeIs_str _ _ _) F.entry_str_split (F.args_str_split_2 _ _) (meets_str_split_not_found x y t u h1 hy hf)
        (h [(x, t)] s.toks ((if_neg (ne_true_of_eq_false h1)).trans (if_pos hf)).symm)
  · exact call_meets F.slot_str_split (typeIs_str _ _ _) F.entry_str_split (F.args_str_split_2 _ _) (meets_str_split_cannot_occur x y t u h1)
      (h [(x, t)] s.toks (if_pos h1).symm)
theorem o_split_str {x y : List Nat} (hsz : x.length ≤ 1000000) (hy : y ≠ []) (h : Φ (.ref σ.mem.length) (σ.new (.list ((splS x y).map .str)))) : OpN f (fun vs => call (.builtin "str.split") vs) VR [.str x, .str y] σ Φ Ψ := by
  intro ρ vs hv s r
  obtain ⟨_, _, rfl, ⟨t, rfl⟩, ⟨u, rfl⟩⟩ := vrs2 hv
  refine call_split (by rw [str_len]; cases y <;> simp_all) (fun l k e => ?_) (by rw [str_len, sizeLine_eq]; (first | lia | omega))
  exact pv_new (o := .list ((splS x y).map .str)) r ⟨(strValues l).toArray, _, rfl, by
    show VRs _ (strValues l) _
    refine vrs_strs ?_
    unfold splS
    rw [← e, List.map_map]; rfl⟩ h
end
end Mine

/- # F14 -/
namespace Mine
open PySem PySem.Calls PyProof.Rows PySem.W

theorem wpAny_range {M : Model} {A : Around} {E : Value → Shared → Prop} {β : Type} (f : Nat → β → Sem (ForInStep β)) (n : Nat) (I : Nat → β → Shared → Prop) (Q : β → Shared → Prop)
    (turn : ∀ i b s, i < n → I i b s → wpAny M A (f i b) (fun r s' => match r with | .yield b' => I (i + 1) b' s' | .done b' => Q b' s') E s)
    (fin : ∀ b s, I n b s → Q b s) {b : β} {s : Shared} (h : I 0 b s) : wpAny M A (forIn [0:n] b f) Q E s := by
  rw [Std.Legacy.Range.forIn_eq_forIn_range']
  have hsz : ([0:n] : Std.Legacy.Range).size = n := by simp [Std.Legacy.Range.size]
  show wpAny M A (forIn (List.range' 0 ([0:n] : Std.Legacy.Range).size 1) b f) Q E s
  rw [hsz]
  refine wpAny_forIn_list f (fun rest b s => ∃ i, i ≤ n ∧ rest = List.range' i (n - i) 1 ∧ I i b s) Q ?_ ?_ _ _ ⟨0, Nat.zero_le _, by simp, h⟩
  · rintro x rest b s ⟨i, hi, hr, hI⟩
    have hlt : i < n := by
      rcases Nat.lt_or_eq_of_le hi with q | q
      · exact q
      · subst q; simp at hr
    have e : n - i = (n - (i + 1)) + 1 := by (first | lia | omega)
    rw [e, List.range'_succ] at hr
    obtain ⟨rfl, hr⟩ := List.cons.inj hr
    refine wpAny_mono (turn x b s hlt hI) (fun r s' h' => ?_) fun _ _ q => q
    cases r with
    | yield b' => exact ⟨x + 1, hlt, hr, h'⟩
    | done b' => exact h'
  · rintro b s ⟨i, hi, hr, hI⟩
    have : i = n := by
      rcases Nat.lt_or_eq_of_le hi with q | q
      · have e : n - i = (n - (i + 1)) + 1 := by (first | lia | omega)
        rw [e, List.range'_succ] at hr; cases hr
      · exact q
    subst this
    exact fin b s hI

section
open Builtin
variable {b c : Array UInt8} {t u : Tok}
theorem take_eq {id : String} : Bytes.takeBufferQuiet? id (.bytes b t) 0 = pure (some (b, none)) := by
  have e0 : ((0 : Int) == Bytes.fullReadOnly) = false := by decide +kernel
  unfold Bytes.takeBufferQuiet? Bytes.takeBuffer?
  rw [KBy.special_eq KBy.look_buffer, KBy.own_buffer, e0, KBy.buffer_eq]
  kernel_rfl
theorem joinLetGo_ok {M : Model} {A : Around} {E : Value → Shared → Prop} : ∀ (taken : List (Value × Option Value)) (keep : List Value) (s : Shared) (Q : Unit → Shared → Prop), (∀ p ∈ taken, p.2 = none) → Q () s → wpAny M A (Bytes.joinLetGo taken keep) Q E s
  | [], _, s, Q, _, h => wpAny_pure h
  | (x, w) :: r, keep, s, Q, hw, h => by
    have : w = none := hw (x, w) (by simp)
    subst this
    show wpAny M A (pure () >>= fun _ => letGo _ _ >>= fun _ => Bytes.joinLetGo r keep) Q E s
    exact wpAny_bind (wpAny_pure (wpAny_bind (wpAny_letGo (joinLetGo_ok r keep s Q (fun p hp => hw p (by simp [hp])) h))))

theorem meets_bytes_join (a : Addr) (vs : List Value) (ps : List (Array UInt8)) (hv : ∀ i (h : i < vs.length), ∃ p tk, ps[i]? = some p ∧ vs[i] = .bytes p tk) (hl : vs.length = ps.length) (h2 : 2 ≤ ps.length)
    (hsz : ps.foldl (· + ·.size) (b.size * (ps.length - 1)) ≤ 16777216) (hj : (Bytes.joined b ps).size ≤ sizeLine) :
    Meets («bytes.join» ⟨[.bytes b t, .ref a], []⟩) (fun _ R s => s.heap.IsList a vs.toArray ∧ ∀ t' k, R (.ok (.ret (.bytes (Bytes.joined b ps) t'))) { s with toks := k }) := by
  have two : ∃ x y l, vs = x :: y :: l := by
    match vs, (hl.symm ▸ h2 : 2 ≤ vs.length) with
    | x :: y :: l, _ => exact ⟨x, y, l, rfl⟩
  obtain ⟨x, y, l, rfl⟩ := two
  have hget : ∀ i, i < ps.length → ∃ p tk, ps[i]? = some p ∧ (x :: y :: l).toArray.getD i Value.none = .bytes p tk := by
    intro i hi
    have hi' : i < (x :: y :: l).length := hl.symm ▸ hi
    obtain ⟨p, tk, hp, hvi⟩ := hv i hi'
    exact ⟨p, tk, hp, by rw [← hvi]; exact dif_pos hi'⟩
  have hsize : (x :: y :: l).toArray.size = ps.length := hl
  clear hv hl
  refine .of_wp fun prog w A R s hS => ?_
  obtain ⟨hL, h⟩ := hS
  obtain ⟨o, ho, hc, k, hd⟩ := id hL
  show wpAny _ _ (selfAndOne _ ⟨[.bytes b t, .ref a], []⟩ >>= fun r => _) _ _ s
  refine wpAny_bind (wpAny_of_eq (a := (Value.bytes b t, Value.ref a)) (by first | rfl | kernel_rfl) ?_)
  show wpAny _ _ (Bytes.joinItems (.ref a) >>= fun r => _) _ _ s
  refine wpAny_bind ?_
  unfold Bytes.joinItems
  refine wpAny_bind (wpAny_typeOf hL.typeIs ?_)
  rw [if_pos (by decide)]
  refine wpAny_pure ?_
  show wpAny _ _ (seqItems? (.ref a) >>= fun r => _) _ _ s
  refine wpAny_bind (wpAny_seqItems ho hd ?_)
  dsimp only
  rw [if_pos (show (Bytes.Kind.bytes == Bytes.Kind.bytes) = true from rfl)]
  · refine wpAny_bind (wpAny_range _ (Array.mk (x :: y :: l)).size (fun i st s' => st.1 = (ps.take i).toArray ∧ (∀ p ∈ st.2, p.2 = none ∧ p.1.onHeap = false) ∧ ∃ k, s' = { s with toks := k }) _ ?_ ?_ ⟨by simp, by simp, s.toks, rfl⟩)
    · rintro i st s' hi hI
      refine cps fun P hP => ?_
      obtain ⟨h1, h3, k', e⟩ := hI
      obtain ⟨p, tk, hp, hx⟩ := hget i (hsize ▸ hi)
      have hheap : (st.2.any fun x => x.1.onHeap) = false := by
        rw [List.any_eq_false]
        intro q hq
        rw [(h3 q hq).2]; exact Bool.false_ne_true
      have hip : i < ps.length := hsize ▸ hi
      have hpi : ps[i] = p := (List.getElem?_eq_some_iff.mp hp).2
      refine hP ?_
      clear hP hp hget
      obtain ⟨parts, taken⟩ := st
      subst e
      dsimp only at h1 h3 hheap ⊢
      subst h1
      refine wpAny_bind (wpAny_seqItems ho hd ?_)
      dsimp only
      rw [hx, hheap]
      rw [if_neg (show ¬ ((Bytes.Kind.bytes == Bytes.Kind.bytearray || false) = true) by decide)]
      refine wpAny_bind (wpAny_holding (wpAny_of_eq take_eq ?_))
      dsimp only
      refine wpAny_bind (wpAny_seqItems ho hd ?_)
      dsimp only
      rw [if_neg (by simp)]
      refine wpAny_pure ⟨?_, ?_, k', rfl⟩
      · dsimp only
        rw [List.take_succ_eq_append_getElem hip, hpi]; simp
      · intro q hq
        rcases List.mem_append.mp hq with q1 | q1
        · exact h3 q q1
        · simp only [List.mem_cons, List.not_mem_nil, or_false] at q1
          subst q1
          exact ⟨rfl, rfl⟩
    · rintro st s' hI
      refine cps fun P hP => ?_
      obtain ⟨h1, h3, k, e⟩ := hI
      have ht : ∀ p ∈ st.2, p.2 = none := fun q hq => (h3 q hq).1
      have hp : st.1 = ps.toArray := by rw [h1, hsize, List.take_length]
      refine hP ?_
      clear hP h1 h3
      subst e
      obtain ⟨parts, taken⟩ := st
      obtain rfl : parts = ps.toArray := hp
      refine wpAny_bind (wpAny_of_eq (a := b) rfl ?_)
      have e1 : Bytes.tooLong (Array.foldl (fun x1 x2 => x1 + x2.size) (b.size * (ps.toArray.size - 1)) ps.toArray) = false := by
        rw [← Array.foldl_toList]
        simp only [List.size_toArray]
        exact KBy.tooLong_not hsz
      dsimp only
      rw [e1, if_neg Bool.false_ne_true]
      show wpAny _ _ (mkBytes (Bytes.joined b ps) >>= fun r => _) _ _ _
      refine wpAny_bind (wpAny_mkBytes ?_ hj)
      refine wpAny_bind (wpAny_holding (wpAny_point ?_))
      exact wpAny_bind (joinLetGo_ok _ _ _ _ ht (wpAny_pure ⟨_, rfl, h _ _⟩))
end
end Mine

/- # F15 -/
namespace Mine
open PySem PySem.Calls PyProof.Rows PySem.W

section
open Builtin
variable {b c : Array UInt8} {t u : Tok}
theorem noIndex_bytes : typeLookup (.type "bytes") "__index__" = pure none := by rw [typeLookup_type, builtinLookup_eq_fast]; kernel_rfl
theorem containsIn_ok {prog : Program} {w : World} {A : Around} {E : Value → Shared → Prop} {s : Shared} {id : String} {Q : Bool → Shared → Prop} (hh : A.handled = none)
    (h : ∀ h' k, (∀ a o, s.heap.get? a = some o → h'.get? a = some o) → Q (Bytes.find? b c 0 b.size).isSome { s with heap := h', toks := k }) :
    wpAny (model prog w) A (Bytes.containsIn id (.bytes b t) (.bytes c u)) Q E s := by
  unfold Bytes.containsIn
  refine wpAny_bind (wpAny_attempt ?_)
  unfold asIndex
  refine wpAny_bind (wpAny_of_eq (a := none) (by first | rfl | kernel_rfl) ?_)
  dsimp only
  unfold callSpecial?
  refine wpAny_bind ?_
  refine wpAny_bind (wpAny_of_eq (KBy.special_eq noIndex_bytes) ?_)
  refine wpAny_pure ?_
  dsimp only
  refine wpAny_bind (wpAny_of_eq (a := "bytes") (by first | rfl | kernel_rfl) ?_)
  refine wpAny_raiseErrorMade plainExc_TypeError hh (fun h' tk e hn => ?_) (by decide +kernel)
  refine wpAny_bind (wpAny_of_eq KBy.buffer_eq ?_)
  dsimp only
  refine wpAny_bind (wpAny_of_eq KBy.buffer_eq ?_)
  dsimp only
  exact wpAny_bind (wpAny_rule (wpAny_pure (h h' tk hn.keeps)))
theorem meets_bytes_contains : Meets («bytes.__contains__» ⟨[.bytes b t, .bytes c u], []⟩) (fun A R s => A.handled = none ∧ ∀ h' k, (∀ a o, s.heap.get? a = some o → h'.get? a = some o) → R (.ok (.ret (.bool (Bytes.find? b c 0 b.size).isSome))) { s with heap := h', toks := k }) := by
  refine .of_wp fun prog w A R s hS => ?_
  obtain ⟨hh, h⟩ := hS
  show wpAny _ _ (slotArgs "__contains__" 1 ⟨[.bytes b t, .bytes c u], []⟩ >>= fun r => _) _ _ s
  refine wpAny_bind (wpAny_of_eq (a := (Value.bytes b t, [Value.bytes c u])) (by first | rfl | kernel_rfl) ?_)
  dsimp only
  refine wpAny_bind (containsIn_ok (A := A.in1) hh fun h' k hk => ?_)
  exact wpAny_pure ⟨_, rfl, h h' k hk⟩
theorem joined_nil (ps : List (List UInt8)) : Bytes.joined #[] (ps.map List.toArray) = ps.flatten.toArray := by
  unfold Bytes.joined
  have key : ∀ (ps : List (List UInt8)) (k : Nat) (acc : List UInt8), (((ps.map List.toArray).zipIdx k).foldl (fun out (x : Array UInt8 × Nat) => (if x.2 > 0 then out ++ #[] else out) ++ x.1) acc.toArray) = (acc ++ ps.flatten).toArray := by
    intro ps
    induction ps with
    | nil => intro k acc; simp
    | cons p r ih =>
      intro k acc
      simp only [List.map_cons, List.zipIdx_cons, List.foldl_cons, List.flatten_cons]
      have e : (if k > 0 then acc.toArray ++ #[] else acc.toArray) ++ p.toArray = (acc ++ p).toArray := by split <;> simp
      rw [e, ih, List.append_assoc]
  exact key ps 0 []
end

section
variable {f : Fm} {env : Env} {n : Nat} {Ψ : Value → Prop} {ρ : List Addr} {σ : St} {s : Shared} {Φ : AV → St → Prop}
theorem bytes_at {ps : List (List UInt8)} {vs : List Value} (h : VRs ρ vs (ps.map .bytes)) : ∀ i (hi : i < vs.length), ∃ p tk, (ps.map List.toArray)[i]? = some p ∧ vs[i] = .bytes p tk := by
  intro i hi
  obtain ⟨y, h1, h2⟩ := paired_get h (List.getElem?_eq_getElem hi)
  rw [List.getElem?_map] at h1
  cases q : ps[i]? with
  | none => rw [q] at h1; cases h1
  | some p =>
    rw [q] at h1
    obtain rfl := Option.some.inj h1
    obtain ⟨t, e⟩ := h2
    exact ⟨p.toArray, t, by rw [List.getElem?_map, q]; rfl, e⟩
theorem o_join_bytes {j : Nat} {ps : List (List UInt8)} (hj : ListAt σ j (ps.map .bytes)) (h2 : 2 ≤ ps.length) (hsz : ps.flatten.length ≤ 16777216) (h : Φ (.bytes ps.flatten) σ) :
    OpN f (fun vs => call (.builtin "bytes.join") vs) VR [.bytes [], .ref j] σ Φ Ψ := by
  intro ρ vs hv s r
  obtain ⟨_, _, rfl, ⟨t, rfl⟩, hv2⟩ := vrs2 hv
  obtain ⟨a, ws, rfl, hl, hw⟩ := r.isList hj hv2
  have e := joined_nil ps
  have hlen : ws.toList.length = (ps.map List.toArray).length := by rw [paired_length hw]; simp
  refine call_meets BF.slot_bytes_join (typeIs_bytes _ _ _) BF.entry_bytes_join (BF.args_bytes_join_2 _ _) (meets_bytes_join (b := #[]) a ws.toList (ps.map List.toArray) (bytes_at hw) hlen (by simpa using h2) ?_ ?_) ⟨by simpa using hl, fun t' k => ?_⟩
  · have key : ∀ (ps : List (List UInt8)) (acc : Nat), (ps.map List.toArray).foldl (· + ·.size) acc = acc + ps.flatten.length := by
      intro ps
      induction ps with
      | nil => intro acc; simp
      | cons p r ih => intro acc; simp only [List.map_cons, List.foldl_cons, List.flatten_cons, List.length_append, List.size_toArray]; rw [ih]; (first | lia | omega)
    rw [key]; simpa using hsz
  · rw [e, List.size_toArray, sizeLine_eq]; exact hsz
  · have e' : Builtin.Bytes.joined ([] : List UInt8).toArray (ps.map List.toArray) = ps.flatten.toArray := e
    show PV f ρ VR Φ (.bytes (Builtin.Bytes.joined #[] (ps.map List.toArray)) t') _
    rw [e]
    exact pv r.tk vr_bytes h
noncomputable def findL (b c : List UInt8) : Int := BM.optInt (BM.rawFind b.toArray c.toArray)
noncomputable def rfindL (b c : List UInt8) : Int := BM.optInt (BM.rawRfind b.toArray c.toArray)
noncomputable def endsL (b c : List UInt8) : Bool := BM.rawEnds b.toArray c.toArray
noncomputable def startsL (b c : List UInt8) : Bool := BM.rawStarts b.toArray c.toArray
noncomputable def digitsL (b : List UInt8) : Bool := Builtin.Bytes.allOf Builtin.Bytes.isDigit b
noncomputable def inL (b c : List UInt8) : Bool := (Builtin.Bytes.find? b.toArray c.toArray 0 b.length).isSome
theorem o_find {b c : List UInt8} (h : Φ (.int (findL b c)) σ) : OpN f (fun vs => call (.builtin "bytes.find") vs) VR [.bytes b, .bytes c] σ Φ Ψ := by
  intro ρ vs hv s r
  obtain ⟨_, _, rfl, ⟨t, rfl⟩, ⟨u, rfl⟩⟩ := vrs2 hv
  exact call_gives BF.slot_bytes_find (typeIs_bytes _ _ _) BF.entry_bytes_find (BF.args_bytes_find_2 _ _) BM.gives_find (pv r.tk vr_int h)
theorem o_rfind {b c : List UInt8} (h : Φ (.int (rfindL b c)) σ) : OpN f (fun vs => call (.builtin "bytes.rfind") vs) VR [.bytes b, .bytes c] σ Φ Ψ := by
  intro ρ vs hv s r
  obtain ⟨_, _, rfl, ⟨t, rfl⟩, ⟨u, rfl⟩⟩ := vrs2 hv
  exact call_gives BF.slot_bytes_rfind (typeIs_bytes _ _ _) BF.entry_bytes_rfind (BF.args_bytes_rfind_2 _ _) BM.gives_rfind (pv r.tk vr_int h)
theorem o_ends {b c : List UInt8} (h : Φ (.bool (endsL b c)) σ) : OpN f (fun vs => call (.builtin "bytes.endswith") vs) VR [.bytes b, .bytes c] σ Φ Ψ := by
  intro ρ vs hv s r
  obtain ⟨_, _, rfl, ⟨t, rfl⟩, ⟨u, rfl⟩⟩ := vrs2 hv
  exact call_gives FB.slot_bytes_endswith (typeIs_bytes _ _ _) FB.entry_bytes_endswith (FB.args_bytes_endswith_2 _ _) BM.gives_ends (pv r vr_bool h)
theorem o_starts {b c : List UInt8} (h : Φ (.bool (startsL b c)) σ) : OpN f (fun vs => call (.builtin "bytes.startswith") vs) VR [.bytes b, .bytes c] σ Φ Ψ := by
  intro ρ vs hv s r
  obtain ⟨_, _, rfl, ⟨t, rfl⟩, ⟨u, rfl⟩⟩ := vrs2 hv
  exact call_gives FB.slot_bytes_startswith (typeIs_bytes _ _ _) FB.entry_bytes_startswith (FB.args_bytes_startswith_2 _ _) BM.gives_starts (pv r vr_bool h)
theorem o_isdigit {b : List UInt8} (h : Φ (.bool (digitsL b)) σ) : OpN f (fun vs => call (.builtin "bytes.isdigit") vs) VR [.bytes b] σ Φ Ψ := by
  intro ρ vs hv s r
  obtain ⟨_, rfl, ⟨t, rfl⟩⟩ := vrs1 hv
  exact call_gives BF.slot_bytes_isdigit (typeIs_bytes _ _ _) BF.entry_bytes_isdigit (BF.args_bytes_isdigit_1 _) BM.gives_isdigit (pv r vr_bool h)
theorem o_lower {b : List UInt8} (hsz : b.length ≤ 16777216) (h : Φ (.bytes (b.map Builtin.Bytes.toLower)) σ) : OpN f (fun vs => call (.builtin "bytes.lower") vs) VR [.bytes b] σ Φ Ψ := by
  intro ρ vs hv s r
  obtain ⟨_, rfl, ⟨t, rfl⟩⟩ := vrs1 hv
  refine call_gives BF.slot_bytes_lower (typeIs_bytes _ _ _) BF.entry_bytes_lower (BF.args_bytes_lower_1 _) BM.gives_lower ⟨?_, pv r.tk (vr_bytes (l := b.map Builtin.Bytes.toLower)) h⟩
  rw [sizeLine_eq]; simpa using hsz
theorem o_in_bytes {b c : List UInt8} (hf : FmOk f env n) (h : Φ (.bool (inL b c)) σ) : Op2 f (compareOp .In) VR (.bytes c) (.bytes b) σ Φ Ψ := by
  rintro ρ _ _ ⟨t, rfl⟩ ⟨u, rfl⟩ s r
  refine In_slot (typeIs_bytes _ _ _) FB.slot_bytes_contains (call_meets FB.slot_bytes_contains (typeIs_bytes _ _ _) FB.entry_bytes_contains (FB.args_bytes_contains_2 _ _) meets_bytes_contains ⟨hf.handled, fun h' k hk => ?_⟩)
  refine wpAny_truthy_bool ?_
  have e : b.toArray.size = b.length := by simp
  rw [e]
  exact pv (r.keeps hk) vr_bool h
/- ## bytes times int -/
theorem one_mul {b : Array UInt8} {t u : Tok} (hb : Builtin.Bytes.tooLong (b.size * (1 : Int).toNat) = false) : Gives (Builtin.«bytes.__mul__» ⟨[.bytes b t, .int 1 u], []⟩) (.val (.bytes b t)) := by
  refine .of_wp fun M A E s Q hq => ?_
  show wpAny M A (Builtin.Bytes.repeatArgs .bytes "__mul__" ⟨[.bytes b t, .int 1 u], []⟩ >>= fun r => _) _ E s
  refine wpAny_bind (wpAny_of_eq (BMul.args_eq (by decide +kernel)) ?_)
  refine wpAny_bind (wpAny_of_eq (a := b) rfl ?_)
  have h63 : ¬ b.size * (1 : Int).toNat ≥ 2 ^ 63 := by
    unfold Builtin.Bytes.tooLong at hb
    rw [sizeLine_eq] at hb
    have := of_decide_eq_false hb
    (first | lia | omega)
  show wpAny M A (if b.size * (1 : Int).toNat ≥ 2 ^ 63 then _ else _) _ E s
  rw [if_neg h63]
  refine bm_if_true (by simp) ?_
  refine wpAny_bind (wpAny_typeOf (typeIs_bytes _ _ _) ?_)
  rw [if_pos (by decide)]
  exact wpAny_bind (wpAny_rule (wpAny_pure ⟨_, rfl, hq⟩))
theorem o_mul_bytes {b : List UInt8} {k : Int} (hb : b ≠ []) (h1 : 1 ≤ k) (hk : k ≤ 1000) (hsz : b.length ≤ 1000) (h : Φ (.bytes (List.replicate k.toNat b).flatten) σ) : Op2 f (binaryOp .Mult) VR (.bytes b) (.int k) σ Φ Ψ := by
  rintro ρ _ _ ⟨t, rfl⟩ ⟨u, rfl⟩ s r
  rcases Int.lt_or_eq_of_le h1 with q | q
  · refine bytes_mul_K hb (by (first | lia | omega)) (by (first | lia | omega)) ?_ rfl fun t' j => pv r.tk vr_bytes h
    have : b.length * k.toNat ≤ 1000 * 1000 := Nat.mul_le_mul hsz (by (first | lia | omega))
    (first | lia | omega)
  · subst q
    have e : (List.replicate (1 : Int).toNat b).flatten = b := by simp
    rw [e] at h
    refine wpAny_binaryOp_repeat (T := "bytes") (U := "int") (by decide) (fun s' => typeIs_bytes s' _ t) (fun s' => typeIs_int s' 1 u) BMul.noFill F.fills_int_mul F.slot_int_rmul BMul.repeats F.slot_int_index.lookup
      (call_gives F.slot_int_rmul (typeIs_int s 1 u) F.entry_int_rmul (F.args_int_rmul_2 _ _) (BMul.int_declines 1 u _ t)
        ⟨rfl, call_gives BMul.slot_mul (typeIs_bytes s _ t) BMul.entry_mul (BMul.args_mul _ _) (one_mul (KBy.tooLong_not (by simp; (first | lia | omega)))) (pv r vr_bytes h)⟩)
end
end Mine

/- # F16 -/
namespace Mine
open PySem PySem.Calls PyProof.Rows PySem.W

noncomputable def enc (l : List Nat) : List UInt8 := l.flatMap Str.utf8Of
noncomputable def Sgn (c : Nat) : Prop := c < 128 ∨ c = 233
theorem Sgn.clean {c : Nat} (h : Sgn c) : Str.isSurrogate c = false := by
  unfold Str.isSurrogate
  rcases h with h | h
  · simp; (first | lia | omega)
  · subst h; decide
theorem Sgn.len {c : Nat} (h : Sgn c) : (Str.utf8Of c).length ≤ 2 := by
  unfold Str.utf8Of
  rcases h with h | h
  · simp [h]
  · subst h; decide
theorem enc_len {l : List Nat} (h : ∀ c ∈ l, Sgn c) : (enc l).length ≤ 2 * l.length := by
  induction l with
  | nil => simp [enc]
  | cons c r ih =>
    have h1 := (h c (by simp)).len
    have h2 := ih fun x hx => h x (by simp [hx])
    simp only [enc, List.flatMap_cons, List.length_append, List.length_cons] at h2 ⊢
    (first | lia | omega)

section
open Builtin Builtin._codecs
variable {b c : Array UInt8} {t u : Tok}
theorem wpAny_range1 {M : Model} {A : Around} {E : Value → Shared → Prop} {β : Type} (f : Nat → β → Sem (ForInStep β)) (n : Nat) (b b₁ : β) (Q : β → Shared → Prop) {s : Shared}
    (h0 : 0 < n → wpAny M A (f 0 b) (fun r s' => r = .yield b₁ ∧ s' = s) E s) (h1 : ∀ k, wpAny M A (f k b₁) (fun r s' => match r with | .yield _ => False | .done b' => Q b' s') E s)
    (f0 : n = 0 → Q b s) (f1 : Q b₁ s) : wpAny M A (forIn [0:n] b f) Q E s := by
  refine wpAny_range f n (fun k st s' => s' = s ∧ ((k = 0 ∧ st = b) ∨ st = b₁)) Q ?_ ?_ ⟨rfl, .inl ⟨rfl, rfl⟩⟩
  · rintro k st s' hk ⟨rfl, ⟨rfl, rfl⟩ | rfl⟩
    · refine wpAny_mono (h0 hk) (fun r s'' h => ?_) fun _ _ q => q
      rw [h.1]
      exact ⟨h.2, .inr rfl⟩
    · refine wpAny_mono (h1 k) (fun r s'' h => ?_) fun _ _ q => q
      cases r with
      | yield _ => exact False.elim h
      | done _ => exact h
  · rintro st s' ⟨rfl, ⟨e, rfl⟩ | rfl⟩
    · exact f0 e
    · exact f1
theorem foldl_enc : ∀ (l : List Nat) (acc : List UInt8), List.foldl (fun (acc : Array UInt8) y => acc ++ (utf8Codec.bytesOf y).toArray) acc.toArray l = (acc ++ enc l).toArray := by
  intro l
  induction l with
  | nil => intro acc; simp [enc]
  | cons x r ih =>
    intro acc
    rw [List.foldl_cons, List.append_toArray, ih]
    simp [enc, utf8Codec]
theorem encodeNarrow_ok {M : Model} {A : Around} {E : Value → Shared → Prop} {s : Shared} {id : String} {self : Value} {l : List Nat} {Q : Array UInt8 → Shared → Prop} (hl : ∀ c ∈ l, Sgn c) (hsz : l.length ≤ 1000000) (h : Q (enc l).toArray s) :
    wpAny M A (encodeNarrow id utf8Codec none self ⟨l.toArray⟩) Q E s := by
  have hbad : ∀ c ∈ l, utf8Codec.bad c = false := fun c hc => (hl c hc).clean
  have e1 : Array.findIdx? utf8Codec.bad (l.toArray.extract 0) = none := by
    rw [Array.findIdx?_eq_none_iff]
    intro x hx
    have : x ∈ l := by simpa using hx
    exact hbad x this
  have e2 : (l.toArray.extract 0).size = l.length := by simp
  have e3 : Array.foldl (fun acc y => acc ++ (utf8Codec.bytesOf y).toArray) #[] ((l.toArray.extract 0).extract 0 l.length) = (enc l).toArray := by
    rw [← Array.foldl_toList]
    have := foldl_enc l []
    simpa using this
  have o1 : ¬ (enc l).toArray.size > sizeLine := by
    rw [sizeLine_eq]
    exact Nat.not_lt.mpr (Nat.le_trans (show (enc l).toArray.size ≤ 2000000 from Nat.le_trans (enc_len hl) (Nat.mul_le_mul_left 2 hsz)) (by decide))
  have o0 : ¬ (#[] : Array UInt8).size > sizeLine := by
    rw [sizeLine_eq]
    exact Nat.not_lt.mpr (Nat.zero_le _)
  have e0 : l.toArray[l.length]? = none := by simp
  have ez : ∀ hpos : 0 < l.length, l.toArray[0]? = some l[0] := fun hpos => by simp [hpos]
  unfold encodeNarrow
  dsimp only
  refine wpAny_bind (wpAny_range1 _ l.length _ (l.length, (enc l).toArray, {}) _ (fun hk => ?_) (fun k => ?_) (fun e => ?_) ?_)
  · rw [if_neg o0, ez hk]
    dsimp only
    rw [hbad _ (List.getElem_mem hk), if_pos (by decide), e1, e2]
    simp only [Option.getD_none, Nat.zero_add]
    rw [e3]
    exact wpAny_pure ⟨rfl, rfl⟩
  · dsimp only
    rw [if_neg o1, e0]
    exact wpAny_pure (wpAny_pure h)
  · obtain rfl : l = [] := List.eq_nil_of_length_eq_zero e
    exact wpAny_pure h
  · exact wpAny_pure h
theorem meets_encode {l : List Nat} (hl : ∀ c ∈ l, Sgn c) (hsz : l.length ≤ 1000000) : Meets («str.encode» ⟨[.str ⟨l.toArray⟩ t], []⟩) (fun _ R s => ∀ t' k, R (.ok (.ret (.bytes (enc l).toArray t'))) { s with toks := k }) := by
  refine .of_wp fun prog w A R s h => ?_
  rw [encode_tree]
  refine wpAny_bind ?_
  rw [encodeRoad_utf8]
  refine wpAny_bind (encodeNarrow_ok hl hsz (wpAny_mkBytes (wpAny_pure ⟨_, rfl, h _ _⟩) ?_))
  have := enc_len hl
  rw [sizeLine_eq]; simp; (first | lia | omega)
end
section
variable {f : Fm} {env : Env} {n : Nat} {Ψ : Value → Prop} {ρ : List Addr} {σ : St} {s : Shared} {Φ : AV → St → Prop}
theorem o_encode {l : List Nat} (hl : ∀ c ∈ l, Sgn c) (hsz : l.length ≤ 1000000) (h : Φ (.bytes (enc l)) σ) : OpN f (fun vs => call (.builtin "str.encode") vs) VR [.str l] σ Φ Ψ := by
  intro ρ vs hv s r
  obtain ⟨_, rfl, ⟨t, rfl⟩⟩ := vrs1 hv
  exact call_meets F.slot_str_encode (typeIs_str _ _ _) F.entry_str_encode (F.args_str_encode_1 _) (meets_encode hl hsz) (fun t' k => pv r.tk vr_bytes h)
end
end Mine

/- # F17 -/
namespace Mine
open PySem PySem.Calls PyProof.Rows PySem.W

section
open Builtin Builtin._codecs
variable {b c : Array UInt8} {t u : Tok}
theorem utf8At_low {b : Array UInt8} {p c : Nat} (h : (b.getD p 0).toNat = c) (hc : c < 128) : Bytes.utf8At b p = (.char c, p + 1) := by
  unfold Bytes.utf8At
  simp only [h]
  rw [if_pos hc]
theorem utf8At_e {b : Array UInt8} {p : Nat} (h : b.getD p 0 = 195) (h1 : b[p + 1]? = some 169) : Bytes.utf8At b p = (.char 233, p + 2) := by
  unfold Bytes.utf8At
  have e : (b.getD p 0).toNat = 195 := by rw [h]; rfl
  simp only [e]
  rw [if_neg (by decide)]
  simp only [show (decide (194 ≤ 195) && decide (195 ≤ 223)) = true from by decide, if_true]
  simp only [List.range_succ, List.range_zero, List.nil_append, List.map_cons, List.map_nil, List.foldl_cons, List.foldl_nil, Nat.zero_add, h1]
  rfl
theorem enc_append (a b : List Nat) : enc (a ++ b) = enc a ++ enc b := by simp [enc]
theorem enc_cons (c : Nat) (r : List Nat) : enc (c :: r) = Str.utf8Of c ++ enc r := by simp [enc]
theorem utf8Of_low {c : Nat} (h : c < 128) : Str.utf8Of c = [c.toUInt8] := by
  unfold Str.utf8Of; simp [h]
theorem utf8Of_e : Str.utf8Of 233 = [195, 169] := by decide
theorem at_enc {l : List Nat} (hl : ∀ c ∈ l, Sgn c) {i : Nat} (hi : i < l.length) : Bytes.utf8At (enc l).toArray (enc (l.take i)).length = (.char l[i], (enc (l.take (i + 1))).length) := by
  have e : enc l = enc (l.take i) ++ (Str.utf8Of l[i] ++ enc (l.drop (i + 1))) := by
    rw [← enc_cons, List.getElem_cons_drop, ← enc_append, List.take_append_drop]
  have e2 : (enc (l.take (i + 1))).length = (enc (l.take i)).length + (Str.utf8Of l[i]).length := by
    rw [List.take_succ_eq_append_getElem hi, enc_append]
    simp [enc]
  rcases hl _ (List.getElem_mem hi) with h | h
  · have e3 := utf8Of_low h
    rw [e2, e3]
    refine utf8At_low ?_ h
    rw [e, e3]
    simp [Array.getD]
    (first | lia | omega)
  · rw [e2, h, utf8Of_e]
    refine utf8At_e ?_ ?_
    · rw [e, h, utf8Of_e]; simp [Array.getD]
    · rw [e, h, utf8Of_e]; simp
theorem enc_pos (c : Nat) : 1 ≤ (Str.utf8Of c).length := by
  unfold Str.utf8Of
  split
  · simp
  · split
    · simp
    · split <;> simp
theorem enc_len_ge (l : List Nat) : l.length ≤ (enc l).length := by
  induction l with
  | nil => simp
  | cons c r ih => rw [enc_cons, List.length_append, List.length_cons]; have := enc_pos c; (first | lia | omega)
theorem enc_take_lt {l : List Nat} {i : Nat} (hi : i < l.length) : (enc (l.take i)).length < (enc l).length := by
  have e : enc l = enc (l.take i) ++ enc (l.drop i) := by rw [← enc_append, List.take_append_drop]
  have := enc_len_ge (l.drop i)
  rw [e, List.length_append]
  simp at this
  (first | lia | omega)
noncomputable def decStep (id : String) (b : Array UInt8) (_ : Nat) (st : Nat × Array Nat × Faults) : Sem (ForInStep (Nat × Array Nat × Faults)) := do
  if st.2.1.size > sizeLine then
    unsupported "str:memory"
  if st.1 ≥ b.size then pure (ForInStep.done (st.1, st.2.1, st.2.2))
  else match utf8Decoder.find true b st.1 with
    | Found.text cs nx => pure (ForInStep.yield (nx, st.2.1 ++ cs.toArray, st.2.2))
    | Found.refuse tag => do
      unsupported (toString id ++ toString ":" ++ toString tag)
      pure (ForInStep.yield (st.1, st.2.1, st.2.2))
    | Found.bad stop reason mayGrow =>
      if (mayGrow && !true) = true then do
        rule (toString id ++ toString ".held-back")
        pure (ForInStep.done (st.1, st.2.1, st.2.2))
      else do
        rule (toString id ++ toString ".fault")
        let __x ← decodeFault id st.2.2 none utf8Decoder.own utf8Decoder.name b st.1 stop reason
        pure (ForInStep.yield (__x.2.snd, st.2.1 ++ __x.2.fst, __x.fst))
theorem decLoop {id : String} {l : List Nat} (hl : ∀ c ∈ l, Sgn c) (hsz : l.length ≤ 1000000) (fz : Faults) : ∀ m k, k + m = (enc l).length → k ≤ l.length →
    forIn (List.range' k m 1) ((enc (l.take k)).length, (l.take k).toArray, fz) (decStep id (enc l).toArray) = pure ((enc l).length, l.toArray, fz)
  | 0, k, h1, h2 => by
    have := enc_len_ge l
    have e : k = l.length := by (first | lia | omega)
    subst e
    simp
  | m + 1, k, h1, h2 => by
    rw [List.range'_succ, List.forIn_cons]
    have hs : ¬ (l.take k).toArray.size > sizeLine := by rw [sizeLine_eq]; simp; (first | lia | omega)
    rcases Nat.lt_or_eq_of_le h2 with q | q
    · have hp : ¬ (enc (l.take k)).length ≥ (enc l).toArray.size := by have := enc_take_lt q; simp; (first | lia | omega)
      have hf : utf8Decoder.find true (enc l).toArray (enc (l.take k)).length = Found.text [l[k]] (enc (l.take (k + 1))).length := by
        show (match Bytes.utf8At (enc l).toArray (enc (l.take k)).length with | (.char c, nx) => Found.char c nx | (.bad _ stop reason, _) => _) = _
        rw [at_enc hl q]
        rfl
      have e : decStep id (enc l).toArray k ((enc (l.take k)).length, (l.take k).toArray, fz) = pure (ForInStep.yield ((enc (l.take (k + 1))).length, (l.take (k + 1)).toArray, fz)) := by
        unfold decStep
        simp only [if_neg hs, if_neg hp, hf]
        rw [List.take_succ_eq_append_getElem q]
        simp
      rw [e, pure_bind]
      exact decLoop hl hsz fz m (k + 1) (by (first | lia | omega)) q
    · subst q
      have e : decStep id (enc l).toArray l.length ((enc (l.take l.length)).length, (l.take l.length).toArray, fz) = pure (ForInStep.done ((enc l).length, l.toArray, fz)) := by
        unfold decStep
        rw [List.take_length] at hs ⊢
        simp only [if_neg hs]
        rw [if_pos (by simp)]
      rw [e, pure_bind]
theorem runDecoder_eq {l : List Nat} (hl : ∀ c ∈ l, Sgn c) (hsz : l.length ≤ 1000000) (id : String) : runDecoder id utf8Decoder none true (enc l).toArray 0 [] = pure (l.toArray, (enc l).length) := by
  unfold runDecoder
  dsimp only
  rw [Std.Legacy.Range.forIn_eq_forIn_range']
  have e0 : ([0:(enc l).toArray.size] : Std.Legacy.Range).size = (enc l).length := by simp [Std.Legacy.Range.size]
  have key := decLoop (id := id) hl hsz { held := [] } (enc l).length 0 (by (first | lia | omega)) (Nat.zero_le _)
  show (forIn (List.range' 0 ([0:(enc l).toArray.size] : Std.Legacy.Range).size 1) _ _ >>= _) = _
  rw [e0]
  have key' : forIn (List.range' 0 (enc l).length 1) (0, #[], { held := [] }) (decStep id (enc l).toArray) = pure ((enc l).length, l.toArray, { held := [] }) := key
  show (forIn (List.range' 0 (enc l).length 1) (0, #[], { held := [] }) (decStep id (enc l).toArray) >>= fun r => pure (r.2.1, r.1)) = _
  rw [key', pure_bind]
end
section
variable {f : Fm} {env : Env} {n : Nat} {Ψ : Value → Prop} {ρ : List Addr} {σ : St} {s : Shared} {Φ : AV → St → Prop}
theorem o_decode {b : List UInt8} {l : List Nat} (he : b = enc l) (hne : l ≠ []) (hl : ∀ c ∈ l, Sgn c) (hsz : l.length ≤ 1000000) (h : Φ (.str l) σ) : OpN f (fun vs => call (.builtin "bytes.decode") vs) VR [.bytes b] σ Φ Ψ := by
  intro ρ vs hv s r
  obtain ⟨_, rfl, ⟨t, rfl⟩⟩ := vrs1 hv
  subst he
  have h1 := enc_len_ge l
  cases hb : enc l with
  | nil => rw [hb] at h1; exact absurd (List.eq_nil_of_length_eq_zero (by simpa using h1)) hne
  | cons c cs =>
    refine KBd.decode (x := ⟨l.toArray⟩) (n := (enc l).length) (fun id => ?_) (by rw [str_len]; (first | lia | omega)) (fun t' k => pv r.tk vr_str h)
    rw [← hb]
    exact runDecoder_eq hl hsz id
end
end Mine

/- # F18 -/
namespace Mine
open PySem PySem.Calls PyProof.Rows PySem.W PySem.NumText

/- ## int() of a text -/
theorem text_wp {M : Model} {A : Around} {E : Value → Shared → Prop} {s : Shared} {Q : Value → Shared → Prop} {v : Value} {text : List Nat} {n : Int} {base : Nat}
    (hs : (text.takeWhile (· != 0)).length ≤ 640) (hr : (int_private% "readNumeral") 0 base (text.takeWhile (· != 0)) = (int_private% "Numeral.value") n)
    (ha : ((text.takeWhile (· != 0)).length == text.length) = true) (h : Q (.int n s.toks) { s with toks := s.toks + 1 }) :
    wpAny M A ((int_private% "intFromText") v text base) Q E s := by
  obtain ⟨hp, g, d, tk, os⟩ := s
  repeat (any_goals (first
    | assumption
    | (with_reducible refine wpAny_ite_true (decide_eq_true hs) ?_)
    | (with_reducible refine wpAny_ite_true (decide_eq_true ha) ?_)
    | wp_step))
  all_goals (try rw [hr])
  all_goals (try dsimp only)
  repeat (any_goals (first
    | assumption
    | (with_reducible refine wpAny_ite_true (decide_eq_true hs) ?_)
    | (with_reducible refine wpAny_ite_true (decide_eq_true ha) ?_)
    | wp_step))

structure ReadsAs (base : Nat) (text : List Nat) (n : Int) : Prop where
  len : (text.takeWhile (· != 0)).length ≤ 640
  val : (int_private% "readNumeral") 0 base (text.takeWhile (· != 0)) = (int_private% "Numeral.value") n
  all : ((text.takeWhile (· != 0)).length == text.length) = true
/- the number that base-b digits tell -/
noncomputable def valOf (base : Nat) (ds : List Nat) : Nat := ds.foldl (fun acc d => acc * base + d) 0
noncomputable def dig (c : Nat) : Nat := (digit? c).getD 0
theorem digits_all {base : Nat} : ∀ (l : List Nat) (acc : Array Nat) (a : Bool), (∀ c ∈ l, c ≠ 95 ∧ ∃ d, digit? c = some d ∧ d < base) → l.foldlM (NumText.step base) (acc, a) = some (acc ++ (l.map dig).toArray, a || !l.isEmpty)
  | [], acc, a, _ => by simp
  | c :: r, acc, a, h => by
    obtain ⟨h1, d, h2, h3⟩ := h c (by simp)
    have e : NumText.step base (acc, a) c = some (acc.push d, true) := by
      unfold NumText.step
      rw [if_neg (by simpa using h1), h2]
      simp [h3]
    rw [List.foldlM_cons, e]
    show (r.foldlM (NumText.step base) (acc.push d, true)) = _
    rw [digits_all r _ _ fun x hx => h x (by simp [hx])]
    simp [dig, h2]
theorem tw_all {p : Nat → Bool} : ∀ l : List Nat, (∀ c ∈ l, p c = true) → l.takeWhile p = l
  | [], _ => rfl
  | c :: r, h => by rw [List.takeWhile_cons_of_pos (h c (by simp)), tw_all r fun x hx => h x (by simp [hx])]
noncomputable def hxs : List Nat := [48, 49, 50, 51, 52, 53, 54, 55, 56, 57, 97, 98, 99, 100, 101, 102, 65, 66, 67, 68, 69, 70]
theorem hxs_is : ∀ c ∈ hxs, (c != 0) = true ∧ blank c = false ∧ (c ≠ 45 ∧ c ≠ 43 ∧ c ≠ 95) ∧ ((c == 120 || c == 88) = false ∧ (c == 111 || c == 79) = false) ∧ digit? c = some (dig c) ∧ dig c < 16 ∧ c < 128 := by decide +kernel
noncomputable def digs : List Nat := [48, 49, 50, 51, 52, 53, 54, 55, 56, 57]
theorem digs_is : ∀ c ∈ digs, c ∈ hxs ∧ dig c < 10 ∧ c < 128 := by decide +kernel
theorem reads_of {base : Nat} (hb : base = 10 ∨ base = 16) {l : List Nat} (hne : l ≠ []) (hx : ∀ c ∈ l, c ∈ hxs) (hl : ∀ c ∈ l, dig c < base) (hlen : l.length ≤ 640) : ReadsAs base l (valOf base (l.map dig)) := by
  have e1 : l.takeWhile (· != 0) = l := tw_all l fun c hc => (hxs_is c (hx c hc)).1
  have nb : ∀ c ∈ l, blank c = false := fun c hc => (hxs_is c (hx c hc)).2.1
  have db : ∀ l' : List Nat, (∀ c ∈ l', blank c = false) → l'.dropWhile blank = l' := by
    intro l' h
    cases l' with
    | nil => rfl
    | cons c r => exact List.dropWhile_cons_of_neg (by rw [h c (.head _)]; exact Bool.false_ne_true)
  have e2 : l.dropWhile blank = l := db l nb
  obtain ⟨c, r, rfl⟩ := List.exists_cons_of_ne_nil hne
  have hc := (hxs_is c (hx c (.head _))).2.2.1
  have e3 : sign (c :: r) = (false, c :: r) := by
    unfold sign
    split
    · rename_i h; exact absurd (List.cons.inj h).1 hc.1
    · rename_i h; exact absurd (List.cons.inj h).1 hc.2.1
    · rfl
  have hp : prefix? (c :: r) = none ∨ prefix? (c :: r) = some 2 := by
    unfold prefix?
    split
    · rename_i c' r' h
      obtain ⟨rfl, rfl⟩ := List.cons.inj h
      have h1 := (hxs_is c' (hx c' (.tail _ (.head _)))).2.2.2.1
      rw [h1.1, h1.2]
      cases (c' == 98 || c' == 66)
      · exact .inl rfl
      · exact .inr rfl
    · exact .inl rfl
  have e4 : based base (c :: r) = (base, false, c :: r) := by
    rcases hb with rfl | rfl
    · exact based_ten _
    · unfold based
      rcases hp with hp | hp <;> rw [hp] <;> rfl
  have e5 : ((c :: r).reverse.dropWhile blank).reverse = c :: r := by
    rw [db _ (fun x hx => nb x (List.mem_reverse.mp hx)), List.reverse_reverse]
  have e6 : digits? base (c :: r) = some ((c :: r).map dig).toArray := by
    unfold digits?
    rw [digits_all (c :: r) #[] false fun x hy => ⟨(hxs_is x (hx x hy)).2.2.1.2.2, _, (hxs_is x (hx x hy)).2.2.2.2.1, hl x hy⟩, Array.empty_append]
    rfl
  refine ⟨e1.symm ▸ hlen, ?_, by rw [e1, beq_self_eq_true]⟩
  have hs : ¬ ((base == 10 && decide (((c :: r).map dig).toArray.size > 6000)) = true) := by
    rw [show ((c :: r).map dig).toArray.size = (c :: r).length from List.length_map .., decide_eq_false (Nat.not_lt.mpr (Nat.le_trans hlen (by decide))), Bool.and_false]
    exact Bool.false_ne_true
  have hv : ((c :: r).map dig).toArray.foldl (fun acc d => acc * base + d) 0 = valOf base ((c :: r).map dig) := by
    rw [← Array.foldl_toList]; rfl
  rw [e1, readNumeral_eq, e2, e3]
  dsimp only
  rw [e4]
  dsimp only
  rw [e5, e6]
  unfold judge
  dsimp only
  rw [show (0 != 0) = false from rfl, Bool.and_false, Bool.false_and, if_neg Bool.false_ne_true, if_neg hs, Bool.false_and, if_neg Bool.false_ne_true, hv]
  rfl

theorem bytes_int : typeLookup (.type "bytes") "__int__" = pure none := by rw [typeLookup_type, builtinLookup_eq_fast]; kernel_rfl
theorem bytes_trunc : typeLookup (.type "bytes") "__trunc__" = pure none := by rw [typeLookup_type, builtinLookup_eq_fast]; kernel_rfl
structure Hold (p : Prop) : Prop where
  out : p
set_option maxHeartbeats 4000000 in
theorem gives_int_str {x : PySem.Str} {u : Tok} {n : Int} (ha : x.cps.all (· < 128) = true) (hn : ReadsAs 10 x.cps.toList n) : Gives (Builtin.«int.__new__» ⟨[.type "int", .str x u], []⟩) (.int n) :=
  .of_wp fun M A E s Q h => by
    obtain ⟨hp, g, d, tk, os⟩ := s
    have f1 := F.conv_sub_int
    have f2 := F.madeHere_int
    have f3 := KIN.str_int
    have f4 := KIN.str_idx
    have f5 := KIN.str_trunc
    have f6 : typeOf (.str x u) = pure (.type "str") := rfl
    have hk := Hold.mk (And.intro ha hn)
    clear hn ha
    repeat (any_goals (first
      | assumption
      | ((with_reducible show wpAny _ _ ((int_private% "intFromText") _ _ _) _ _ _); rw [hk.out.1, if_pos rfl]; refine text_wp hk.out.2.1 hk.out.2.2 hk.out.2.3 ?_)
      | wp_step))
    all_goals first | exact ⟨_, rfl, h⟩ | skip
set_option maxHeartbeats 4000000 in
theorem gives_int_bytes {b : Array UInt8} {u : Tok} {n : Int} (hn : ReadsAs 10 (b.toList.map (·.toNat)) n) : Gives (Builtin.«int.__new__» ⟨[.type "int", .bytes b u], []⟩) (.int n) :=
  .of_wp fun M A E s Q h => by
    obtain ⟨hp, g, d, tk, os⟩ := s
    have f1 := F.conv_sub_int
    have f2 := F.madeHere_int
    have f3 := bytes_int
    have f4 := noIndex_bytes
    have f5 := bytes_trunc
    have f6 : typeOf (.bytes b u) = pure (.type "bytes") := rfl
    have hk := Hold.mk hn
    clear hn
    repeat (any_goals (first
      | assumption
      | ((with_reducible show wpAny _ _ ((int_private% "intFromText") _ _ _) _ _ _); refine text_wp hk.out.1 hk.out.2 hk.out.3 ?_)
      | wp_step))
    all_goals first | exact ⟨_, rfl, h⟩ | skip
set_option maxHeartbeats 4000000 in
theorem gives_int_16 {x : PySem.Str} {u t : Tok} {n : Int} (ha : x.cps.all (· < 128) = true) (hn : ReadsAs 16 x.cps.toList n) : Gives (Builtin.«int.__new__» ⟨[.type "int", .str x u, .int 16 t], []⟩) (.int n) :=
  .of_wp fun M A E s Q h => by
    obtain ⟨hp, g, d, tk, os⟩ := s
    have f1 := F.conv_sub_int
    have f2 := F.madeHere_int
    have f3 := KIN.str_int
    have f4 := KIN.str_idx
    have f5 := KIN.str_trunc
    have f6 : typeOf (.str x u) = pure (.type "str") := rfl
    have hk := Hold.mk (And.intro ha hn)
    clear hn ha
    repeat (any_goals (first
      | assumption
      | ((with_reducible show wpAny _ _ ((int_private% "intFromText") _ _ _) _ _ _); rw [hk.out.1, if_pos rfl]; refine text_wp hk.out.2.1 hk.out.2.2 hk.out.2.3 ?_)
      | wp_step))
    all_goals first | exact ⟨_, rfl, h⟩ | skip
end Mine

/- # F19 -/
namespace Mine
open PySem PySem.Calls PyProof.Rows PySem.W PySem.NumText

theorem typeCall_int_2 (a b : Value) : checkTypeCall "int" ⟨[a, b], []⟩ = pure () := by kernel_rfl
theorem newCall_int_2 (a b : Value) : checkBuiltinCall "int.__new__" ⟨[.type "int", a, b], []⟩ = pure () := by kernel_rfl

section
variable {f : Fm} {env : Env} {n : Nat} {Ψ : Value → Prop} {ρ : List Addr} {σ : St} {s : Shared} {Φ : AV → St → Prop}
theorem vr_strx {x : Str} {t : Tok} : VR ρ (.str x t) (.str x.cps.toList) := ⟨t, by simp⟩
theorem o_int_str {l : List Nat} {k : Int} (ha : ∀ c ∈ l, c < 128) (hn : ReadsAs 10 l k) (h : Φ (.int k) σ) : OpN f (fun vs => call (.type "int") vs) VR [.str l] σ Φ Ψ := by
  intro ρ vs hv s r
  obtain ⟨_, rfl, ⟨t, rfl⟩⟩ := vrs1 hv
  exact call_int_1 (gives_int_str (by rw [← Array.all_toList, List.all_eq_true]; simpa using ha) (by simpa using hn)).meets (show (Made.int k).post _ s from ⟨rfl, pv r.tk vr_int h⟩)
theorem o_int_bytes {b : List UInt8} {k : Int} (hn : ReadsAs 10 (b.map (·.toNat)) k) (h : Φ (.int k) σ) : OpN f (fun vs => call (.type "int") vs) VR [.bytes b] σ Φ Ψ := by
  intro ρ vs hv s r
  obtain ⟨_, rfl, ⟨t, rfl⟩⟩ := vrs1 hv
  exact call_int_1 (gives_int_bytes (by simpa using hn)).meets (show (Made.int k).post _ s from ⟨rfl, pv r.tk vr_int h⟩)
theorem o_int_16 {l : List Nat} {k : Int} (ha : ∀ c ∈ l, c < 128) (hn : ReadsAs 16 l k) (h : Φ (.int k) σ) : OpN f (fun vs => call (.type "int") vs) VR [.str l, .int 16] σ Φ Ψ := by
  intro ρ vs hv s r
  obtain ⟨_, _, rfl, ⟨t, rfl⟩, ⟨u, rfl⟩⟩ := vrs2 hv
  exact callType_new F.called_int F.newNe_int (typeCall_int_2 _ _) (newCall_int_2 _ _) (fun obj => F.args_object_init_3 obj _ _) F.entry_int_new
    (gives_int_16 (by rw [← Array.all_toList, List.all_eq_true]; simpa using ha) (by simpa using hn)).meets (show (Made.int k).post _ s from ⟨rfl, pv r.tk vr_int h⟩)
theorem o_ord {c : Nat} (h : Φ (.int c) σ) : OpN f (fun vs => call (.builtin "ord") vs) VR [.str [c]] σ Φ Ψ := by
  intro ρ vs hv s r
  obtain ⟨_, rfl, ⟨t, rfl⟩⟩ := vrs1 hv
  exact P.ord_of_char (pv r.tk vr_int h)
theorem o_range1 {k : Int} (h : Φ (.ref σ.mem.length) (σ.new (.rng 0 k 1))) : OpN f (fun vs => call (.type "range") vs) VR [.int k] σ Φ Ψ := by
  intro ρ vs hv s r
  obtain ⟨_, rfl, ⟨t, rfl⟩⟩ := vrs1 hv
  exact call_range_1 (pv_new (o := .rng 0 k 1) r ⟨_, _, _, rfl⟩ h)
theorem o_range2 {a k : Int} (h : Φ (.ref σ.mem.length) (σ.new (.rng a k 1))) : OpN f (fun vs => call (.type "range") vs) VR [.int a, .int k] σ Φ Ψ := by
  intro ρ vs hv s r
  obtain ⟨_, _, rfl, ⟨t, rfl⟩, ⟨u, rfl⟩⟩ := vrs2 hv
  exact call_range_2 (pv_new (o := .rng a k 1) r ⟨_, _, _, rfl⟩ h)
theorem o_str_int {k : Int} (hk : k.natAbs.log2 < 1920) (h : Φ (.str (toString k : PySem.Str).cps.toList) σ) : OpN f (fun vs => call (.type "str") vs) VR [.int k] σ Φ Ψ := by
  intro ρ vs hv s r
  obtain ⟨_, rfl, ⟨t, rfl⟩⟩ := vrs1 hv
  refine P.str_of_int hk ?_
  have := pv (f := f) (Φ := Φ) (R := VR) (v := .str (toString k : PySem.Str) s.toks) (r.tk (tk := s.toks + 1)) vr_strx h
  exact this
noncomputable def lstripL (x y : List Nat) : List Nat := (Txt.lstripChars ⟨x.toArray⟩ ⟨y.toArray⟩).cps.toList
noncomputable def upperL (x : List Nat) : List Nat := (Txt.upper ⟨x.toArray⟩).cps.toList
noncomputable def joinL (x : List Nat) (ws : List (List Nat)) : List Nat := (Txt.join ⟨x.toArray⟩ (ws.map fun w => ⟨w.toArray⟩)).cps.toList
theorem o_lstrip {x y : List Nat} (hsz : x.length ≤ 16777216) (h : Φ (.str (lstripL x y)) σ) : OpN f (fun vs => call (.builtin "str.lstrip") vs) VR [.str x, .str y] σ Φ Ψ := by
  intro ρ vs hv s r
  obtain ⟨_, _, rfl, ⟨t, rfl⟩, ⟨u, rfl⟩⟩ := vrs2 hv
  exact SC.lstripChars (fun t' k => pv r.tk vr_strx h) (by rw [str_len, sizeLine_eq]; exact hsz)
theorem o_upper {x : List Nat} (hsz : (upperL x).length ≤ 16777216) (h : Φ (.str (upperL x)) σ) : OpN f (fun vs => call (.builtin "str.upper") vs) VR [.str x] σ Φ Ψ := by
  intro ρ vs hv s r
  obtain ⟨_, rfl, ⟨t, rfl⟩⟩ := vrs1 hv
  refine SC.upper ?_ (pv r.tk vr_strx h)
  have e : (Txt.upper ⟨x.toArray⟩).length = (upperL x).length := by simp [upperL, Str.length]
  rw [e]
  simp [Builtin.Str.tooLong, sizeLine_eq]; exact hsz
theorem strs_form {ws : List (List Nat)} : ∀ {vs : List Value}, VRs ρ vs (ws.map .str) → ∃ l : List (Str × Tok), vs = strValues l ∧ l.map (·.1) = ws.map fun w => ⟨w.toArray⟩ := by
  induction ws with
  | nil => intro vs h; cases h; exact ⟨[], rfl, rfl⟩
  | cons w r ih =>
    intro vs h
    cases h with
    | cons h1 h2 =>
      obtain ⟨t, rfl⟩ := h1
      obtain ⟨l, rfl, e⟩ := ih h2
      exact ⟨(⟨w.toArray⟩, t) :: l, rfl, by simp [e]⟩
theorem o_join {x : List Nat} {j : Nat} {ws : List (List Nat)} (hj : ListAt σ j (ws.map .str)) (hsz : (ws.map (·.length)).sum + ws.length * x.length ≤ 16777216) (h : Φ (.str (joinL x ws)) σ) :
    OpN f (fun vs => call (.builtin "str.join") vs) VR [.str x, .ref j] σ Φ Ψ := by
  intro ρ vs hv s r
  obtain ⟨_, _, rfl, ⟨t, rfl⟩, hv2⟩ := vrs2 hv
  obtain ⟨a, us, rfl, hl, hw⟩ := r.isList hj hv2
  obtain ⟨l, e1, e2⟩ := strs_form hw
  have hl' : s.heap.IsList a (strValues l).toArray := by rw [← e1]; simpa using hl
  refine SC.join hl' e2 ?_ (fun t' k => pv r.tk vr_strx h)
  unfold JoinOk
  have key : ∀ (ws : List (List Nat)) (acc : Nat), (ws.map (fun w => (⟨w.toArray⟩ : Str))).foldl (· + ·.length + x.length) acc = acc + ((ws.map (·.length)).sum + ws.length * x.length) := by
    intro ws
    induction ws with
    | nil => intro acc; simp
    | cons w r ih =>
      intro acc
      simp only [List.map_cons, List.foldl_cons, List.sum_cons, List.length_cons]
      rw [ih, str_len, Nat.add_mul]
      (first | lia | omega)
  rw [str_len, ← Array.foldl_toList]
  have := key ws 0
  simp only [Nat.zero_add] at this
  show (!Builtin.Str.tooLong ((ws.map (fun w => (⟨w.toArray⟩ : Str))).foldl (· + ·.length + x.length) 0)) = true
  rw [this]
  simp [Builtin.Str.tooLong, sizeLine_eq]; exact hsz
/- ## max -/
theorem int_items {xs : List Int} : ∀ {vs : List Value}, VRs ρ vs (xs.map .int) → ∃ l : List (Int × Tok), vs = l.map (fun p => .int p.1 p.2) ∧ l.map (·.1) = xs := by
  induction xs with
  | nil => intro vs h; cases h; exact ⟨[], rfl, rfl⟩
  | cons x r ih =>
    intro vs h
    cases h with
    | cons h1 h2 =>
      obtain ⟨t, rfl⟩ := h1
      obtain ⟨l, rfl, e⟩ := ih h2
      exact ⟨(x, t) :: l, rfl, by simp [e]⟩
theorem o_max {j : Nat} {xs : List Int} {M : Int} (hf : FmOk f env n) (hj : ListAt σ j (xs.map .int)) (hM : M ∈ xs) (hle : ∀ x ∈ xs, x ≤ M) (h : Φ (.int M) σ) : OpN f (fun vs => call (.builtin "max") vs) VR [.ref j] σ Φ Ψ := by
  intro ρ vs hv s r
  obtain ⟨v, rfl, hv'⟩ := vrs1 hv
  obtain ⟨a, us, rfl, hl, hw⟩ := r.isList hj hv'
  obtain ⟨l, e1, e2⟩ := int_items hw
  have hl' : s.heap.IsList a (intItems l.toArray) := by
    have : us = intItems l.toArray := by
      apply Array.toList_inj.mp
      rw [e1]; simp [intItems]
    rw [← this]; exact hl
  have hpos : 0 < l.toArray.size := by
    have : 0 < xs.length := List.length_pos_of_mem hM
    rw [← e2] at this
    simpa using this
  refine max_intList hf.handled hl' hpos (fun v h' tk hvv hk => ?_)
  obtain ⟨t, rfl⟩ := intItems_at hvv
  obtain ⟨h1, h2⟩ := argBest_gt (numAt l.toArray) (l.toArray.size - 1)
  generalize argBest (fun i j => decide (numAt l.toArray i > numAt l.toArray j)) (l.toArray.size - 1) = k at h1 h2
  have ek : ∀ k, numAt l.toArray k = xs.getD k 0 := fun k => by rw [numAt_eq]; simp [e2]
  have hlen : xs.length = l.length := by rw [← e2]; simp
  have e : numAt l.toArray k = M := by
    have hk1 : k < xs.length := by rw [hlen]; simp at h1 hpos; (first | lia | omega)
    obtain ⟨i, hi, hiM⟩ := mem_getD hM
    have a1 := h2 i (by simp; (first | lia | omega))
    rw [ek i, hiM] at a1
    have a2 : numAt l.toArray k ≤ M := by rw [ek]; exact hle _ (getD_mem hk1)
    (first | lia | omega)
  rw [e]
  exact pv (r.keeps hk) vr_int h
/- ## bytes of a list -/
theorem o_bytes_list {j : Nat} {xs : List Int} (hf : FmOk f env n) (hj : ListAt σ j (xs.map .int)) (hr : ∀ x ∈ xs, 0 ≤ x ∧ x < 256) (hsz : xs.length ≤ 1000000) (h : Φ (.bytes (xs.map fun x => x.toNat.toUInt8)) σ) :
    OpN f (fun vs => call (.type "bytes") vs) VR [.ref j] σ Φ Ψ := by
  intro ρ vs hv s r
  obtain ⟨v, rfl, hv'⟩ := vrs1 hv
  obtain ⟨a, us, rfl, hl, hw⟩ := r.isList hj hv'
  refine call_bytes_ints (vs := us.toList) (by simpa using hl) (ints_of hw) hr (by rw [paired_length hw, sizeLine_eq]; simp; (first | lia | omega)) hf.handled (fun h' t k hk => ?_)
  exact pv (r.keeps hk) vr_bytes h
end
end Mine

/- # D0 -/
namespace Mine
open PySem PySem.Calls PyProof.Rows PySem.W

noncomputable section
noncomputable def P0 : Params := { strHash := fun _ => 0, shareClass := fun _ => 0, mergeTok := id, idOf := fun _ => 0, idOfShared := fun _ _ => 0, followText := fun _ => false, idOfImm := fun _ => 0 }
noncomputable def fdAt (a : Addr) : FuncData := match (Hd.hd.heap_39 P0).lookup a with
  | some ⟨_, _, .func fd, _⟩ => fd
  | _ => default
noncomputable def bodyAt (a : Addr) : List Stmt := match (fdAt a).body with | .stmts b => b | _ => []
noncomputable abbrev envAt (a : Addr) (L : Addr) : Env := callEnv (fdAt a) L a
structure Def (a : Addr) : Prop where
  look : ∀ w, (KK w).lookup a = some ⟨.type "function", none, .func (fdAt a), #[]⟩
  body : (fdAt a).body = .stmts (bodyAt a)
  code : ∀ w, codeIn (KK w) (fdAt a).code (fdAt a).qualname = true
  cell : ((fdAt a).scope.names.all fun x => decide (x.2 ≠ .cell)) = true
  glob : (fdAt a).globals = mainGlobals
  bui : (fdAt a).builtins = builtinsNs
  co : (fdAt a).scope.isCoroutine = false
  gen : (fdAt a).scope.isGenerator = false
  kind : (fdAt a).scope.kind = .function
theorem fn_of {n : Nat} {p : Addr} {args full : List AV} {names : List Str} {Φ : RV → Prop} {Ψ : Value → Prop} (D : Def p)
    (hbind : ∀ w (s : Shared) vs, VRs [] vs args → (KK w).In s.heap → ∃ binds, BindsTo s (fdAt p) ⟨vs, []⟩ binds ∧ binds.map (·.1) = names ∧ VRs [] (binds.map (·.2)) full)
    (hloc : (names.all fun x => decide ((fdAt p).scope.names.lookup x = some .local)) = true)
    (h : ∀ f : Fm, FmOk f (envAt p f.L) n → f.fenv = envAt p f.L → Es f (bodyAt p) (envAt p f.L) ⟨(names.zip full).reverse, []⟩ (RetOk Φ) Ψ) : Fn (n + 1) p args Φ Ψ :=
  fn_intro D.look D.body D.code hbind hloc D.cell D.glob D.bui h D.co D.gen D.kind

theorem bind1 {p : Addr} {x : Str} {a : AV} (hp : ∀ w (v : Value) S, peek (KK w) S (bindArgs (fdAt p) ⟨[v], []⟩) = some [(x, v)]) :
    ∀ w (s : Shared) vs, VRs [] vs [a] → (KK w).In s.heap → ∃ binds, BindsTo s (fdAt p) ⟨vs, []⟩ binds ∧ binds.map (·.1) = [x] ∧ VRs [] (binds.map (·.2)) [a] := by
  intro w s vs hv X
  obtain ⟨v, rfl, h⟩ := vrs1 hv
  exact ⟨[(x, v)], kp_binds X (hp w v), rfl, .cons h .nil⟩
theorem def46 : Def 46 := ⟨fun w => by kernel_rfl, by kernel_rfl, fun w => by kernel_rfl, by kernel_rfl, by kernel_rfl, by kernel_rfl, by kernel_rfl, by kernel_rfl, by kernel_rfl⟩
theorem def51 : Def 51 := ⟨fun w => by kernel_rfl, by kernel_rfl, fun w => by kernel_rfl, by kernel_rfl, by kernel_rfl, by kernel_rfl, by kernel_rfl, by kernel_rfl, by kernel_rfl⟩
theorem def56 : Def 56 := ⟨fun w => by kernel_rfl, by kernel_rfl, fun w => by kernel_rfl, by kernel_rfl, by kernel_rfl, by kernel_rfl, by kernel_rfl, by kernel_rfl, by kernel_rfl⟩
theorem def63 : Def 63 := ⟨fun w => by kernel_rfl, by kernel_rfl, fun w => by kernel_rfl, by kernel_rfl, by kernel_rfl, by kernel_rfl, by kernel_rfl, by kernel_rfl, by kernel_rfl⟩
theorem def71 : Def 71 := ⟨fun w => by kernel_rfl, by kernel_rfl, fun w => by kernel_rfl, by kernel_rfl, by kernel_rfl, by kernel_rfl, by kernel_rfl, by kernel_rfl, by kernel_rfl⟩
theorem def78 : Def 78 := ⟨fun w => by kernel_rfl, by kernel_rfl, fun w => by kernel_rfl, by kernel_rfl, by kernel_rfl, by kernel_rfl, by kernel_rfl, by kernel_rfl, by kernel_rfl⟩
theorem def84 : Def 84 := ⟨fun w => by kernel_rfl, by kernel_rfl, fun w => by kernel_rfl, by kernel_rfl, by kernel_rfl, by kernel_rfl, by kernel_rfl, by kernel_rfl, by kernel_rfl⟩
theorem def89 : Def 89 := ⟨fun w => by kernel_rfl, by kernel_rfl, fun w => by kernel_rfl, by kernel_rfl, by kernel_rfl, by kernel_rfl, by kernel_rfl, by kernel_rfl, by kernel_rfl⟩
theorem def96 : Def 96 := ⟨fun w => by kernel_rfl, by kernel_rfl, fun w => by kernel_rfl, by kernel_rfl, by kernel_rfl, by kernel_rfl, by kernel_rfl, by kernel_rfl, by kernel_rfl⟩
theorem def103 : Def 103 := ⟨fun w => by kernel_rfl, by kernel_rfl, fun w => by kernel_rfl, by kernel_rfl, by kernel_rfl, by kernel_rfl, by kernel_rfl, by kernel_rfl, by kernel_rfl⟩
theorem def115 : Def 115 := ⟨fun w => by kernel_rfl, by kernel_rfl, fun w => by kernel_rfl, by kernel_rfl, by kernel_rfl, by kernel_rfl, by kernel_rfl, by kernel_rfl, by kernel_rfl⟩
theorem def122 : Def 122 := ⟨fun w => by kernel_rfl, by kernel_rfl, fun w => by kernel_rfl, by kernel_rfl, by kernel_rfl, by kernel_rfl, by kernel_rfl, by kernel_rfl, by kernel_rfl⟩
theorem def129 : Def 129 := ⟨fun w => by kernel_rfl, by kernel_rfl, fun w => by kernel_rfl, by kernel_rfl, by kernel_rfl, by kernel_rfl, by kernel_rfl, by kernel_rfl, by kernel_rfl⟩
theorem def136 : Def 136 := ⟨fun w => by kernel_rfl, by kernel_rfl, fun w => by kernel_rfl, by kernel_rfl, by kernel_rfl, by kernel_rfl, by kernel_rfl, by kernel_rfl, by kernel_rfl⟩
theorem def141 : Def 141 := ⟨fun w => by kernel_rfl, by kernel_rfl, fun w => by kernel_rfl, by kernel_rfl, by kernel_rfl, by kernel_rfl, by kernel_rfl, by kernel_rfl, by kernel_rfl⟩
theorem peek46 : ∀ w (v : Value) S, peek (KK w) S (bindArgs (fdAt 46) ⟨[v], []⟩) = some [(("address" : Str), v)] := by intro w v S; kernel_rfl
theorem peek51 : ∀ w (v : Value) S, peek (KK w) S (bindArgs (fdAt 51) ⟨[v], []⟩) = some [(("text" : Str), v)] := by intro w v S; kernel_rfl
theorem peek56 : ∀ w (v : Value) S, peek (KK w) S (bindArgs (fdAt 56) ⟨[v], []⟩) = some [(("address" : Str), v)] := by intro w v S; kernel_rfl
theorem peek63 : ∀ w (v : Value) S, peek (KK w) S (bindArgs (fdAt 63) ⟨[v], []⟩) = some [(("btext" : Str), v)] := by intro w v S; kernel_rfl
theorem peek78 : ∀ w (v : Value) S, peek (KK w) S (bindArgs (fdAt 78) ⟨[v], []⟩) = some [(("text" : Str), v)] := by intro w v S; kernel_rfl
theorem peek84 : ∀ w (v : Value) S, peek (KK w) S (bindArgs (fdAt 84) ⟨[v], []⟩) = some [(("text" : Str), v)] := by intro w v S; kernel_rfl
theorem peek96 : ∀ w (v : Value) S, peek (KK w) S (bindArgs (fdAt 96) ⟨[v], []⟩) = some [(("text" : Str), v)] := by intro w v S; kernel_rfl
theorem peek103 : ∀ w (v : Value) S, peek (KK w) S (bindArgs (fdAt 103) ⟨[v], []⟩) = some [(("number" : Str), v)] := by intro w v S; kernel_rfl
theorem peek115 : ∀ w (v : Value) S, peek (KK w) S (bindArgs (fdAt 115) ⟨[v], []⟩) = some [(("text" : Str), v)] := by intro w v S; kernel_rfl
theorem peek129 : ∀ w (v : Value) S, peek (KK w) S (bindArgs (fdAt 129) ⟨[v], []⟩) = some [(("text" : Str), v)] := by intro w v S; kernel_rfl
theorem peek136 : ∀ w (v : Value) S, peek (KK w) S (bindArgs (fdAt 136) ⟨[v], []⟩) = some [(("octets" : Str), v)] := by intro w v S; kernel_rfl
theorem peek141 : ∀ w (v : Value) S, peek (KK w) S (bindArgs (fdAt 141) ⟨[v], []⟩) = some [(("script" : Str), v)] := by intro w v S; kernel_rfl
theorem peek89 : ∀ w (v u : Value) S, peek (KK w) S (bindArgs (fdAt 89) ⟨[v, u], []⟩) = some [(("text" : Str), v), (("last" : Str), u)] := by intro w v u S; kernel_rfl
theorem peek71a : ∀ w (v : Value) S, peek (KK w) S (bindArgs (fdAt 71) ⟨[v], []⟩) = some [(("text" : Str), v), (("ignore_scope" : Str), .bool false)] := by intro w v S; kernel_rfl
theorem peek71b : ∀ w (v u : Value) S, peek (KK w) S (bindArgs (fdAt 71) ⟨[v, u], []⟩) = some [(("text" : Str), v), (("ignore_scope" : Str), u)] := by intro w v u S; kernel_rfl
theorem peek122 : ∀ w (v u : Value) S, peek (KK w) S (bindArgs (fdAt 122) ⟨[v, u], []⟩) = some [(("text" : Str), v), (("with_scope" : Str), u)] := by intro w v u S; kernel_rfl

noncomputable def hexB : List UInt8 := [48, 49, 50, 51, 52, 53, 54, 55, 56, 57, 97, 98, 99, 100, 101, 102]
theorem e_HEX {f : Fm} {σ : St} {env : Env} {n : Nat} {Ψ : Value → Prop} {p : Pos} {Φ : AV → St → Prop} (hf : FmOk f env n) (hx : env.kindOf "_HEX" = some .globalImplicit) (h : Φ (.bytes hexB) σ) : Ev f (.Name "_HEX" p) env σ Φ Ψ :=
  e_glob (v := .bytes hexB.toArray 244) hf hx (fun w => by kernel_rfl) (vr_bytes (l := hexB)) h
end
end Mine

/- # F20 -/
namespace Mine
open PySem PySem.Calls PyProof.Rows PySem.W

section
variable {σ : St} {x y : Str} {a b : AV} {o : AO} {j i : Nat} {xs ys : List AV}
theorem lk_same : (σ.set x a).loc.lookup x = some a := by
  show List.lookup x ((x, a) :: σ.loc) = _
  rw [List.lookup_cons]; simp
theorem lk_other (h : (y == x) = false) (h2 : σ.loc.lookup y = some b) : (σ.set x a).loc.lookup y = some b := by
  show List.lookup y ((x, a) :: σ.loc) = _
  rw [List.lookup_cons, h]; exact h2
theorem lk_new (h : σ.loc.lookup y = some b) : (σ.new o).loc.lookup y = some b := h
theorem lk_put (h : σ.loc.lookup y = some b) : (σ.put j o).loc.lookup y = some b := h
theorem mem_new : (σ.new o).mem[σ.mem.length]? = some o := by show (σ.mem ++ [o])[σ.mem.length]? = _; simp
theorem mem_keep (h : σ.mem[j]? = some o) {o' : AO} : (σ.new o').mem[j]? = some o := by
  show (σ.mem ++ [o'])[j]? = _
  rw [List.getElem?_append_left (List.getElem?_eq_some_iff.mp h).1]; exact h
theorem mem_put (h : j < σ.mem.length) : (σ.put j o).mem[j]? = some o := by
  show (σ.mem.set j o)[j]? = _
  rw [List.getElem?_set_self h]
theorem mem_put_other (h : σ.mem[j]? = some o) (hne : i ≠ j) {o' : AO} : (σ.put i o').mem[j]? = some o := by
  show (σ.mem.set i o')[j]? = _
  rw [List.getElem?_set_ne hne]; exact h
theorem la_new : ListAt (σ.new (.list xs)) σ.mem.length xs := .inl mem_new
theorem la_keep (h : ListAt σ j xs) : ListAt (σ.new o) j xs := by
  rcases h with h | ⟨q, h⟩
  · exact .inl (mem_keep h)
  · exact .inr ⟨q, mem_keep h⟩
theorem la_set (h : ListAt σ j xs) : ListAt (σ.set x a) j xs := h
theorem la_lt (h : ListAt σ j xs) : j < σ.mem.length := by
  rcases h with h | ⟨q, h⟩ <;> exact (List.getElem?_eq_some_iff.mp h).1
theorem la_put {q : Obj} (h : ListAt σ j xs) : ListAt (σ.put j (.fix q false xs)) j xs := .inr ⟨q, mem_put (la_lt h)⟩
theorem la_put_other (h : ListAt σ j xs) (hne : i ≠ j) : ListAt (σ.put i o) j xs := by
  rcases h with h | ⟨q, h⟩
  · exact .inl (mem_put_other h hne)
  · exact .inr ⟨q, mem_put_other h hne⟩
theorem la_of {σ' : St} (h : ListAt σ j xs) (e : σ'.mem[j]? = σ.mem[j]?) : ListAt σ' j xs := by
  rcases h with h | ⟨q, h⟩
  · exact .inl (e.trans h)
  · exact .inr ⟨q, e.trans h⟩
theorem ta_new : TupAt (σ.new (.tup xs)) σ.mem.length xs := .inl mem_new
theorem ite_of {c : Prop} [Decidable c] {A B : Prop} (h1 : c → A) (h2 : ¬ c → B) : if c then A else B := by
  split
  · exact h1 ‹_›
  · exact h2 ‹_›
theorem tite_of {c : Bool} {A B : Prop} (h1 : c = true → A) (h2 : c = false → B) : if c = true then A else B := by
  cases c
  · exact h2 rfl
  · exact h1 rfl
/- a test whose truth is known to be c, whatever happens to the state meanwhile -/
theorem t_is {f : Fm} {e : Expr} {env : Env} {Φ : Bool → St → Prop} {Ψ : Value → Prop} (c : Bool) (P : St → Prop) (h : Tt f e env σ (fun t σ' => t = c ∧ P σ') Ψ) (k : ∀ σ', P σ' → Φ c σ') : Tt f e env σ Φ Ψ :=
  h.mono (fun t σ' ⟨e, p⟩ => e ▸ k σ' p) fun _ q => q
end

/- a def of one argument, its first state told by facts -/
theorem fn_of1 {n : Nat} {p : Addr} {a : AV} {x : Str} {Φ : RV → Prop} {Ψ : Value → Prop} (D : Def p)
    (hp : ∀ w (v : Value) S, peek (KK w) S (bindArgs (fdAt p) ⟨[v], []⟩) = some [(x, v)])
    (hloc : decide ((fdAt p).scope.names.lookup x = some .local) = true)
    (h : ∀ f : Fm, FmOk f (envAt p f.L) n → f.fenv = envAt p f.L → ∀ σ : St, σ.loc.lookup x = some a → σ.mem = [] → Es f (bodyAt p) (envAt p f.L) σ (RetOk Φ) Ψ) : Fn (n + 1) p [a] Φ Ψ :=
  fn_of D (bind1 hp) (by rw [List.all_cons, hloc]; rfl) fun f hf he => h f hf he _ (by show List.lookup x [(x, a)] = _; rw [List.lookup_cons]; simp) rfl

theorem join_glue (y : Str) : ∀ ps : List Str, (Str.join y ps).cps.toList = glue y.cps.toList (ps.map fun p => p.cps.toList)
  | [] => rfl
  | [p] => rfl
  | p :: q :: r => by
    have ih := join_glue y (q :: r)
    show (Str.append (Str.append p y) (Str.join y (q :: r))).cps.toList = _
    simp only [List.map_cons, glue, Str.append, Array.toList_append] at ih ⊢
    rw [ih]
theorem splS_one (x : List Nat) (c : Nat) : splS x [c] = spl c x := by
  unfold splS
  have h1 := StrLaws.join_split (⟨x.toArray⟩ : Str) ⟨#[c]⟩
  have h2 := StrLaws.split_free (⟨x.toArray⟩ : Str) c
  have h3 : Txt.split (⟨x.toArray⟩ : Str) ⟨#[c]⟩ ≠ [] := fun e => by
    have := split_pos (⟨x.toArray⟩ : Str) ⟨#[c]⟩
    rw [e] at this; simp at this
  have h4 := congrArg (fun s : Str => s.cps.toList) h1
  simp only at h4
  rw [join_glue] at h4
  have e : (⟨[c].toArray⟩ : Str) = ⟨#[c]⟩ := rfl
  rw [e]
  have h5 : spl c (glue [c] ((Txt.split (⟨x.toArray⟩ : Str) ⟨#[c]⟩).map fun p => p.cps.toList)) = _ := spl_glue (by simpa using h3) (by
    intro p hp
    obtain ⟨q, hq, rfl⟩ := List.mem_map.mp hp
    exact h2 q hq)
  rw [← h5]
  exact congrArg (spl c) h4
theorem o_split1 {f : Fm} {σ : St} {Φ : AV → St → Prop} {Ψ : Value → Prop} {x : List Nat} {c : Nat} (hsz : x.length ≤ 1000000) (h : Φ (.ref σ.mem.length) (σ.new (.list ((spl c x).map .str)))) :
    OpN f (fun vs => call (.builtin "str.split") vs) VR [.str x, .str [c]] σ Φ Ψ := o_split_str hsz (by simp) (by rw [splS_one]; exact h)
/- the iteration's items, one by one -/
theorem item_of {α : Type} {l : List α} {F : α → AV} {i : Nat} {y : AV} (h : (l.map F)[i]? = some y) : ∃ a, l[i]? = some a ∧ y = F a ∧ a ∈ l := by
  rw [List.getElem?_map] at h
  cases q : l[i]? with
  | none => rw [q] at h; cases h
  | some a => rw [q] at h; exact ⟨a, rfl, (Option.some.inj h).symm, List.mem_of_getElem? q⟩

theorem lk_one {x : Str} {a : AV} {m : List AO} : ({ loc := [(x, a)], mem := m } : St).loc.lookup x = some a := by
  show List.lookup x [(x, a)] = _
  rw [List.lookup_cons]; simp
theorem plain_str {l : List (List Nat)} : ∀ a ∈ l.map AV.str, a.Plain := by
  intro a h; obtain ⟨x, _, rfl⟩ := List.mem_map.mp h; trivial
theorem plain_sgn {l : List Nat} : ∀ a ∈ l.map (fun c => AV.str [c]), a.Plain := by
  intro a h; obtain ⟨x, _, rfl⟩ := List.mem_map.mp h; trivial
theorem plain_int {l : List Int} : ∀ a ∈ l.map AV.int, a.Plain := by
  intro a h; obtain ⟨x, _, rfl⟩ := List.mem_map.mp h; trivial
/- what a filter of signs leaves -/
theorem filter_sgn {l : List Nat} {p : Nat → Bool} {t : AV → Bool} (h : ∀ c, t (.str [c]) = p c) : ((l.map fun c => AV.str [c]).filter t).isEmpty = (l.filter p).isEmpty := by
  induction l with
  | nil => rfl
  | cons c r ih => simp only [List.map_cons, List.filter_cons, h]; cases p c <;> simp [ih]

theorem occ_sign (x : List Nat) (c : Nat) : occ x [c] = decide (c ∈ x) := by
  have h := StrLaws.found_one (⟨x.toArray⟩ : Str) c
  unfold occ
  have e : (⟨x.toArray⟩ : Str).length = x.length := str_len x
  rw [e] at h
  simpa using h

theorem bind2 {p : Addr} {x y : Str} {a b : AV} (hp : ∀ w (v u : Value) S, peek (KK w) S (bindArgs (fdAt p) ⟨[v, u], []⟩) = some [(x, v), (y, u)]) :
    ∀ w (s : Shared) vs, VRs [] vs [a, b] → (KK w).In s.heap → ∃ binds, BindsTo s (fdAt p) ⟨vs, []⟩ binds ∧ binds.map (·.1) = [x, y] ∧ VRs [] (binds.map (·.2)) [a, b] := by
  intro w s vs hv X
  obtain ⟨v, u, rfl, h, h'⟩ := vrs2 hv
  exact ⟨[(x, v), (y, u)], kp_binds X (hp w v u), rfl, .cons h (.cons h' .nil)⟩
end Mine

/- # F21 -/
namespace Mine
open PySem PySem.Calls PyProof.Rows PySem.W

/- ## a modality for each kind of context -/
structure Mod where
  P : Ctx → Prop
  ent : ∀ Γ c h p, P Γ → OkC c → P (Γ.enter c h p)
  goto : ∀ Γ c, P Γ → OkC c → P (Γ.goto c)
noncomputable def wpM {α : Type} (m : Mod) (M : Model) (A : Around) (t : Sem α) (Q : α → Shared → Prop) (E : Value → Shared → Prop) (s : Shared) : Prop :=
  ∀ Γ p, Γ.In A → m.P Γ → Sem.wp M Γ t (fun a _ s' => Q a s') (fun e _ s' => E e s') p s
noncomputable def codeM (m : Mod) (M : Model) (A : Around) (c : Code) (R : Result → Shared → Prop) (s : Shared) : Prop :=
  ∀ Γ p, Γ.code = c → Γ.Below A → m.P Γ → wpCode M Γ R p s
noncomputable def Am : Mod := ⟨fun _ => True, fun _ _ _ _ _ _ => trivial, fun _ _ _ _ => trivial⟩
noncomputable def Gm : Mod := ⟨GC, fun Γ c h p hg hc => ⟨hc, hg.enter c h p⟩, fun Γ c hg hc => ⟨hc, hg.below⟩⟩

section
variable {m : Mod} {α β : Type} {M : Model} {A : Around} {E : Value → Shared → Prop} {s : Shared} {env : Env}
theorem wpM_of {t : Sem α} {Q : α → Shared → Prop} (h : wpAny M A t Q E s) : wpM m M A t Q E s := fun Γ p hΓ _ => h Γ p hΓ
theorem wpAny_of_M {t : Sem α} {Q : α → Shared → Prop} (h : wpM Am M A t Q E s) : wpAny M A t Q E s := fun Γ p hΓ => h Γ p hΓ trivial
theorem codeM_of {c : Code} {R : Result → Shared → Prop} (h : codeAny M A c R s) : codeM m M A c R s := fun Γ p hc hΓ _ => h Γ p hc hΓ
theorem codeAny_of_M {c : Code} {R : Result → Shared → Prop} (h : codeM Am M A c R s) : codeAny M A c R s := fun Γ p hc hΓ => h Γ p hc hΓ trivial
theorem wpM_pure {a : α} {Q : α → Shared → Prop} (h : Q a s) : wpM m M A (pure a) Q E s := fun _ _ _ _ => h
theorem wpM_mono {t : Sem α} {Q Q' : α → Shared → Prop} {E' : Value → Shared → Prop} (h : wpM m M A t Q E s) (hQ : ∀ a s, Q a s → Q' a s) (hE : ∀ e s, E e s → E' e s) : wpM m M A t Q' E' s :=
  fun Γ p hΓ hg => Sem.wp_mono M Γ t (fun a _ s => hQ a s) (fun e _ s => hE e s) p s (h Γ p hΓ hg)
theorem wpM_bind {t : Sem α} {f : α → Sem β} {Q : β → Shared → Prop} (h : wpM m M A t (fun a s' => wpM m M A (f a) Q E s') E s) : wpM m M A (t >>= f) Q E s := fun Γ p hΓ hg => by
  rw [Sem.wp_bind']
  exact Sem.wp_mono M Γ t (fun a p' s' h' => h' Γ p' hΓ hg) (fun _ _ _ h' => h') p s (h Γ p hΓ hg)
theorem wpM_bindA {t : Sem α} {f : α → Sem β} {Q : β → Shared → Prop} (h : wpAny M A t (fun a s' => wpM m M A (f a) Q E s') E s) : wpM m M A (t >>= f) Q E s := wpM_bind (wpM_of h)
theorem wpM_onRaise {t : Sem α} {k : Value → Sem Unit} {Q : α → Shared → Prop} (h : wpM m M A t Q (fun e s' => wpM m M A (k e) (fun _ s'' => E e s'') E s') s) : wpM m M A (t.onRaise k) Q E s := fun Γ p hΓ hg => by
  rw [Sem.wp_onRaise]
  exact Sem.wp_mono M Γ t (fun _ _ _ h' => h') (fun e p' s' h' => h' Γ p' hΓ hg) p s (h Γ p hΓ hg)
theorem wpM_holding {vs : List Value} {t : Sem α} {Q : α → Shared → Prop} (h : wpM m M A t Q E s) : wpM m M A (holding vs t) Q E s := fun Γ p hΓ hg => by
  rw [Sem.wp_holding]; exact h Γ p hΓ hg
theorem wpM_attempt {t : Sem α} {Q : Except Value α → Shared → Prop} (h : wpM m M A t (fun a => Q (.ok a)) (fun e => Q (.error e)) s) : wpM m M A t.attempt Q E s := fun Γ p hΓ hg => by
  rw [Sem.wp_attempt]; exact h Γ p hΓ hg
theorem wpM_run {c : Code} {h : Option Value} {Q : Flow → Shared → Prop} (hok : OkC c) (hc : codeM m M (A.mark h) c (fun r s' => match r with | .ok f => Q f s' | .error e => E e s') s) (hnb : h ≠ some byPass := by intro x; cases x) :
    wpM m M A (run c h) Q E s := fun Γ p hΓ hg => by rw [Sem.wp_run]; exact hc _ p rfl (hΓ.enter c h p hnb) (m.ent _ _ _ _ hg hok)
theorem wpM_runValue {c : Code} {Q : Value → Shared → Prop} (hok : OkC c) (hc : codeM m M A c (fun r s' => match r with | .ok (.ret v) => Q v s' | .ok _ => False | .error e => E e s') s) : wpM m M A (runValue c) Q E s := fun Γ p hΓ hg => by
  rw [Sem.wp_runValue]; exact hc _ p rfl (hΓ.enter c none p (by intro x; cases x)) (m.ent _ _ _ _ hg hok)
theorem wpM_call {f : Value} {pos : List Value} {kw : List (Str × Value)} {Q : Value → Shared → Prop}
    (hc : codeM m M A (.call f ⟨pos, kw⟩) (fun r s' => match r with | .ok (.ret v) => Q v s' | .ok _ => False | .error e => E e s') s) : wpM m M A (call f pos kw) Q E s := wpM_runValue trivial hc
theorem codeM_mono {c : Code} {R R' : Result → Shared → Prop} (h : codeM m M A c R s) (hR : ∀ r s, R r s → R' r s) : codeM m M A c R' s := fun Γ p hc hΓ hg => wpCode_mono hR (h Γ p hc hΓ hg)
theorem codeM_of_tree {c : Code} {R : Result → Shared → Prop}
    (h : wpM m M (A.under c) (M.den c) (fun fin s' => match fin with | .done f => R (.ok f) s' | .again c' => c'.quiet = true ∧ OkC c' ∧ codeM m M A c' R s') (fun e s' => R (.error e) s') s) : codeM m M A c R s := fun Γ p hc hΓ hg => by
  rw [wpCode_iff_wp, hc]
  refine Sem.wp_mono M Γ _ (fun fin p' s' h' => ?_) (fun _ _ _ h' => h') p s (h Γ p (hc ▸ hΓ.in) hg)
  cases fin with
  | done f => exact h'
  | again c' => exact ⟨h'.1, h'.2.2 (Γ.goto c') p' rfl (hΓ.goto c') (m.goto _ _ hg h'.2.1)⟩
theorem codeM_loop {c : Code} {R : Result → Shared → Prop} (hok : OkC c) (hq : c.quiet = true) (I : Nat → Shared → Prop)
    (turn : ∀ n s, I n s → wpM m M (A.under c) (M.den c)
      (fun fin s' => match fin with
        | .done f => R (.ok f) s'
        | .again c' => (c' = c ∧ ∃ k, k < n ∧ I k s') ∨ (c'.quiet = true ∧ OkC c' ∧ codeM m M A c' R s')) (fun e s' => R (.error e) s') s)
    (n : Nat) (h : I n s) : codeM m M A c R s := by
  induction n using Nat.strongRecOn generalizing s with
  | ind n ih =>
    refine codeM_of_tree (wpM_mono (turn n s h) (fun fin s' hf => ?_) fun _ _ h' => h')
    cases fin with
    | done f => exact hf
    | again c' =>
      rcases hf with ⟨rfl, k, hk, hI⟩ | hf
      · exact ⟨hq, hok, ih k hk hI⟩
      · exact hf
theorem wpM_runOwn {c : Code} {h : Option Value} {Q : Flow → Shared → Prop} (hok : OkC c)
    (hc : codeM m M (A.mark h) c (fun r s' => match r with | .ok f => Q f s' | .error e => cameBackBy M A env E e s') s) (hnb : h ≠ some byPass := by intro x; cases x) : wpM m M A (runOwn c env h) Q E s := by
  unfold runOwn
  exact wpM_onRaise (wpM_mono (wpM_run hok hc hnb) (fun _ _ q => q) fun _ _ q => wpM_of q)
theorem wpM_noted {t : Sem α} {Q : α → Shared → Prop} (h : wpM m M A t Q (notedBy M A env E) s) : wpM m M A (t.onRaise fun x => do noteFrame x env; theTreesLotGoes x) Q E s :=
  wpM_onRaise (wpM_mono h (fun _ _ q => q) fun _ _ hx => wpM_of (wpAny_bind (wpAny_mono hx (fun _ _ e => wpAny_theTreesLotGoes e) fun _ _ e => e)))
end

section
variable {m : Mod} {prog : Program} {w : World} {A : Around} {E : Value → Shared → Prop} {s : Shared} {env : Env}
theorem codeM_forLoop {R : Result → Shared → Prop} {target it body} (I : Nat → Shared → Prop)
    (turn : ∀ n s, I n s → wpAny (model prog w) A (pyNext it) (fun r s₁ => match r with
      | none => R (.ok .next) s₁
      | some v => wpAny (model prog w) A (letOwnedTupleGo target it v) (fun _ s₁' =>
          wpAny (model prog w) A (assign target env v) (fun _ s₂ => wpM m (model prog w) A (execs body env) (fun f s₃ => match f with
            | .next | .cont => ∃ k, k < n ∧ I k s₃
            | .brk => R (.ok .next) s₃
            | .ret v => R (.ok (.ret v)) s₃) (notedBy (model prog w) A env fun e s' => R (.error e) s') s₂) (notedBy (model prog w) A env fun e s' => R (.error e) s') s₁') (notedBy (model prog w) A env fun e s' => R (.error e) s') s₁) (notedBy (model prog w) A env fun e s' => R (.error e) s') s)
    (n : Nat) (h : I n s) : codeM m (model prog w) A (.forLoop target it body [] env) R s := by
  refine codeM_loop trivial rfl I (fun n s hI => ?_) n h
  show wpM m _ A ((forTurn target it body [] env).onRaise (fun x => do noteFrame x env; theTreesLotGoes x)) _ _ s
  refine wpM_noted ?_
  simp only [forTurn]
  refine wpM_bindA (wpAny_standAt (wpM_bindA (wpAny_onRaise (wpAny_mono (turn n s hI) (fun r s₁ h₁ => ?_) fun _ _ h' => wpAny_standAt h'))))
  cases r with
  | none => exact wpM_pure (.inr ⟨rfl, trivial, codeM_of (codeAny_block (wpAny_execs_nil h₁))⟩)
  | some v =>
    refine wpM_bindA (wpAny_mono h₁ (fun _ s₁' h₁' => ?_) fun _ _ h' => h')
    refine wpM_bindA (wpAny_mono h₁' (fun _ s₂ h₂ => wpM_bind (wpM_mono h₂ (fun f s₃ h₃ => ?_) fun _ _ h' => h')) fun _ _ h' => h')
    cases f with
    | next => exact wpM_pure (.inl ⟨rfl, h₃⟩)
    | cont => exact wpM_pure (.inl ⟨rfl, h₃⟩)
    | brk => exact wpM_pure h₃
    | ret v => exact wpM_pure h₃
end
end Mine

/- # F22 -/
namespace Mine
open PySem PySem.Calls PyProof.Rows PySem.W

noncomputable def TrM (m : Mod) {α β : Type} (f : Fm) (t : Sem α) (R : List Addr → α → β → Prop) (σ : St) (Φ : β → St → Prop) (Ψ : Value → Prop) : Prop :=
  ∀ ρ s, Rep f ρ σ s → wpM m (model pw f.w) f.A t (PV f ρ R Φ) (PE f Ψ) s
noncomputable abbrev EvM (m : Mod) (f : Fm) (e : Expr) (env : Env) (σ : St) (Φ : AV → St → Prop) (Ψ : Value → Prop) : Prop := TrM m f (eval e env) VR σ Φ Ψ
noncomputable abbrev EsM (m : Mod) (f : Fm) (b : List Stmt) (env : Env) (σ : St) (Φ : AF → St → Prop) (Ψ : Value → Prop) : Prop := TrM m f (execs b env) FR σ Φ Ψ
noncomputable abbrev ExM (m : Mod) (f : Fm) (b : Stmt) (env : Env) (σ : St) (Φ : AF → St → Prop) (Ψ : Value → Prop) : Prop := TrM m f (exec b env) FR σ Φ Ψ
noncomputable abbrev TtM (m : Mod) (f : Fm) (e : Expr) (env : Env) (σ : St) (Φ : Bool → St → Prop) (Ψ : Value → Prop) : Prop := TrM m f (isTrue e env (eval e env)) BR σ Φ Ψ

section
variable {m : Mod} {α β γ δ : Type} {f : Fm} {env : Env} {n : Nat} {Ψ : Value → Prop} {ρ : List Addr} {σ : St} {s : Shared}
theorem TrM.of {t : Sem α} {R : List Addr → α → β → Prop} {Φ : β → St → Prop} (h : Tr f t R σ Φ Ψ) : TrM m f t R σ Φ Ψ := fun ρ s r => wpM_of (h ρ s r)
theorem Tr.of_M {t : Sem α} {R : List Addr → α → β → Prop} {Φ : β → St → Prop} (h : TrM Am f t R σ Φ Ψ) : Tr f t R σ Φ Ψ := fun ρ s r => wpAny_of_M (h ρ s r)
theorem TrM.mono {t : Sem α} {R : List Addr → α → β → Prop} {Φ Φ' : β → St → Prop} {Ψ' : Value → Prop} (h : TrM m f t R σ Φ Ψ) (hΦ : ∀ b σ, Φ b σ → Φ' b σ) (hΨ : ∀ c, Ψ c → Ψ' c) : TrM m f t R σ Φ' Ψ' := fun ρ s r =>
  wpM_mono (h ρ s r) (fun _ _ qq1 => qq1.elim fun ρ' b σ' h1 h2 h3 h4 => ⟨ρ', b, σ', h1, h2, h3, hΦ _ _ h4⟩) fun _ _ qq2 => qq2.elim fun c h1 h2 => ⟨c, h1, hΨ c h2⟩

theorem ext_up {wr : List Addr} {h : Heap} (hw : ∀ b ∈ wr, f.he b = none) : ∀ b o, f.he b = some o → (f.ext wr h).he b = some o := fun b o e => by
  show (if b ∈ wr then _ else _) = _
  rw [if_neg (fun q => by rw [hw b q] at e; (first | exact nn e | exact sn e | exact tf e | exact ft e | cases e))]; exact e
section core
variable {I : Addr} {fp wr : List Addr} {St' : Nat → Heap → Prop}
inductive LI (f : Fm) (ρ wr : List Addr) (Inv : Nat → St → Prop) (St' : Nat → Heap → Prop) (N k : Nat) (s' : Shared) : Prop where
  | mk (i : Nat) (σ' : St) (ρ' : List Addr) (hk : k = N + 1 - i) (hi : i ≤ N) (hp : ρ <+: ρ') (r : Rep f ρ' σ' s') (hI : Inv i σ') (hst : St' i s'.heap) (hd : ∀ b ∈ wr, b ∉ ρ')
/- a turn's body, and what the loop asks behind it -/
theorem loop_after {N : Nat} {Φ : AF → St → Prop} {Inv : Nat → St → Prop} (hf : FmOk f env n) (hee : frameOf env = frameOf f.fenv) (frame : ∀ i h h', St' i h → (∀ b ∈ fp, ∀ o, h.get? b = some o → h'.get? b = some o) → St' i h')
    (hwe : ∀ i h, St' i h → ∀ b ∈ wr, (h.get? b).isSome) (hw : ∀ b ∈ wr, f.he b = none) (hz : Frz fp wr ρ s Inv) {i : Nat} {σ' : St} {ρ' : List Addr} {s' : Shared} {h₁ : Heap} {tk₁ : Nat} (hlt : i < N) (hp : ρ <+: ρ')
    (r₁ : Rep f ρ' σ' { s' with heap := h₁, toks := tk₁ }) (hI' : Inv i σ') (hst₁ : St' (i + 1) h₁) {t : Sem Flow} {s₂ : Shared} (hb : wpM m (model pw f.w) f.A t (PV (f.ext wr h₁) ρ' FR (LP Inv Φ i)) (PE (f.ext wr h₁) Ψ) s₂) :
    wpM m (model pw f.w) f.A t (fun fl s₃ => match fl with
      | .next | .cont => ∃ k, k < N + 1 - i ∧ LI f ρ wr Inv St' N k s₃
      | .brk => CP f env ρ Φ Ψ (.ok .next) s₃
      | .ret v => CP f env ρ Φ Ψ (.ok (.ret v)) s₃) (notedBy (model pw f.w) f.A env fun e s' => CP f env ρ Φ Ψ (.error e) s') s₂ := by
  refine wpM_mono hb (fun fl s₃ qq3 => qq3.elim fun ρ₃ b σ₃ p₃ r₄ v₄ h₄ => ?_) fun e s₃ qq4 => qq4.elim fun c xx hc => pe_noted (env' := env) hf (xx.unext hw) (fun s₄ x₄ => ⟨c, x₄, hc⟩) hee
  have p₀ := hp.trans p₃
  have nextI : Inv (i + 1) σ₃ → ∃ k, k < N + 1 - i ∧ LI f ρ wr Inv St' N k s₃ := fun hI₃ => by
    refine ⟨N + 1 - (i + 1), by lia, i + 1, σ₃, ρ₃, rfl, hlt, p₀, r₄.unext hw, hI₃, ?_, ext_disj r₄ (hwe _ _ hst₁)⟩
    refine frame _ _ _ hst₁ fun b hb o e => ?_
    by_cases hbw : b ∈ wr
    · exact r₄.keep b o (by show (if b ∈ wr then _ else _) = _; rw [if_pos hbw]; exact e)
    · obtain ⟨o1, h5, h6⟩ := frz_at hz hp r₁ hI' hb hbw
      obtain ⟨o2, h7, h8⟩ := frz_at hz p₀ r₄ hI₃ hb hbw
      rw [h5] at h7
      obtain rfl := Option.some.inj h7
      have h6' : h₁.get? b = some o1 := h6
      rw [e] at h6'
      obtain rfl := Option.some.inj h6'
      exact h8
  cases b with
  | next => have q : fl = .next := v₄; subst q; exact nextI h₄
  | cont => have q : fl = .cont := v₄; subst q; exact nextI h₄
  | brk => have q : fl = .brk := v₄; subst q; exact ⟨ρ₃, .next, σ₃, p₀, r₄.unext hw, fr_next, h₄⟩
  | ret a => obtain ⟨u, rfl, hu⟩ := v₄; exact ⟨ρ₃, .ret a, σ₃, p₀, r₄.unext hw, ⟨u, rfl, hu⟩, h₄⟩
theorem for_coreM {x : Str} {xp : Pos} {body : List Stmt} {P : Nat → Value → Prop} {ys : List AV} {Φ : AF → St → Prop} {Inv : Nat → St → Prop}
    (hf : FmOk f env n) (hfr : env.frame = some env.locals) (hee : frameOf env = frameOf f.fenv) (hx : env.kindOf x = some .local)
    (W : Walks pw f.w f.A I fp wr ys.length P St') (hP : ∀ i v, P i v → ∃ y, ys[i]? = some y ∧ VR ρ v y)
    (r : Rep f ρ σ s) (hI : Inv 0 σ) (hst : St' 0 s.heap) (hwe : ∀ i h, St' i h → ∀ b ∈ wr, (h.get? b).isSome)
    (hwr : ∀ b ∈ wr, f.he b = none ∧ b ≠ f.L ∧ b ∉ ρ) (hz : Frz fp wr ρ s Inv)
    (step : ∀ i σ' y, Inv i σ' → ys[i]? = some y → ∀ f₁ : Fm, f₁.L = f.L → f₁.fenv = f.fenv → (f₁.outer = f.outer ∧ ∀ b o, f.he b = some o → f₁.he b = some o) → FmOk f₁ env n → EsM m f₁ body env (σ'.set x y) (LP Inv Φ i) Ψ)
    (done : ∀ σ', Inv ys.length σ' → Φ .next σ') :
    codeM m (model pw f.w) f.A (.forLoop (.Name x xp) (.ref I) body [] env) (CP f env ρ Φ Ψ) s := by
  have hw : ∀ b ∈ wr, f.he b = none := fun b hb => (hwr b hb).1
  have hL : f.L ∉ wr := fun q => (hwr _ q).2.1 rfl
  refine codeM_forLoop (LI f ρ wr Inv St' ys.length) ?_ (ys.length + 1)
    ⟨0, σ, ρ, rfl, Nat.zero_le _, List.prefix_refl _, r, hI, hst, fun b hb => (hwr b hb).2.2⟩
  rintro k s' ⟨i, σ', ρ', rfl, hi, hp, r', hI', hst', hd'⟩
  by_cases hlt : i < ys.length
  · refine W.item i _ _ _ hlt hst' fun v h₁ tk₁ hPv hst₁ hk₁ => ?_
    obtain ⟨y, hy, hvy⟩ := hP i v hPv
    have r₁ : Rep f ρ' σ' { s' with heap := h₁, toks := tk₁ } := r'.but hw hL hd' hk₁
    refine wpAny_pure ?_
    have r₂ : Rep (f.ext wr h₁) ρ' σ' { s' with heap := h₁, toks := tk₁ } := r₁.ext hL hd'
    have hf₁ : FmOk (f.ext wr h₁) env n := hf.ext hw hL
    refine wpAny_assign_Name (rep_store hf₁ hx hfr r₂ (hvy.mono hp) fun s₂ r₃ => ?_)
    exact loop_after hf hee W.frame hwe hw hz hlt hp r₁ hI' hst₁ (step i σ' y hI' hy (f.ext wr h₁) rfl rfl ⟨rfl, ext_up hw⟩ hf₁ ρ' _ r₃)
  · have hin : i = ys.length := by omega
    subst hin
    refine W.done _ _ _ hst' fun h₁ tk₁ hk₁ => ?_
    exact ⟨ρ', .next, σ', hp, r'.but hw hL hd' hk₁, fr_next, done σ' hI'⟩

/- for i, x in enumerate(a list) -/
theorem for_enumM {x1 x2 : Str} {p1 p2 pt : Pos} {k2 : Nat} {body : List Stmt} {Pt : Nat → Array Value → Prop} {Mid : Nat → Addr → Heap → Prop} {ys : List AV} {Φ : AF → St → Prop} {Inv : Nat → St → Prop}
    (hf : FmOk f env n) (hfr : env.frame = some env.locals) (hee : frameOf env = frameOf f.fenv) (hx1 : env.kindOf x1 = some .local) (hx2 : env.kindOf x2 = some .local)
    (W : WalksT pw f.w f.A I fp wr ys.length Pt St' Mid) (hP : ∀ i vals, Pt i vals → ∃ t v y, vals = #[.int i t, v] ∧ ys[i]? = some y ∧ VR ρ v y)
    (r : Rep f ρ σ s) (hI : Inv 0 σ) (hst : St' 0 s.heap) (hwe : ∀ i h, St' i h → ∀ b ∈ wr, (h.get? b).isSome)
    (hwr : ∀ b ∈ wr, f.he b = none ∧ b ≠ f.L ∧ b ∉ ρ) (hz : Frz fp wr ρ s Inv)
    (step : ∀ i σ' y, Inv i σ' → ys[i]? = some y → ∀ f₁ : Fm, f₁.L = f.L → f₁.fenv = f.fenv → (f₁.outer = f.outer ∧ ∀ b o, f.he b = some o → f₁.he b = some o) → FmOk f₁ env n → EsM m f₁ body env ((σ'.set x1 (.int i)).set x2 y) (LP Inv Φ i) Ψ)
    (done : ∀ σ', Inv ys.length σ' → Φ .next σ') :
    codeM m (model pw f.w) f.A (.forLoop (.Tuple [.Name x1 p1, .Name x2 p2] k2 pt) (.ref I) body [] env) (CP f env ρ Φ Ψ) s := by
  have hw : ∀ b ∈ wr, f.he b = none := fun b hb => (hwr b hb).1
  have hL : f.L ∉ wr := fun q => (hwr _ q).2.1 rfl
  refine codeM_forLoop (LI f ρ wr Inv St' ys.length) ?_ (ys.length + 1)
    ⟨0, σ, ρ, rfl, Nat.zero_le _, List.prefix_refl _, r, hI, hst, fun b hb => (hwr b hb).2.2⟩
  rintro k s' ⟨i, σ', ρ', rfl, hi, hp, r', hI', hst', hd'⟩
  by_cases hlt : i < ys.length
  · refine W.item i _ _ _ hlt hst' fun T vals h₁ tk₁ hPt hTs hT hMid hk₁ => ?_
    obtain ⟨t, v, y, rfl, hy, hvy⟩ := hP i vals hPt
    refine W.go _ k2 pt i T _ _ _ hMid fun h₂ hst₂ hk₂ => ?_
    have ht₂ : h₂.IsTuple T #[.int i t, v] := hT.at fun o e => hk₂ T o (W.apart i T h₁ hMid) e
    refine wpAny_assign_Tuple hf.handled ht₂ rfl rfl fun h₃ hx₃ => ?_
    have r₁ : Rep f ρ' σ' { s' with heap := h₃, toks := tk₁ } := r'.but hw hL hd' fun b o hb e =>
      hx₃ b o (Nat.ne_of_lt (Heap.lt_size (hk₂ b o hb (hk₁ b o hb e)))) (hk₂ b o hb (hk₁ b o hb e))
    have hst₃ : St' (i + 1) h₃ := W.frame _ _ _ hst₂ fun b hb o e => hx₃ b o (Nat.ne_of_lt (Heap.lt_size e)) e
    have r₂ : Rep (f.ext wr h₃) ρ' σ' { s' with heap := h₃, toks := tk₁ } := r₁.ext hL hd'
    have hf₁ : FmOk (f.ext wr h₃) env n := hf.ext hw hL
    show wpAny _ _ (do holding [v] (assign (.Name x1 p1) env (.int i t)); do holding [] (assign (.Name x2 p2) env v); pure ()) _ _ _
    refine wpAny_bind (wpAny_holding (wpAny_assign_Name (rep_store hf₁ hx1 hfr r₂ vr_int fun s₂ r₃ => ?_)))
    refine wpAny_bind (wpAny_holding (wpAny_assign_Name (rep_store hf₁ hx2 hfr r₃ (hvy.mono hp) fun s₂ r₃ => wpAny_pure ?_)))
    exact loop_after hf hee W.frame hwe hw hz hlt hp r₁ hI' hst₃ (step i σ' y hI' hy (f.ext wr h₃) rfl rfl ⟨rfl, ext_up hw⟩ hf₁ ρ' _ r₃)
  · have hin : i = ys.length := by omega
    subst hin
    refine W.done _ _ _ hst' fun h₁ tk₁ hk₁ => ?_
    exact ⟨ρ', .next, σ', hp, r'.but hw hL hd' hk₁, fr_next, done σ' hI'⟩
end core
end
end Mine

/- # F23 -/
namespace Mine
open PySem PySem.Calls PyProof.Rows PySem.W

section
variable {m : Mod} {α β γ δ : Type} {f : Fm} {env : Env} {n : Nat} {Ψ : Value → Prop} {ρ : List Addr} {σ : St} {s : Shared}

noncomputable abbrev SqM (m : Mod) (f : Fm) (env : Env) (Ψ : Value → Prop) (rest : List Stmt) (Φ : AF → St → Prop) (fl : AF) (σ₁ : St) : Prop := match fl with | .next => EsM m f rest env σ₁ Φ Ψ | fl => Φ fl σ₁
noncomputable abbrev BrnM (m : Mod) (f : Fm) (env : Env) (Ψ : Value → Prop) (a b : List Stmt) (Φ : AF → St → Prop) (c : Bool) (σ₁ : St) : Prop := if c = true then EsM m f a env σ₁ Φ Ψ else EsM m f b env σ₁ Φ Ψ
theorem xM_cons {st : Stmt} {rest : List Stmt} {Φ : AF → St → Prop}
    (h : ExM m f st env σ (SqM m f env Ψ rest Φ) Ψ) : EsM m f (st :: rest) env σ Φ Ψ := fun ρ s rp => by
  rw [execs_cons]
  refine wpM_bind (wpM_mono (h ρ s rp) (fun fl s₁ qq1 => qq1.elim fun ρ₁ b σ₁ p1 r1 v1 h1 => ?_) fun _ _ q => q)
  cases b with
  | next =>
    obtain rfl : fl = .next := v1
    exact wpM_mono ((show EsM m f rest env σ₁ Φ Ψ from h1) ρ₁ _ r1) (fun _ _ q => q.mono p1) fun _ _ q => q
  | brk => have q : fl = .brk := v1; subst q; exact wpM_pure ⟨ρ₁, .brk, _, p1, r1, rfl, h1⟩
  | cont => have q : fl = .cont := v1; subst q; exact wpM_pure ⟨ρ₁, .cont, _, p1, r1, rfl, h1⟩
  | ret a =>
    obtain ⟨u, rfl, hu⟩ := v1
    exact wpM_pure ⟨ρ₁, .ret a, _, p1, r1, ⟨u, rfl, hu⟩, h1⟩
/- a statement that asks nothing of the context, and what follows -/
theorem xM_consA {st : Stmt} {rest : List Stmt} {Φ : AF → St → Prop}
    (h : Ex f st env σ (SqM m f env Ψ rest Φ) Ψ) : EsM m f (st :: rest) env σ Φ Ψ := xM_cons (TrM.of h)
theorem xM_nil {Φ : AF → St → Prop} (h : Φ .next σ) : EsM m f [] env σ Φ Ψ := TrM.of (x_nil h)
theorem xM_if {t : Expr} {a b : List Stmt} {p : Pos} {Φ : AF → St → Prop} (h : TtM m f t env σ (BrnM m f env Ψ a b Φ) Ψ) : ExM m f (.If t a b p) env σ Φ Ψ := fun ρ s rp => by
  rw [exec_If]
  refine wpM_bindA (wpAny_standAt (wpM_bind (wpM_mono (h ρ s rp) (fun c _ qq2 => qq2.elim fun ρ₁ c' _ p1 r1 v1 h1 => ?_) fun _ _ q => q)))
  obtain rfl : c = c' := v1
  cases c with
  | true => exact wpM_mono ((show EsM m f a env _ Φ Ψ from h1) ρ₁ _ r1) (fun _ _ q => q.mono p1) fun _ _ q => q
  | false => exact wpM_mono ((show EsM m f b env _ Φ Ψ from h1) ρ₁ _ r1) (fun _ _ q => q.mono p1) fun _ _ q => q

theorem Rep.isL (r : Rep f ρ σ s) {j : Nat} {xs : List AV} (h : ListAt σ j xs) {v : Value} (hv : VR ρ v (.ref j)) :
    ∃ a vs k, v = .ref a ∧ ρ[j]? = some a ∧ s.heap.get? a = some { cls := .type "list", data := .seq vs k } ∧ VRs ρ vs.toList xs := r.listAt h hv

inductive LoopM (m : Mod) (f : Fm) (env : Env) (n : Nat) (st : St → Nat → AV → St) (body : List Stmt) (items : List AV) (σ : St) (js : List Nat) (Φ : AF → St → Prop) (Ψ : Value → Prop) : Prop where
  | mk (Inv : Nat → St → Prop) (h0 : Inv 0 σ) (hj : ∀ j ∈ js, ∀ i σ', Inv i σ' → σ'.mem[j]? = σ.mem[j]?)
    (step : ∀ i σ' y, Inv i σ' → items[i]? = some y → ∀ f₁ : Fm, f₁.L = f.L → f₁.fenv = f.fenv → (f₁.outer = f.outer ∧ ∀ b o, f.he b = some o → f₁.he b = some o) → FmOk f₁ env n → EsM m f₁ body env (st σ' i y) (LP Inv Φ i) Ψ)
    (done : ∀ σ', Inv items.length σ' → Φ .next σ')
noncomputable abbrev StS (x : Str) (σ : St) (_ : Nat) (y : AV) : St := σ.set x y
noncomputable abbrev StE (x1 x2 : Str) (σ : St) (i : Nat) (y : AV) : St := (σ.set x1 (.int i)).set x2 y
noncomputable abbrev KLp (m : Mod) (f : Fm) (env : Env) (n : Nat) (st : St → Nat → AV → St) (body : List Stmt) (Φ : AF → St → Prop) (Ψ : Value → Prop) (items : List AV) (σ : St) (js : List Nat) : Prop := LoopM m f env n st body items σ js Φ Ψ
noncomputable abbrev KEn (m : Mod) (f : Fm) (env : Env) (n : Nat) (st : St → Nat → AV → St) (body : List Stmt) (Φ : AF → St → Prop) (Ψ : Value → Prop) (a : AV) (σ₁ : St) : Prop := ∃ j xs, a = .ref j ∧ ListAt σ₁ j xs ∧ ∀ o, LoopM m f env n st body xs (σ₁.put j (.fix o false xs)) [j] Φ Ψ
noncomputable abbrev KLo (f : Fm) (env : Env) (n : Nat) (x : Str) (body : List Stmt) (Φ : AF → St → Prop) (Ψ : Value → Prop) (items : List AV) (σ : St) (js : List Nat) : Prop := LoopOk f env n x body items σ js Φ Ψ

theorem xM_for {x : Str} {xp p : Pos} {iter : Expr} {body : List Stmt} {Φ : AF → St → Prop} (hf : FmOk f env n) (hx : env.kindOf x = some .local)
    (h : Tit f iter env σ (KLp m f env n (StS x) body Φ Ψ) Ψ) (hee : frameOf env = frameOf f.fenv) (hfr : env.frame = some env.locals := by rfl)
    (hs : ∀ x, foldedSetIterable iter env x = pure x := by intro _; rfl) : ExM m f (.For (.Name x xp) iter body [] p) env σ Φ Ψ := fun ρ s r => by
  rw [exec_For]
  refine wpM_bindA (wpAny_standAt (wpM_bindA (wpAny_mono (h ρ s r) (fun xv s₁ h₁ => wpM_bindA (wpAny_of_eq (hs xv) (wpM_bindA (wpAny_standAt (wpM_bindA (wpAny_holding (wpAny_mono h₁ (fun it s₂ qz => IV.casesOn (motive := fun _ => _) qz fun ρ' items σ' js p1 r' qw qh => WalkOk.casesOn (motive := fun _ => _) qw fun I fp wr P St' hI W hst hfp hwe hwr hP hfz => LoopM.casesOn (motive := fun _ => _) qh fun Inv h0 hj step done => ?_) fun _ _ q => q))))))) fun _ _ q => q)))
  subst hI
  refine wpM_runOwn trivial (codeM_mono (for_coreM (Φ := Φ) (Ψ := Ψ) hf hfr hee hx W hP r' h0 hst hwe hwr ?_ step done) fun rr s' q => ?_)
  · intro b hb
    rcases hfz b hb with h1 | ⟨j, hjm, o, t, xs, h2, h3, h4⟩
    · exact .inl h1
    · exact .inr ⟨j, o, h2, h3, fun i σ'' hI'' => ⟨t, xs, by rw [hj j hjm i σ'' hI'']; exact h4⟩⟩
  · cases rr with
    | ok fl => exact PV.mono p1 q
    | error e => exact q

/- for i, x in enumerate(e) -/
theorem xM_enum {x1 x2 en : Str} {p1 p2 pt np cpos p : Pos} {k2 : Nat} {iter : Expr} {body : List Stmt} {Φ : AF → St → Prop} (hf : FmOk f env n) (hx1 : env.kindOf x1 = some .local) (hx2 : env.kindOf x2 = some .local)
    (hen : env.kindOf en = some .globalImplicit) (hn : ∀ w, nsIn (KK w) mainGlobals en = some none) (hv : bootBuiltins en = some (.type "enumerate"))
    (h : Ev f iter env σ (KEn m f env n (StE x1 x2) body Φ Ψ) Ψ)
    (hee : frameOf env = frameOf f.fenv) (hfr : env.frame = some env.locals := by rfl)
    (hne : en ≠ "__name__" := by decide +kernel) (hd : (en == ("__debug__" : Str)) = false := by kernel_rfl)
    (he : starEach [iter] env = (false, eval iter env) :: starEach [] env := by rfl)
    (hc : eval (.Call (.Name en np) [iter] [] cpos) env = (do callWith cpos (← eval (.Name en np) env) [] (backTo cpos (starEach [iter] env)) (backToKw cpos (keywordEach [] env))) := by rfl)
    (hs : ∀ x, foldedSetIterable (.Call (.Name en np) [iter] [] cpos) env x = pure x := by intro _; rfl) :
    ExM m f (.For (.Tuple [.Name x1 p1, .Name x2 p2] k2 pt) (.Call (.Name en np) [iter] [] cpos) body [] p) env σ Φ Ψ := fun ρ s r => by
  rw [exec_For]
  refine wpM_bindA (wpAny_standAt (wpM_bindA ?_))
  refine Call_ (wpAny_mono (e_bi (Φ := fun a σ' => a = .val (.type "enumerate") ∧ σ' = σ) (Ψ := Ψ) (p := np) hf hen hn hv ⟨rfl, rfl⟩ hne hd ρ s r) (fun v s₁ qq3 => qq3.elim fun ρ₁ a σ₁ q1 r1 v1 qq4 => qq4.elim fun e1 e2 => ?_) fun _ _ q => q) hc
  subst e1 e2
  have q : v = .type "enumerate" := v1
  subst q
  have hta : Ta f [iter] env cpos σ₁ (fun as σ₂ => ∃ j xs, as = [.ref j] ∧ ListAt σ₂ j xs ∧ ∀ o, LoopM m f env n (StE x1 x2) body xs (σ₂.put j (.fix o false xs)) [j] Φ Ψ) Ψ :=
    a_cons (h.mono (fun a σ₂ qq5 => qq5.elim fun j qq6 => qq6.elim fun xs qq7 => qq7.elim fun e qq8 => qq8.elim fun h1 h2 => a_nil ⟨j, xs, by rw [e], h1, h2⟩) fun _ q => q) he
  refine PyProof.Rows.callWith_type1 (wpAny_mono (hta ρ₁ _ r1) (fun vs s₂ qq9 => qq9.elim fun ρ₂ as σ₂ q2 r2 v2 qq10 => qq10.elim fun j qq11 => qq11.elim fun xs qq12 => qq12.elim fun ha qq13 => qq13.elim fun hl hlp => ?_) fun _ _ q => q) he rfl
  subst ha
  obtain ⟨v, rfl, hvj⟩ := vrs1 v2
  obtain ⟨l, ws, k, rfl, hj, hh, hws⟩ := r2.listAt hl hvj
  have hlist : s₂.heap.IsList l ws := ⟨_, hh, rfl, k, rfl⟩
  refine call_enumerate_list hlist fun h' hen' hit' hsz' hk' => ?_
  have r3 : Rep f ρ₂ σ₂ { s₂ with heap := h' } := r2.keeps (tk := s₂.toks) hk'
  have hhl : h'.get? l = some { cls := .type "list", data := .seq ws k } := hk' _ _ hh
  have r4 := r3.restate hj hhl (o := .fix _ false xs) ⟨rfl, ws, k, rfl, hws⟩
  have hll : l < s₂.heap.objs.size := Heap.lt_size hh
  have W := WalksT.enumerate (prog := pw) (w := f.w) (A := f.A) hf.handled (s₂.heap.objs.size + 1) s₂.heap.objs.size l (Nat.ne_of_gt (Nat.lt_succ_self _)) (Nat.ne_of_lt (Nat.lt_succ_of_lt hll)) (Nat.ne_of_lt hll) ws
  have e : ws.size = xs.length := by rw [← paired_length hws]; simp
  rw [e] at W
  refine wpM_bindA (wpAny_of_eq (hs _) (wpM_bindA (wpAny_standAt (wpM_bindA (wpAny_holding (W.self 0 _ _ _ ⟨⟨_, hen'⟩, hit', hlist.at fun o x => hk' _ _ x⟩ ?_))))))
  obtain ⟨Inv, h0, hjj, step, done⟩ := hlp { cls := .type "list", data := .seq ws k }
  have hfresh : ∀ b, s₂.heap.objs.size ≤ b → f.he b = none ∧ b ≠ f.L ∧ b ∉ ρ₂ := fun b hb => by
    have hnone : s₂.heap.get? b = none := Heap.get?_none_of_le hb
    refine ⟨?_, fun q => ?_, fun q => ?_⟩
    · cases q : f.he b with
      | none => rfl
      | some o => have := r2.keep _ _ q; rw [hnone] at this; (first | exact nn this | exact sn this | exact tf this | exact ft this | cases this)
    · have := r2.Lsome; rw [← q, hnone] at this; (first | exact nn this | exact sn this | exact tf this | exact ft this | cases this)
    · have := r2.lt q; rw [hnone] at this; (first | exact nn this | exact sn this | exact tf this | exact ft this | cases this)
  refine wpM_runOwn trivial (codeM_mono (for_enumM (Φ := Φ) (Ψ := Ψ) hf hfr hee hx1 hx2 W ?_ r4 h0 ⟨⟨_, hen'⟩, hit', hlist.at fun o x => hk' _ _ x⟩ ?_ ?_ ?_ step done) fun rr s' q => ?_)
  · rintro i vals ⟨t, x, hx, rfl⟩
    obtain ⟨y, hy, hxy⟩ := paired_get hws (show ws.toList[i]? = some x by simpa using hx)
    exact ⟨t, x, y, rfl, hy, hxy⟩
  · rintro i hp ⟨⟨old, he1⟩, he2, _⟩ b hb
    simp only [List.mem_cons, List.not_mem_nil, or_false] at hb
    rcases hb with rfl | rfl
    · rw [show hp.get? _ = _ from he1]; rfl
    · obtain ⟨o, ho, _⟩ := he2; rw [ho]; rfl
  · intro b hb
    simp only [List.mem_cons, List.not_mem_nil, or_false] at hb
    refine hfresh b ?_
    rcases hb with hb | hb
    · rw [hb]; exact Nat.le_succ _
    · rw [hb]; exact Nat.le_refl _
  · intro b hb
    simp only [List.mem_cons, List.not_mem_nil, or_false] at hb
    rcases hb with rfl | rfl | rfl
    · exact .inl (by simp)
    · exact .inl (by simp)
    · refine .inr ⟨j, _, hj, hhl, fun i σ'' hI'' => ⟨false, xs, ?_⟩⟩
      rw [hjj j (by simp) i σ'' hI'']
      exact mem_put (la_lt hl)
  · cases rr with
    | ok fl => exact PV.mono (q1.trans q2) q
    | error e => exact q

theorem x_for {x : Str} {xp p : Pos} {iter : Expr} {body : List Stmt} {Φ : AF → St → Prop} (hf : FmOk f env n) (hx : env.kindOf x = some .local)
    (h : Tit f iter env σ (KLo f env n x body Φ Ψ) Ψ) (hee : frameOf env = frameOf f.fenv) (hfr : env.frame = some env.locals := by rfl)
    (hs : ∀ x, foldedSetIterable iter env x = pure x := by intro _; rfl) : Ex f (.For (.Name x xp) iter body [] p) env σ Φ Ψ :=
  Tr.of_M (xM_for hf hx (fun ρ s r => wpAny_mono (h ρ s r) (fun _ _ q => wpAny_mono q (fun _ _ q => IV.casesOn (motive := fun _ => IV f ρ (KLp Am f env n (StS x) body Φ Ψ) _ _) q fun ρ' items σ' js p r w qh =>
    ⟨ρ', items, σ', js, p, r, w, LoopOk.casesOn (motive := fun _ => LoopM Am f env n (StS x) body items σ' js Φ Ψ) qh fun Inv h0 hj step done => ⟨Inv, h0, hj, fun i σ' y a b f₁ c d _ e => TrM.of (step i σ' y a b f₁ c d e), done⟩⟩) fun _ _ q => q) fun _ _ q => q) hee hfr hs)

/- ## while -/
noncomputable abbrev LW (Inv : Nat → St → Prop) (Φ : AF → St → Prop) (k : Nat) (fl : AF) (σ3 : St) : Prop := match fl with | .next => ∃ j, j < k ∧ Inv j σ3 | .cont => ∃ j, j < k ∧ Inv j σ3 | .brk => Φ .next σ3 | .ret a => Φ (.ret a) σ3
noncomputable abbrev KWh (f : Fm) (body : List Stmt) (env : Env) (Inv : Nat → St → Prop) (Φ : AF → St → Prop) (Ψ : Value → Prop) (k : Nat) (b : Bool) (σ'' : St) : Prop := if b = true then Es f body env σ'' (LW Inv Φ k) Ψ else Φ .next σ''
theorem x_while {test : Expr} {body : List Stmt} {p : Pos} {Φ : AF → St → Prop} (hf : FmOk f env n) (hee : frameOf env = frameOf f.fenv) (Inv : Nat → St → Prop) (N : Nat) (h0 : Inv N σ)
    (turn : ∀ k σ', Inv k σ' → Tt f test env σ' (KWh f body env Inv Φ Ψ k) Ψ) :
    Ex f (.While test body [] p) env σ Φ Ψ := fun ρ s r => by
  refine wpAny_While (codeAny_whileLoop (fun k s' => ∃ σ' ρ', ρ <+: ρ' ∧ Rep f ρ' σ' s' ∧ Inv k σ') ?_ N ⟨σ, ρ, List.prefix_refl _, r, h0⟩)
  rintro k s' ⟨σ', ρ', hp, r', hI⟩
  refine wpAny_mono (turn k σ' hI ρ' _ r') (fun c s₂ qq14 => qq14.elim fun ρ₂ c' σ₂ p2 r2 v2 h2 => ?_) fun e s₃ qq15 => qq15.elim fun c xx hc => pe_noted (env' := env) hf xx (fun s₄ x₄ => ⟨c, x₄, hc⟩) hee
  obtain rfl : c = c' := v2
  cases c with
  | false => exact wpAny_execs_nil (PV.mono hp ⟨ρ₂, .next, σ₂, p2, r2, fr_next, h2⟩)
  | true =>
    refine wpAny_mono ((show Es f body env σ₂ _ Ψ from h2) ρ₂ _ r2) (fun fl s₃ qq16 => qq16.elim fun ρ₃ b σ₃ p₃ r₃ v₃ h₃ => ?_) fun e s₃ qq17 => qq17.elim fun c xx hc => pe_noted (env' := env) hf xx (fun s₄ x₄ => ⟨c, x₄, hc⟩) hee
    have p₀ := hp.trans (p2.trans p₃)
    cases b with
    | next => have q : fl = .next := v₃; subst q; obtain ⟨j, hj, hI'⟩ := h₃; exact ⟨j, hj, σ₃, ρ₃, p₀, r₃, hI'⟩
    | cont => have q : fl = .cont := v₃; subst q; obtain ⟨j, hj, hI'⟩ := h₃; exact ⟨j, hj, σ₃, ρ₃, p₀, r₃, hI'⟩
    | brk => have q : fl = .brk := v₃; subst q; exact ⟨ρ₃, .next, σ₃, p₀, r₃, fr_next, h₃⟩
    | ret a => obtain ⟨u, rfl, hu⟩ := v₃; exact ⟨ρ₃, .ret a, σ₃, p₀, r₃, ⟨u, rfl, hu⟩, h₃⟩
end
end Mine

namespace Mine
open PySem PySem.Calls PyProof.Rows PySem.W
local macro_rules
  | `(tactic| walk_at "lk") => `(tactic| first | with_reducible assumption | with_reducible exact lk_same | with_reducible exact lk_one | with_reducible exact lk_other (by kernel_rfl) (by walk_at "lk") | with_reducible exact lk_new (by walk_at "lk") | with_reducible exact lk_put (by walk_at "lk"))
local macro_rules
  | `(tactic| walk_at "la") => `(tactic| first | with_reducible assumption | with_reducible exact la_new | with_reducible exact la_set (by walk_at "la") | with_reducible exact la_keep (by walk_at "la") | with_reducible exact la_put (by assumption))
/- # W103 -/
section
open PySem PySem.Calls PyProof.Rows PySem.W


noncomputable abbrev hexN : List Nat := [48, 49, 50, 51, 52, 53, 54, 55, 56, 57, 97, 98, 99, 100, 101, 102]
noncomputable def hexAcc (k : Nat) (t : List Nat) : List Nat :=
  if h : k = 0 ∧ t ≠ [] then t else if h0 : k = 0 then [48] else hexAcc (k / 16) (hexN.getD (k % 16) 0 :: t)
termination_by k
decreasing_by (first | lia | omega)
noncomputable def hexF (k : Nat) : List Nat := hexAcc k []
theorem hexAcc_done {t : List Nat} (h : t ≠ []) : hexAcc 0 t = t := by unfold hexAcc; rw [dif_pos ⟨rfl, h⟩]
theorem hexAcc_step {k : Nat} {t : List Nat} (h : ¬ (k = 0 ∧ t ≠ [])) : hexAcc k t = hexAcc (k / 16) (hexN.getD (k % 16) 0 :: t) := by
  conv => lhs; unfold hexAcc
  rw [dif_neg h]
  split
  · rename_i h0
    subst h0
    rw [hexAcc_done (by simp)]
    have : t = [] := by
      cases t with
      | nil => rfl
      | cons a b => exact absurd ⟨rfl, by simp⟩ h
    subst this; rfl
  · rfl
theorem q103 {N : Nat} {n : Nat} (hN : N ≤ 100000): Fn (n + 2) 103 [.int N] (fun r => r = .flat (.str (hexF N))) (fun _ => False) := by
  refine fn_of1 def103 peek103 (by kernel_rfl) fun f hf hfe σ hs1 hs2 => ?_
  refine x_cons ?_
  refine x_assign hf (by kernel_rfl) ?_ (by rfl) (by kernel_rfl)
  refine e_str (l := []) (by kernel_rfl) ?_
  refine x_cons ?_
  refine x_while hf (by rw [hfe]) (fun j σ' => ∃ (k : Nat) (t : List Nat), σ'.loc.lookup ("number" : Str) = some (.int k) ∧ σ'.loc.lookup ("text" : Str) = some (.str t) ∧ hexAcc k t = hexF N ∧ t.length + k ≤ 100001 ∧ j = k + (if t = [] then 1 else 0)) (N + 1) ⟨N, [], by walk_at "lk", by walk_at "lk", rfl, by simp; (first | lia | omega), by simp⟩ ?_
  rintro j σ' ⟨k, t, g1, g2, g3, g4, rfl⟩
  refine t_is (!decide (k = 0 ∧ t ≠ [])) (fun s => s = σ') ?_ ?_
  · refine t_bool ?_
    refine ta_or ?_
    refine t_compare ?_
    refine e_loc hf (by kernel_rfl) (by walk_at "lk") ?_
    refine e_int ?_
    refine o_gt_int ?_
    refine tite_of (fun c1 => ⟨by have := of_decide_eq_true c1; simp; left; (first | lia | omega), rfl⟩) (fun c1 => ?_)
    have hk : k = 0 := by have := of_decide_eq_false c1; (first | lia | omega)
    refine ta_or ?_
    refine t_compare ?_
    refine e_loc hf (by kernel_rfl) (by walk_at "lk") ?_
    refine e_str (l := []) (by kernel_rfl) ?_
    refine o_eq_str ?_
    refine tite_of (fun c2 => ⟨by simp at c2; simp [c2], rfl⟩) (fun c2 => ?_)
    exact ta_nil ⟨by simp at c2; simp [hk, c2], rfl⟩
  rintro s rfl
  refine tite_of (fun c => ?_) (fun c => ?_)
  · have hc : ¬ (k = 0 ∧ t ≠ []) := by
      simp at c
      rintro ⟨a, b⟩
      rcases c with c | c
      · exact c a
      · exact b c
    refine x_cons ?_
    refine x_assign hf (by kernel_rfl) ?_ (by rfl) (by kernel_rfl)
    have e16 : ((k : Int).fmod 16) = ((k % 16 : Nat) : Int) := by rw [Int.fmod_eq_emod_of_nonneg _ (by (first | lia | omega))]; (first | lia | omega)
    have e16' : ((k : Int).fdiv 16) = ((k / 16 : Nat) : Int) := by rw [Int.fdiv_eq_ediv_of_nonneg _ (by (first | lia | omega))]; (first | lia | omega)
    refine e_binop ?_
    refine e_index ?_
    refine e_str (l := [48, 49, 50, 51, 52, 53, 54, 55, 56, 57, 97, 98, 99, 100, 101, 102]) (by kernel_rfl) ?_
    refine e_binop ?_
    refine e_loc hf (by kernel_rfl) (by walk_at "lk") ?_
    refine e_int ?_
    refine o_mod_int (by decide) ?_
    rw [e16]
    refine i_str (by simp) (by (first | lia | omega)) (by simp only [List.length_cons, List.length_nil]; (first | lia | omega)) ?_
    refine e_loc hf (by kernel_rfl) (by walk_at "lk") ?_
    refine o_add_str (by first | (first | lia | omega) | (simp; (first | lia | omega))) ?_
    refine x_cons ?_
    refine x_assign hf (by kernel_rfl) ?_ (by rfl) (by kernel_rfl)
    refine e_binop ?_
    refine e_loc hf (by kernel_rfl) (by walk_at "lk") ?_
    refine e_int ?_
    refine o_div_int hf (by first | (first | lia | omega) | (simp; (first | lia | omega))) (by decide) ?_
    rw [e16']
    rw [Int.toNat_natCast]
    refine x_nil ?_
    refine ⟨k / 16, ?_, k / 16, [hexN.getD (k % 16) 0] ++ t, by walk_at "lk", by walk_at "lk", ?_, ?_, by simp⟩
    · split
      · (first | lia | omega)
      · rename_i ht
        have : k ≠ 0 := fun e => hc ⟨e, ht⟩
        (first | lia | omega)
    · rw [← g3, hexAcc_step hc]; rfl
    · simp only [List.length_append, List.length_cons, List.length_nil]
      by_cases k0 : k = 0
      · subst k0
        have : t = [] := by
          cases t with
          | nil => rfl
          | cons a b => exact absurd ⟨rfl, by simp⟩ hc
        subst this; simp
      · (first | lia | omega)
  · have hc : k = 0 ∧ t ≠ [] := by simpa using c
    refine x_cons ?_
    refine x_return ?_
    refine e_loc hf (by kernel_rfl) (by walk_at "lk") ?_
    show RV.flat (.str t) = _
    rw [← g3, hc.1, hexAcc_done hc.2]
end

/- # F24 -/
section
open PySem PySem.Calls PyProof.Rows PySem.W

section
variable {α β γ δ : Type} {f : Fm} {env : Env} {n : Nat} {Ψ : Value → Prop} {ρ : List Addr} {σ : St} {s : Shared} {Φ : AV → St → Prop}

/- ## an own object changed -/
theorem paired_apart {α β : Type} {F G : α → β → Prop} {l : List α} {m : List β} {a : α} (p : Paired F l m) (hn : a ∉ l) (k : ∀ b y, b ≠ a → F b y → G b y) : Paired G l m := by
  induction p with
  | nil => exact .nil
  | cons h1 _ ih => exact .cons (k _ _ (fun q => hn (q ▸ .head _)) h1) (ih fun q => hn (.tail _ q))
theorem paired_put {α β : Type} {F G : α → β → Prop} {l : List α} {m : List β} (p : Paired F l m) (nd : l.Nodup) : ∀ {j : Nat} {a : α} {o : β}, l[j]? = some a → (∀ b y, b ≠ a → F b y → G b y) → G a o → Paired G l (m.set j o) := by
  induction p with
  | nil => exact fun h _ _ => nn h
  | cons hx hr ih =>
    intro j a o h k g
    have n1 := List.nodup_cons.mp nd
    cases j with
    | zero =>
      have e := Option.some.inj h
      exact .cons (e.symm ▸ g) (paired_apart hr n1.1 (e.symm ▸ k))
    | succ j => exact .cons (k _ _ (fun q => n1.1 (q ▸ List.mem_of_getElem? h)) hx) (ih n1.2 h k g)
theorem Rep.put (r : Rep f ρ σ s) {j : Nat} {a : Addr} {ob : Obj} {o : AO} {h' : Heap} {tk : Nat} (hj : ρ[j]? = some a) (hs : ∀ b x, b ≠ a → s.heap.get? b = some x → h'.get? b = some x) (ho : h'.get? a = some ob) (hO : OR ρ ob o) :
    Rep f ρ (σ.put j o) { s with heap := h', toks := tk } := by
  obtain ⟨n1, n2⟩ := r.ne hj
  refine ⟨fun b x e => hs b x (fun q => by rw [q, n1] at e; (first | exact nn e | exact sn e | exact tf e | exact ft e | cases e)) (r.keep b x e), ?_, ?_, r.nodup, r.gens, r.drawn, r.os⟩
  · obtain ⟨m, h1, h2⟩ := r.ns
    exact ⟨m, h1.at' fun o e => hs _ o (Ne.symm n2) e, h2⟩
  · exact paired_put r.mem r.nodup hj (fun b y hb qq1 => qq1.elim fun ob' qq2 => qq2.elim fun e1 e2 => ⟨ob', hs _ _ hb e1, e2⟩) ⟨ob, ho, hO, n1, n2⟩

theorem meth_append {j : Nat} {xs : List AV} (hj : ListAt σ j xs) : MethOk f (.ref j) "append" "list.append" σ := by
  intro M A pl E Q ρ v s hv r h
  obtain ⟨a, vs, k, rfl, h2, h3, h4⟩ := r.listAt hj hv
  exact getMethod_list_append h3 rfl rfl h
theorem o_append {j : Nat} {xs : List AV} {x : AV} (hj : ListAt σ j xs) (hsz : xs.length ≤ 16777216) (h : Φ .none (σ.put j (.list (xs ++ [x])))) : OpN f (fun vs => call (.builtin "list.append") vs) VR [.ref j, x] σ Φ Ψ := by
  intro ρ vs hv s r
  obtain ⟨v, u, rfl, h1, h2⟩ := vrs2 hv
  obtain ⟨a, ws, k, rfl, hja, hh, hw⟩ := r.listAt hj h1
  have e : ws.size = xs.length := by rw [← paired_length hw]; simp
  refine append_at hh (fun h' hs ho => ?_) (by rw [e, sizeLine_eq]; exact hsz)
  refine ⟨ρ, .none, σ.put j (.list (xs ++ [x])), List.prefix_refl _, r.put (tk := s.toks) hja (fun b o hb e => (hs.2 b hb).trans e) ho ⟨_, _, rfl, ?_⟩, vr_none, h⟩
  rw [Array.toList_push]
  exact paired_append hw (.cons h2 .nil)

/- ## f-strings -/
theorem joins_mono {M : Model} {A : Around} {E : Value → Shared → Prop} : ∀ {ps : List (Sem Value)} {acc : Str} {Q Q' : Str → Shared → Prop} {s : Shared}, (∀ x s, Q x s → Q' x s) → Joins M A E ps acc Q s → Joins M A E ps acc Q' s
  | [], _, _, _, _, k, h => k _ _ h
  | _ :: _, _, _, _, _, k, h => wpAny_mono h (fun _ _ qq3 => qq3.elim fun y qq4 => qq4.elim fun t qq5 => qq5.elim fun e qq6 => qq6.elim fun hz h => ⟨y, t, e, hz, joins_mono k h⟩) fun _ _ q => q
noncomputable def TJ (f : Fm) (es : List Expr) (env : Env) (acc : List Nat) (σ : St) (Φ : AV → St → Prop) (Ψ : Value → Prop) : Prop :=
  ∀ ρ s, Rep f ρ σ s → Joins (model pw f.w) f.A (PE f Ψ) (evalEach es env) ⟨acc.toArray⟩ (fun out s₁ => out.length ≤ sizeLine ∧ PV f ρ VR Φ (.str out s₁.toks) { s₁ with toks := s₁.toks + 1 }) s
theorem tj_nil {acc : List Nat} (hsz : acc.length ≤ 16777216) (h : Φ (.str acc) σ) : TJ f [] env acc σ Φ Ψ := fun ρ s r =>
  ⟨by rw [str_len, sizeLine_eq]; exact hsz, pv r.tk vr_str h⟩
noncomputable abbrev KTJ (f : Fm) (env : Env) (Ψ : Value → Prop) (rest : List Expr) (acc : List Nat) (Φ : AV → St → Prop) (a : AV) (σ₁ : St) : Prop := ∃ y, a = .str y ∧ acc.length + y.length ≤ 16777216 ∧ TJ f rest env (acc ++ y) σ₁ Φ Ψ
theorem tj_cons {e : Expr} {rest : List Expr} {acc : List Nat} (h : Ev f e env σ (KTJ f env Ψ rest acc Φ) Ψ) : TJ f (e :: rest) env acc σ Φ Ψ := fun ρ s r => by
  show wpAny _ _ (eval e env) _ _ s
  refine wpAny_mono (h ρ s r) (fun v s₁ qq7 => qq7.elim fun ρ₁ a σ₁ p1 r1 v1 qq8 => qq8.elim fun y qq9 => qq9.elim fun ea qq10 => qq10.elim fun hz h1 => ?_) fun _ _ q => q
  subst ea
  obtain ⟨t, rfl⟩ := v1
  have e : (⟨acc.toArray⟩ : Str) ++ (⟨y.toArray⟩ : Str) = ⟨(acc ++ y).toArray⟩ := by show Str.append _ _ = _; simp [Str.append]
  refine ⟨_, t, rfl, by rw [e, str_len, sizeLine_eq, List.length_append]; exact hz, ?_⟩
  rw [e]
  exact joins_mono (fun _ _ qq11 => qq11.elim fun q1 q2 => ⟨q1, q2.mono p1⟩) (h1 ρ₁ _ r1)
theorem e_fstr {v₁ v₂ : Expr} {rest : List Expr} {pos : Pos} (h : TJ f (v₁ :: v₂ :: rest) env [] σ Φ Ψ) : Ev f (.JoinedStr (v₁ :: v₂ :: rest) pos) env σ Φ Ψ := fun ρ s r => wpAny_JoinedStr (h ρ s r)
theorem e_fstr1 {v : Expr} {pos : Pos} (h : Ev f v env σ Φ Ψ) : Ev f (.JoinedStr [v] pos) env σ Φ Ψ := fun ρ s r => wpAny_JoinedStr_one (h ρ s r)
noncomputable abbrev KF2 (f : Fm) (Ψ : Value → Prop) (Φ : AV → St → Prop) (a b : AV) (σ₂ : St) : Prop := match b with | .str sp => Op1 f (fun v => formatField v ⟨sp.toArray⟩) VR a σ₂ Φ Ψ | _ => False
theorem KF2.elim {a b : AV} {C : Prop} (h : KF2 f Ψ Φ a b σ) (k : ∀ sp, b = .str sp → Op1 f (fun v => formatField v ⟨sp.toArray⟩) VR a σ Φ Ψ → C) : C := by
  cases b <;> first | exact k _ rfl h | exact False.elim h
noncomputable abbrev KFs (f : Fm) (env : Env) (Ψ : Value → Prop) (spec : Expr) (Φ : AV → St → Prop) (a : AV) (σ₁ : St) : Prop := Ev f spec env σ₁ (KF2 f Ψ Φ a) Ψ
theorem e_field {value : Expr} {pos : Pos} (h : Ev f value env σ (K1 f Ψ (fun v => formatField v Str.empty) AV VR Φ) Ψ) : Ev f (.FormattedValue value (-1) none pos) env σ Φ Ψ := fun ρ s r =>
  wpAny_FormattedValue_plain (wpAny_mono (h ρ s r) (fun _ _ qq12 => qq12.elim fun ρ₁ _ _ p1 r1 v1 h1 => wpAny_mono (h1 ρ₁ _ v1 _ r1) (fun _ _ q => q.mono p1) fun _ _ q => q) fun _ _ q => q)
theorem e_fieldS {value spec : Expr} {pos : Pos} (h : Ev f value env σ (KFs f env Ψ spec Φ) Ψ) : Ev f (.FormattedValue value (-1) (some spec) pos) env σ Φ Ψ := fun ρ s r =>
  wpAny_FormattedValue_spec (wpAny_mono (h ρ s r) (fun v _ qq13 => qq13.elim fun ρ₁ _ _ p1 r1 v1 h1 => wpAny_mono (h1 ρ₁ _ r1) (fun u _ qq14 => qq14.elim fun ρ₂ _ _ p2 r2 v2 qq15 => qq15.elim fun sp e h2 => by
    subst e
    obtain ⟨t, rfl⟩ := v2
    exact ⟨_, t, rfl, wpAny_mono (h2 ρ₂ _ (v1.mono p2) _ r2) (fun _ _ q => q.mono (p1.trans p2)) fun _ _ q => q⟩) fun _ _ q => q) fun _ _ q => q)
noncomputable def decS (k : Int) : List Nat := (toString k : PySem.Str).cps.toList
theorem o_field_int {k : Int} (hk : k.natAbs.log2 < 1920) (h : Φ (.str (decS k)) σ) : Op1 f (fun v => formatField v Str.empty) VR (.int k) σ Φ Ψ := by
  rintro ρ _ ⟨t, rfl⟩ s r
  exact wpAny_formatField_int hk (pv r.tk vr_strx h)
theorem o_field_str {x : List Nat} (hsz : x.length ≤ 16777216) (h : Φ (.str x) σ) : Op1 f (fun v => formatField v Str.empty) VR (.str x) σ Φ Ψ := by
  rintro ρ _ ⟨t, rfl⟩ s r
  exact wpAny_formatField_str (pv r vr_str h) (pv r.tk vr_str h) (by rw [str_len, sizeLine_eq]; exact hsz)
noncomputable def hx (d : Nat) : Nat := if d < 10 then 48 + d else 87 + d
noncomputable def hex2 (k : Nat) : List Nat := [hx (k / 16), hx (k % 16)]
theorem fmt_tree : ∃ F : Int → Str, (∀ k t u, Builtin.«int.__format__» ⟨[.int k t, .str ⟨#[48, 50, 120]⟩ u], []⟩ = retStr (F k)) ∧ ∀ k, k < 256 → (F (k : Nat)).cps.toList = hex2 k :=
  ⟨_, fun k t u => by rfl, by decide +kernel⟩
theorem o_field_02x {k : Nat} (hk : k < 256) (h : Φ (.str (hex2 k)) σ) : Op1 f (fun v => formatField v ⟨[48, 50, 120].toArray⟩) VR (.int k) σ Φ Ψ := by
  rintro ρ _ ⟨t, rfl⟩ s r
  obtain ⟨G, h1, h2⟩ := fmt_tree
  have e := h2 k hk
  refine wpAny_formatField_spec (x := G k) (by decide +kernel) (fun s' => typeIs_int s' _ t) F.slot_int_format F.entry_int_format F.args_int_format_2 (fun u => .of_eq (h1 _ t u)) ?_ (by rw [sizeLine_eq]; decide) ?_
  · exact ⟨ρ, .str (hex2 k), σ, List.prefix_refl _, r.tk, ⟨_, by rw [← e]⟩, h⟩
  · have : (G k).length = (hex2 k).length := by rw [← e]; simp [Str.length]
    rw [this, sizeLine_eq]; simp [hex2]
end
end

/- # W84 -/
section
open PySem PySem.Calls PyProof.Rows PySem.W



noncomputable def badDec (one : List Nat) : Bool := one == [] || decide (3 < (one.length : Int)) || (one.getD 0 0 == 48 && one != [48]) || !(one.filter fun c => !occ digs [c]).isEmpty
noncomputable def quadF (t : List Nat) : Option (List Int) :=
  let ns := spl 46 t
  if ns.length ≠ 4 then none else if ns.any badDec then none else
  let v : Nat → Int := fun i => (valOf 10 ((ns.getD i []).map dig) : Nat)
  if 255 < max (max (v 0) (v 1)) (max (v 2) (v 3)) then none else some [v 0 * 256 + v 1, v 2 * 256 + v 3]
noncomputable def optInts : Option (List Int) → RV
  | none => .flat .none
  | some xs => .obj (.list (xs.map .int))
noncomputable def sgnOf : AV → Nat
  | .str (c :: _) => c
  | _ => 0
theorem of_not {b : Bool} (h : (!b) = false) : b = true := by
  (first | exact nn b | exact sn b | exact tf b | exact ft b | cases b)
  · exact h.symm
  · rfl
theorem filter_in {l p : List Nat} (h : (p.filter fun c => !occ l [c]) = []) : ∀ c ∈ p, c ∈ l := fun c hc => by
  have := List.filter_eq_nil_iff.mp h c hc
  rw [occ_sign] at this
  exact Decidable.byContradiction fun q => this (by rw [decide_eq_false q]; rfl)
theorem dec_reads {one : List Nat} (h : badDec one = false) (hl : one.length ≤ 640) : ReadsAs 10 one (valOf 10 (one.map dig)) ∧ ∀ c ∈ one, c < 128 := by
  unfold badDec at h
  obtain ⟨h, h4⟩ := Bool.or_eq_false_iff.mp h
  have hd := filter_in (List.isEmpty_iff.mp (of_not h4))
  have h1 := (Bool.or_eq_false_iff.mp (Bool.or_eq_false_iff.mp h).1).1
  exact ⟨reads_of (.inl rfl) (fun e => by rw [e] at h1; exact absurd h1 (by decide)) (fun c hc => (digs_is c (hd c hc)).1) (fun c hc => (digs_is c (hd c hc)).2.1) hl, fun c hc => (digs_is c (hd c hc)).2.2⟩
theorem max_or (a b : Int) : max a b = a ∨ max a b = b := (Int.le_total a b).elim (fun h => .inr (Int.max_eq_right h)) fun h => .inl (Int.max_eq_left h)
theorem max4_mem (a b c d : Int) : max (max a b) (max c d) ∈ [a, b, c, d] := by
  rcases max_or (max a b) (max c d) with h | h <;> rw [h]
  · rcases max_or a b with h | h <;> rw [h]
    · exact .head _
    · exact .tail _ (.head _)
  · rcases max_or c d with h | h <;> rw [h]
    · exact .tail _ (.tail _ (.head _))
    · exact .tail _ (.tail _ (.tail _ (.head _)))
theorem max4_iff (a b c d : Int) : 255 < max (max a b) (max c d) ↔ ¬ (a ≤ 255 ∧ b ≤ 255 ∧ c ≤ 255 ∧ d ≤ 255) := by
  rw [← Int.not_le, Int.max_le, Int.max_le, Int.max_le, and_assoc]
theorem max4_le (a b c d : Int) : ∀ x ∈ [a, b, c, d], x ≤ max (max a b) (max c d) := by
  intro x hx
  have h1 := Int.le_max_left (max a b) (max c d)
  have h2 := Int.le_max_right (max a b) (max c d)
  simp only [List.mem_cons, List.not_mem_nil, or_false] at hx
  rcases hx with rfl | rfl | rfl | rfl
  · exact Int.le_trans (Int.le_max_left _ _) h1
  · exact Int.le_trans (Int.le_max_right _ _) h1
  · exact Int.le_trans (Int.le_max_left _ _) h2
  · exact Int.le_trans (Int.le_max_right _ _) h2
noncomputable def decOf : AV → AV
  | .str l => .int (valOf 10 (l.map dig))
  | a => a
theorem q84 {text : List Nat} {n : Nat} (hsz : text.length ≤ 600): Fn (n + 1) 84 [.str text] (Is (optInts (quadF text))) (fun _ => False) := by
  refine fn_of1 def84 peek84 (by kernel_rfl) fun f hf hfe σ hs1 hs2 => ?_
  have hsp := spl_length_le 46 text
  refine x_cons ?_
  refine x_assign hf (by kernel_rfl) ?_ (by rfl) (by kernel_rfl)
  refine e_meth1 (id := "str.split") ?_
  refine e_loc hf (by kernel_rfl) (by walk_at "lk") ?_
  refine ⟨meth_str F.slot_str_split F.type_str_split, ?_⟩
  refine a_cons ?_
  refine e_str (l := [46]) (by kernel_rfl) ?_
  refine a_nil ?_
  refine o_split1 (by first | (first | lia | omega) | (simp; (first | lia | omega))) ?_
  refine x_cons ?_
  refine x_if ?_
  refine t_compare ?_
  refine e_callB (id := "len") hf (by kernel_rfl) (by intro w; kernel_rfl) (by kernel_rfl) ?_
  refine a_cons ?_
  refine e_loc hf (by kernel_rfl) (by walk_at "lk") ?_
  refine a_nil ?_
  refine o_len_list (by walk_at "la") (by first | (first | lia | omega) | (simp; (first | lia | omega))) ?_
  refine e_int ?_
  refine o_ne_int ?_
  refine tite_of (fun h1 => ?_) (fun h1 => ?_)
  · refine x_cons ?_
    refine x_return ?_
    refine e_none ?_
    have : (spl 46 text).length ≠ 4 := by simp at h1; (first | lia | omega)
    show (RV.flat .none) = optInts (quadF text)
    unfold quadF
    simp only
    rw [if_pos this]; rfl
  have h4 : (spl 46 text).length = 4 := by simp at h1; (first | lia | omega)
  refine x_nil ?_
  refine x_cons ?_
  refine x_for hf (by kernel_rfl) ?_ (by rw [hfe])
  refine it_list hf ?_
  refine e_loc hf (by kernel_rfl) (by walk_at "lk") ?_
  refine ⟨_, _, rfl, by walk_at "la", fun ob => ?_⟩
  refine ⟨fun i σ' => σ'.loc.lookup ("numbers" : Str) = some (.ref σ.mem.length) ∧ σ'.mem[σ.mem.length]? = some (.fix ob false ((spl 46 text).map .str)) ∧ ∀ k, k < i → badDec ((spl 46 text).getD k []) = false, ⟨by walk_at "lk", mem_put (by show _ < (σ.mem ++ [_]).length; simp), fun k hk => absurd hk (Nat.not_lt_zero k)⟩, ?_, ?_, ?_⟩
  · intro j hj i σ' ⟨_, h2, _⟩
    simp only [List.mem_cons, List.not_mem_nil, or_false] at hj
    subst hj
    rw [h2, mem_put (by show _ < (σ.mem ++ [_]).length; simp)]
  · rintro i σ' y ⟨g1, g2, g3⟩ hy f₁ hL hfe₁ hf₁
    obtain ⟨one, ho, rfl, hmem⟩ := item_of hy
    have hone := spl_mem_le 46 text one hmem
    refine x_cons ?_
    refine x_if ?_
    refine t_is (badDec one) (fun σ'' => σ''.loc.lookup ("numbers" : Str) = some (.ref σ.mem.length) ∧ σ''.mem[σ.mem.length]? = some (.fix ob false ((spl 46 text).map .str))) ?_ ?_
    · have hl1 : (σ'.set ("one" : Str) (.str one)).loc.lookup ("one" : Str) = some (.str one) := lk_same
      have hl2 : (σ'.set ("one" : Str) (.str one)).loc.lookup ("numbers" : Str) = some (.ref σ.mem.length) := by walk_at "lk"
      refine t_bool ?_
      refine ta_or ?_
      refine t_compare ?_
      refine e_loc hf₁ (by kernel_rfl) (by walk_at "lk") ?_
      refine e_str (l := []) (by kernel_rfl) ?_
      refine o_eq_str ?_
      refine tite_of (fun c1 => ⟨by simp [badDec, c1], hl2, g2⟩) (fun c1 => ?_)
      refine ta_or ?_
      refine t_compare ?_
      refine e_callB (id := "len") hf₁ (by kernel_rfl) (by intro w; kernel_rfl) (by kernel_rfl) ?_
      refine a_cons ?_
      refine e_loc hf₁ (by kernel_rfl) (by walk_at "lk") ?_
      refine a_nil ?_
      refine o_len_str (by first | (first | lia | omega) | (simp; (first | lia | omega))) ?_
      refine e_int ?_
      refine o_gt_int ?_
      refine tite_of (fun c2 => ⟨by simp [badDec, c2], hl2, g2⟩) (fun c2 => ?_)
      refine ta_or ?_
      have hpos : 0 < one.length := by cases one <;> simp_all
      refine t_is (one.getD 0 0 == 48 && one != [48]) (fun s => s = σ'.set ("one" : Str) (.str one)) ?_ ?_
      · refine t_bool ?_
        refine ta_and ?_
        refine t_compare ?_
        refine e_index ?_
        refine e_loc hf₁ (by kernel_rfl) (by walk_at "lk") ?_
        refine e_int ?_
        refine i_str (by first | (first | lia | omega) | (simp; (first | lia | omega))) (by first | (first | lia | omega) | (simp; (first | lia | omega))) (by first | (first | lia | omega) | (simp; (first | lia | omega))) ?_
        refine e_str (l := [48]) (by kernel_rfl) ?_
        refine o_eq_str ?_
        have e1 : ([one.getD (0 : Int).toNat 0] == [48]) = (one.getD 0 0 == 48) := by simp
        rw [e1]
        refine tite_of (fun d1 => ?_) (fun d1 => ⟨by rw [d1]; rfl, rfl⟩)
        rw [d1]
        refine ta_and ?_
        refine t_compare ?_
        refine e_loc hf₁ (by kernel_rfl) (by walk_at "lk") ?_
        refine e_str (l := [48]) (by kernel_rfl) ?_
        refine o_ne_str ?_
        refine tite_of (fun d2 => ?_) (fun d2 => ⟨by rw [d2]; rfl, rfl⟩)
        rw [d2]
        exact ta_nil ⟨rfl, rfl⟩
      rintro s rfl
      refine tite_of (fun c3 => ⟨by simp only [badDec, c3]; simp, hl2, g2⟩) (fun c3 => ?_)
      refine ta_or ?_
      refine t_compare ?_
      refine e_comp (cl := []) (fun a => !occ digs [sgnOf a]) (fun a => a) hf₁ (by kernel_rfl) (by kernel_rfl) (by kernel_rfl) (by kernel_rfl) (by kernel_rfl) (h := ?_)
      refine it_str hf₁ ?_
      refine e_loc hf₁ (by kernel_rfl) (by walk_at "lk") ?_
      refine ⟨⟨plain_sgn, by simp; (first | lia | omega), fun a ha _ => (plain_sgn a ha).flat, fun a ha _ f₂ _ hf₂ => ?_, fun a ha f₂ _ hf₂ => ?_⟩, ?_⟩
      refine e_loc hf₂ (by kernel_rfl) (by walk_at "lk") ?_
      · rfl
      · obtain ⟨c, hc, rfl⟩ := List.mem_map.mp ha
        refine t_compare ?_
        refine e_loc hf₂ (by kernel_rfl) (by walk_at "lk") ?_
        refine e_str (l := [48, 49, 50, 51, 52, 53, 54, 55, 56, 57]) (by kernel_rfl) ?_
        refine o_notin_str ?_
        rfl
      refine e_list ?_
      refine a_nil ?_
      refine ⟨by simp, ?_⟩
      refine o_ne_nil hf₁ (la_keep la_new) la_new ?_
      have e2 : (((one.map fun c => AV.str [c]).filter fun a => !occ digs [sgnOf a]).map fun a => a).isEmpty = (one.filter fun c => !occ digs [c]).isEmpty := by
        rw [List.map_id']
        exact filter_sgn fun c => rfl
      rw [e2]
      have g2' : ∀ o o' : AO, (((σ'.set ("one" : Str) (.str one)).new o).new o').mem[σ.mem.length]? = some (.fix ob false ((spl 46 text).map .str)) := fun o o' => mem_keep (mem_keep g2)
      refine tite_of (fun c4 => ⟨by simp only [badDec, c1, c2, c3, c4]; rfl, hl2, g2' _ _⟩) (fun c4 => ?_)
      exact ta_nil ⟨by simp only [badDec, c1, c2, c3, c4]; rfl, hl2, g2' _ _⟩
    · intro σ'' ⟨k1, k2⟩
      refine tite_of (fun h2 => ?_) (fun h2 => ?_)
      · refine x_cons ?_
        refine x_return ?_
        refine e_none ?_
        show (RV.flat .none) = optInts (quadF text)
        unfold quadF
        simp only
        rw [if_neg (by simp [h4]), if_pos (List.any_eq_true.mpr ⟨one, hmem, h2⟩)]; rfl
      · refine x_nil ?_
        refine x_nil ?_
        refine ⟨k1, k2, fun k hk => ?_⟩
        rcases Nat.lt_or_eq_of_le (Nat.le_of_lt_succ hk) with q | q
        · exact g3 k q
        · subst q
          have : (spl 46 text).getD k [] = one := by simp [List.getD, ho]
          rw [this]; exact h2
  · intro σ' ⟨g1, g2, g3⟩
    have hla : ListAt σ' σ.mem.length ((spl 46 text).map .str) := .inr ⟨_, g2⟩
    have g3' : ∀ one ∈ spl 46 text, badDec one = false := by
      intro one ho
      obtain ⟨k, hk, rfl⟩ := List.getElem_of_mem ho
      have := g3 k (by simpa using hk)
      simpa [List.getD, hk] using this
    refine x_cons ?_
    refine x_assign_comp (cl := []) (fun _ => true) decOf hf (by kernel_rfl) (by kernel_rfl) (by kernel_rfl) (by kernel_rfl) (by kernel_rfl) (by kernel_rfl) (by kernel_rfl) (h := ?_)
    refine it_list hf ?_
    refine e_loc hf (by kernel_rfl) (by walk_at "lk") ?_
    refine ⟨_, _, rfl, by walk_at "la", fun ob2 => ?_⟩
    refine ⟨⟨plain_str, by simp; (first | lia | omega), fun a ha _ => ?_, fun a ha _ f₂ _ hf₂ => ?_, fun a ha f₂ _ hf₂ => rfl⟩, ?_⟩
    · obtain ⟨l, hl, rfl⟩ := List.mem_map.mp ha
      trivial
    · obtain ⟨l, hl, rfl⟩ := List.mem_map.mp ha
      have hll := spl_mem_le 46 text l hl
      refine e_callT (T := "int") hf₂ (by kernel_rfl) (by intro w; kernel_rfl) (by kernel_rfl) ?_
      refine a_cons ?_
      refine e_loc hf₂ (by kernel_rfl) (by walk_at "lk") ?_
      refine a_nil ?_
      refine o_int_str (dec_reads (g3' l hl) (by (first | lia | omega))).2 (dec_reads (g3' l hl) (by (first | lia | omega))).1 ?_
      rfl
    have el : (((spl 46 text).map AV.str).filter (fun _ => true)).map decOf = ((spl 46 text).map fun l => (valOf 10 (l.map dig) : Int)).map AV.int := by
      rw [List.filter_eq_self.mpr (fun _ _ => rfl), List.map_map, List.map_map]; rfl
    rw [el]
    generalize hv : ((spl 46 text).map fun l => (valOf 10 (l.map dig) : Int)) = vals
    obtain ⟨v0, v1, v2, v3, rfl⟩ : ∃ v0 v1 v2 v3, vals = [v0, v1, v2, v3] := by
      have : vals.length = 4 := by rw [← hv]; simpa using h4
      match vals, this with
      | [a, b, c, d], _ => exact ⟨a, b, c, d, rfl⟩
    have hq : quadF text = if 255 < max (max v0 v1) (max v2 v3) then none else some [v0 * 256 + v1, v2 * 256 + v3] := by
      unfold quadF
      simp only
      rw [if_neg (by simp [h4]), if_neg (by
        intro e
        obtain ⟨one, ho, hb⟩ := List.any_eq_true.mp e
        rw [g3' one ho] at hb; (first | exact nn hb | exact sn hb | exact tf hb | exact ft hb | cases hb))]
      have gv : ∀ i (hi : i < (spl 46 text).length), ((valOf 10 (((spl 46 text).getD i []).map dig) : Nat) : Int) = [v0, v1, v2, v3].getD i 0 := by
        intro i hi
        rw [← hv]
        simp [List.getD, hi]
      rw [gv 0 (by (first | lia | omega)), gv 1 (by (first | lia | omega)), gv 2 (by (first | lia | omega)), gv 3 (by (first | lia | omega))]
      rfl
    refine x_cons ?_
    refine x_return ?_
    refine e_if ?_
    refine t_compare ?_
    refine e_callB (id := "max") hf (by kernel_rfl) (by intro w; kernel_rfl) (by kernel_rfl) ?_
    refine a_cons ?_
    refine e_loc hf (by kernel_rfl) (by walk_at "lk") ?_
    refine a_nil ?_
    refine o_max (xs := [v0, v1, v2, v3]) hf (by walk_at "la") (M := max (max v0 v1) (max v2 v3)) (max4_mem ..) (max4_le _ _ _ _) ?_
    refine e_int ?_
    refine o_gt_int ?_
    refine tite_of (fun c1 => ?_) (fun c1 => ?_)
    · refine e_none ?_
      show (RV.flat .none) = optInts (quadF text)
      rw [hq, if_pos (of_decide_eq_true c1)]; rfl
    refine e_list ?_
    refine a_cons ?_
    refine e_binop ?_
    refine e_binop ?_
    refine e_index ?_
    refine e_loc hf (by kernel_rfl) (by walk_at "lk") ?_
    refine e_int ?_
    refine i_list (by walk_at "la") (by first | (first | lia | omega) | (simp; (first | lia | omega))) (by first | (first | lia | omega) | (simp; (first | lia | omega))) rfl ?_
    refine e_int ?_
    refine o_mul_int (by mul_fits) ?_
    refine e_index ?_
    refine e_loc hf (by kernel_rfl) (by walk_at "lk") ?_
    refine e_int ?_
    refine i_list (by walk_at "la") (by first | (first | lia | omega) | (simp; (first | lia | omega))) (by first | (first | lia | omega) | (simp; (first | lia | omega))) rfl ?_
    refine o_add_int ?_
    refine a_cons ?_
    refine e_binop ?_
    refine e_binop ?_
    refine e_index ?_
    refine e_loc hf (by kernel_rfl) (by walk_at "lk") ?_
    refine e_int ?_
    refine i_list (by walk_at "la") (by first | (first | lia | omega) | (simp; (first | lia | omega))) (by first | (first | lia | omega) | (simp; (first | lia | omega))) rfl ?_
    refine e_int ?_
    refine o_mul_int (by mul_fits) ?_
    refine e_index ?_
    refine e_loc hf (by kernel_rfl) (by walk_at "lk") ?_
    refine e_int ?_
    refine i_list (by walk_at "la") (by first | (first | lia | omega) | (simp; (first | lia | omega))) (by first | (first | lia | omega) | (simp; (first | lia | omega))) rfl ?_
    refine o_add_int ?_
    refine a_nil ?_
    refine ⟨by simp, ?_⟩
    refine ⟨_, mem_new, ?_, ?_⟩
    · exact ⟨trivial, trivial, trivial⟩
    show _ = optInts (quadF text)
    rw [hq, if_neg (of_decide_eq_false c1)]; rfl
end

/- # W46 -/
section
open PySem PySem.Calls PyProof.Rows PySem.W


theorem byte_log (x : UInt8) : ((x.toNat : Int)).natAbs.log2 < 1920 := by
  have h := x.toNat_lt
  rw [Int.natAbs_natCast]
  refine Nat.lt_of_le_of_lt (Nat.log2_le_self _) ?_
  (first | lia | omega)
theorem dec_byte_len (x : UInt8) : (decS (x.toNat : Int)).length ≤ 3 := by
  have key : ∀ k, k < 256 → (decS (k : Nat)).length ≤ 3 := by decide +kernel
  exact key _ x.toNat_lt
noncomputable def decB (b : List UInt8) (i : Nat) : List Nat := decS ((b.getD i 0).toNat : Int)
noncomputable def quadS (b : List UInt8) : List Nat := decB b 0 ++ [46] ++ decB b 1 ++ [46] ++ decB b 2 ++ [46] ++ decB b 3
theorem q46 {b : List UInt8} {n : Nat} (hsz : b.length = 4) : Fn (n + 1) 46 [.bytes b] (fun r => r = .flat (.str (quadS b))) (fun _ => False) := by
  refine fn_of1 def46 peek46 (by kernel_rfl) fun f hf hfe σ hs1 hs2 => ?_
  have z0 := dec_byte_len (b.getD (Int.toNat 0) 0)
  have z1 := dec_byte_len (b.getD (Int.toNat 1) 0)
  have z2 := dec_byte_len (b.getD (Int.toNat 2) 0)
  have z3 := dec_byte_len (b.getD (Int.toNat 3) 0)
  refine x_cons ?_
  refine x_if ?_
  refine t_compare ?_
  refine e_callB (id := "len") hf (by kernel_rfl) (by intro w; kernel_rfl) (by kernel_rfl) ?_
  refine a_cons ?_
  refine e_loc hf (by kernel_rfl) (by walk_at "lk") ?_
  refine a_nil ?_
  refine o_len_bytes (by first | (first | lia | omega) | (simp; (first | lia | omega))) ?_
  refine e_int ?_
  refine o_ne_int ?_
  rw [show ((b.length : Int) != 4) = false by rw [hsz]; rfl]
  show Es _ _ _ _ _ _
  refine x_nil ?_
  refine x_cons ?_
  refine x_return ?_
  refine e_fstr ?_
  refine tj_cons ?_
  refine e_field ?_
  refine e_index ?_
  refine e_loc hf (by kernel_rfl) (by walk_at "lk") ?_
  refine e_int ?_
  refine i_bytes (by first | (first | lia | omega) | (simp; (first | lia | omega))) (by first | (first | lia | omega) | (simp; (first | lia | omega))) (by first | (first | lia | omega) | (simp; (first | lia | omega))) ?_
  refine o_field_int (byte_log _) ?_
  refine ⟨_, rfl, by (simp only [List.length_append, List.length_cons, List.length_nil]; omega), ?_⟩
  refine tj_cons ?_
  refine e_str (l := [46]) (by kernel_rfl) ?_
  refine ⟨_, rfl, by (simp only [List.length_append, List.length_cons, List.length_nil]; omega), ?_⟩
  refine tj_cons ?_
  refine e_field ?_
  refine e_index ?_
  refine e_loc hf (by kernel_rfl) (by walk_at "lk") ?_
  refine e_int ?_
  refine i_bytes (by first | (first | lia | omega) | (simp; (first | lia | omega))) (by first | (first | lia | omega) | (simp; (first | lia | omega))) (by first | (first | lia | omega) | (simp; (first | lia | omega))) ?_
  refine o_field_int (byte_log _) ?_
  refine ⟨_, rfl, by (simp only [List.length_append, List.length_cons, List.length_nil]; omega), ?_⟩
  refine tj_cons ?_
  refine e_str (l := [46]) (by kernel_rfl) ?_
  refine ⟨_, rfl, by (simp only [List.length_append, List.length_cons, List.length_nil]; omega), ?_⟩
  refine tj_cons ?_
  refine e_field ?_
  refine e_index ?_
  refine e_loc hf (by kernel_rfl) (by walk_at "lk") ?_
  refine e_int ?_
  refine i_bytes (by first | (first | lia | omega) | (simp; (first | lia | omega))) (by first | (first | lia | omega) | (simp; (first | lia | omega))) (by first | (first | lia | omega) | (simp; (first | lia | omega))) ?_
  refine o_field_int (byte_log _) ?_
  refine ⟨_, rfl, by (simp only [List.length_append, List.length_cons, List.length_nil]; omega), ?_⟩
  refine tj_cons ?_
  refine e_str (l := [46]) (by kernel_rfl) ?_
  refine ⟨_, rfl, by (simp only [List.length_append, List.length_cons, List.length_nil]; omega), ?_⟩
  refine tj_cons ?_
  refine e_field ?_
  refine e_index ?_
  refine e_loc hf (by kernel_rfl) (by walk_at "lk") ?_
  refine e_int ?_
  refine i_bytes (by first | (first | lia | omega) | (simp; (first | lia | omega))) (by first | (first | lia | omega) | (simp; (first | lia | omega))) (by first | (first | lia | omega) | (simp; (first | lia | omega))) ?_
  refine o_field_int (byte_log _) ?_
  refine ⟨_, rfl, by (simp only [List.length_append, List.length_cons, List.length_nil]; omega), ?_⟩
  refine tj_nil (by (simp only [List.length_append, List.length_cons, List.length_nil]; omega)) ?_
  rfl
end

/- # W89 -/
section
open PySem PySem.Calls PyProof.Rows PySem.W


noncomputable abbrev hexAll : List Nat := [48, 49, 50, 51, 52, 53, 54, 55, 56, 57, 97, 98, 99, 100, 101, 102, 65, 66, 67, 68, 69, 70]
noncomputable def badHex (p : List Nat) : Bool := p == [] || decide (4 < (p.length : Int)) || !(p.filter fun c => !occ hexAll [c]).isEmpty
noncomputable def gStep (last : Bool) (np i : Nat) (part : List Nat) : Option (List Int) :=
  if (occ part [46] && last && ((i : Int) == (np : Int) - 1)) = true then quadF part else if badHex part = true then none else some [(valOf 16 (part.map dig) : Nat)]
noncomputable def gFrom (last : Bool) (np : Nat) : Nat → List (List Nat) → Option (List Int)
  | _, [] => some []
  | i, p :: r => match gStep last np i p with
    | none => none
    | some g => (gFrom last np (i + 1) r).map (g ++ ·)
noncomputable def groupsF (text : List Nat) (last : Bool) : Option (List Int) := if text = [] then some [] else gFrom last (spl 58 text).length 0 (spl 58 text)
theorem hexAll_is : ∀ c ∈ hexAll, c ∈ hxs ∧ dig c < 16 ∧ c < 128 := by decide +kernel
theorem badHex_no {p : List Nat} (h : badHex p = false) : p ≠ [] ∧ p.length ≤ 4 ∧ ∀ c ∈ p, c ∈ hexAll := by
  unfold badHex at h
  obtain ⟨h, h4⟩ := Bool.or_eq_false_iff.mp h
  obtain ⟨h1, h3⟩ := Bool.or_eq_false_iff.mp h
  exact ⟨fun e => by rw [e] at h1; exact absurd h1 (by decide), Int.ofNat_le.mp (Int.not_lt.mp (of_decide_eq_false h3)), filter_in (List.isEmpty_iff.mp (of_not h4))⟩
theorem hex_reads {p : List Nat} (h : badHex p = false) : ReadsAs 16 p (valOf 16 (p.map dig)) ∧ ∀ c ∈ p, c < 128 := by
  refine and3 (badHex_no h) fun h1 h2 hd => ?_
  exact ⟨reads_of (.inr rfl) h1 (fun c hc => (hexAll_is c (hd c hc)).1) (fun c hc => (hexAll_is c (hd c hc)).2.1) (Nat.le_trans h2 (by decide)), fun c hc => (hexAll_is c (hd c hc)).2.2⟩
theorem quad_len {t : List Nat} {xs : List Int} (hs : quadF t = some xs) : xs.length ≤ 2 := by
  unfold quadF at hs
  simp only at hs
  split at hs
  · (first | exact nn hs | exact sn hs | exact tf hs | exact ft hs | cases hs)
  · split at hs
    · (first | exact nn hs | exact sn hs | exact tf hs | exact ft hs | cases hs)
    · split at hs
      · (first | exact nn hs | exact sn hs | exact tf hs | exact ft hs | cases hs)
      · obtain rfl := Option.some.inj hs; simp
theorem flat_ints {l : List Int} : FlatL (l.map .int) := by
  induction l with
  | nil => trivial
  | cons x r ih => exact ⟨trivial, ih⟩
theorem ret_list {σ : St} {j : Nat} {xs : List AV} {Φ : RV → Prop} (h : σ.mem[j]? = some (.list xs)) (hfl : FlatL xs) (hΦ : Φ (.obj (.list xs))) : RetOk Φ (.ret (.ref j)) σ := ⟨_, h, hfl, hΦ⟩
theorem gFrom_len {last : Bool} {np : Nat} : ∀ {l : List (List Nat)} {i : Nat} {gs : List Int}, gFrom last np i l = some gs → gs.length ≤ 2 * l.length
  | [], i, gs, h => by
    obtain rfl := Option.some.inj h
    simp
  | p :: r, i, gs, h => by
    unfold gFrom at h
    cases hs : gStep last np i p with
    | none => rw [hs] at h; cases h
    | some g =>
      rw [hs] at h
      cases hr : gFrom last np (i + 1) r with
      | none => rw [hr] at h; cases h
      | some q =>
        rw [hr] at h
        obtain rfl := Option.some.inj h
        have ih := gFrom_len hr
        have hg : g.length ≤ 2 := by
          unfold gStep at hs
          split at hs
          · exact quad_len hs
          · split at hs
            · exact nn hs
            · obtain rfl := Option.some.inj hs
              exact Nat.le_succ 1
        simp; (first | lia | omega)
set_option maxHeartbeats 1000000 in
theorem q89 {text : List Nat} {last : Bool} {n : Nat} (hsz : text.length ≤ 600): Fn (n + 2) 89 [.str text, .bool last] (Is (optInts (groupsF text last))) (fun _ => False) := by
  refine fn_of def89 (bind2 peek89) (by kernel_rfl) fun f hf hfe => ?_
  generalize hσ : (⟨(List.zip [("text" : Str), "last"] [.str text, .bool last]).reverse, []⟩ : St) = σ
  have hs1 : σ.loc.lookup ("text" : Str) = some (.str text) := by subst hσ; rfl
  have hs2 : σ.loc.lookup ("last" : Str) = some (.bool last) := by subst hσ; rfl
  clear hσ
  have hsp := spl_length_le 58 text
  refine x_cons ?_
  refine x_if ?_
  refine t_compare ?_
  refine e_loc hf (by kernel_rfl) (by walk_at "lk") ?_
  refine e_str (l := []) (by kernel_rfl) ?_
  refine o_eq_str ?_
  refine tite_of (fun c => ?_) (fun c => ?_)
  · refine x_cons ?_
    refine x_return ?_
    refine e_list ?_
    refine a_nil ?_
    refine ⟨by simp, ?_⟩
    refine ⟨_, mem_new, trivial, ?_⟩
    have : text = [] := by simpa using c
    unfold groupsF
    rw [if_pos this]; rfl
  have hne : text ≠ [] := by simpa using c
  have hG : groupsF text last = gFrom last (spl 58 text).length 0 (spl 58 text) := by unfold groupsF; rw [if_neg hne]
  refine x_nil ?_
  refine x_cons ?_
  refine x_assign hf (by kernel_rfl) ?_ (by rfl) (by kernel_rfl)
  refine e_list ?_
  refine a_nil ?_
  refine ⟨by simp, ?_⟩
  let Iz1 : St → Prop := fun σ1 => ∃ jg j0, jg ≠ j0 ∧ σ1.loc.lookup ("groups" : Str) = some (.ref jg) ∧ σ1.loc.lookup ("parts" : Str) = some (.ref j0) ∧ σ1.loc.lookup ("last" : Str) = some (.bool last) ∧ σ1.mem[jg]? = some (.list (([] : List Int).map .int)) ∧ ListAt σ1 j0 ((spl 58 text).map .str)
  refine x_cut Iz1 ?_ ?_
  · refine x_assign hf (by kernel_rfl) ?_ (by rfl) (by kernel_rfl)
    refine e_meth1 (id := "str.split") ?_
    refine e_loc hf (by kernel_rfl) (by walk_at "lk") ?_
    refine ⟨meth_str F.slot_str_split F.type_str_split, ?_⟩
    refine a_cons ?_
    refine e_str (l := [58]) (by kernel_rfl) ?_
    refine a_nil ?_
    refine o_split1 (by first | (first | lia | omega) | (simp; (first | lia | omega))) ?_
    exact ⟨_, _, by show σ.mem.length ≠ (σ.mem ++ [_]).length; simp, by walk_at "lk", by walk_at "lk", by walk_at "lk", mem_keep mem_new, la_new⟩
  rintro σ1 hq1
  obtain ⟨jg0, j0, hq2⟩ := hq1
  refine and6 hq2 fun hjj g1 g2 g3 g4 g5 => ?_
  clear hq2
  refine x_cons ?_
  refine Tr.of_M (xM_enum hf (by kernel_rfl) (by kernel_rfl) (by kernel_rfl) (by intro w; kernel_rfl) (by kernel_rfl) ?_ (by rw [hfe]))
  refine e_loc hf (by kernel_rfl) (by walk_at "lk") ?_
  refine ⟨j0, _, rfl, g5, fun ob => ?_⟩
  let Iz2 : Nat → St → Prop := fun i σ' => ∃ jg gs, jg ≠ j0 ∧ σ'.loc.lookup ("groups" : Str) = some (.ref jg) ∧ σ'.loc.lookup ("parts" : Str) = some (.ref j0) ∧ σ'.loc.lookup ("last" : Str) = some (.bool last) ∧ σ'.mem[jg]? = some (.list ((gs : List Int).map .int)) ∧ σ'.mem[j0]? = some (.fix ob false ((spl 58 text).map .str)) ∧
    groupsF text last = (gFrom last (spl 58 text).length i ((spl 58 text).drop i)).map (gs ++ ·) ∧ gs.length ≤ 2 * i
  refine ⟨Iz2, ⟨jg0, [], hjj, g1, g2, g3, mem_put_other g4 (Ne.symm hjj), mem_put (la_lt g5), by rw [hG]; simp, by simp⟩, ?_, ?_, ?_⟩
  · rintro j hj i σ' hq3
    obtain ⟨jg, gs, hq4⟩ := hq3
    refine and7 hq4 fun _ _ _ _ _ h6 _ => ?_
    clear hq4
    simp only [List.mem_cons, List.not_mem_nil, or_false] at hj
    subst hj
    rw [h6, mem_put (la_lt g5)]
  · rintro i σ' y hq5 hy f₁ hL hfe₁ _ hf₁
    obtain ⟨jg, gs, hq6⟩ := hq5
    refine and8 hq6 fun k0 k1 k2 k3 k4 k5 k6 k7 => ?_
    clear hq6
    obtain ⟨part, hq7⟩ := (item_of hy)
    refine and3 hq7 fun ho he8 hmem => ?_
    clear hq7
    obtain rfl := he8
    have hpl := spl_mem_le 58 text part hmem
    have hlt : i < (spl 58 text).length := (List.getElem?_eq_some_iff.mp ho).1
    have hdrop : (spl 58 text).drop i = part :: (spl 58 text).drop (i + 1) := by
      rw [List.drop_eq_getElem_cons hlt]
      congr 1
      exact Option.some.inj ((List.getElem?_eq_getElem hlt).symm.trans ho)
    rw [hdrop] at k6
    unfold gFrom at k6
    have k5' : ListAt σ' j0 ((spl 58 text).map .str) := .inr ⟨_, k5⟩
    have nl : ((spl 58 text).map AV.str).length = (spl 58 text).length := by simp
    refine TrM.of ?_
    show Es f₁ _ _ ((σ'.set ("place" : Str) (.int i)).set ("part" : Str) (.str part)) _ _
    generalize hσ2 : (σ'.set ("place" : Str) (.int i)).set ("part" : Str) (.str part) = σ2
    have l1 : σ2.loc.lookup ("place" : Str) = some (.int i) := by subst hσ2; walk_at "lk"
    have l2 : σ2.loc.lookup ("part" : Str) = some (.str part) := by subst hσ2; walk_at "lk"
    have l3 : σ2.loc.lookup ("groups" : Str) = some (.ref jg) := by subst hσ2; walk_at "lk"
    have l4 : σ2.loc.lookup ("parts" : Str) = some (.ref j0) := by subst hσ2; walk_at "lk"
    have l5 : σ2.loc.lookup ("last" : Str) = some (.bool last) := by subst hσ2; walk_at "lk"
    have l6m : σ2.mem[jg]? = some (.list (gs.map .int)) := by subst hσ2; exact k4
    have l6 : ListAt σ2 jg (gs.map .int) := .inl l6m
    have l7 : ListAt σ2 j0 ((spl 58 text).map .str) := by subst hσ2; exact k5'
    have l8 : σ2.mem[j0]? = some (.fix ob false ((spl 58 text).map .str)) := by subst hσ2; exact k5
    clear hσ2
    refine x_cons ?_
    refine x_if ?_
    refine t_is (occ part [46] && last && ((i : Int) == ((spl 58 text).length : Int) - 1)) (fun s => s = σ2) ?_ ?_
    · refine t_bool ?_
      refine ta_and ?_
      refine t_compare ?_
      refine e_str (l := [46]) (by kernel_rfl) ?_
      refine e_loc hf₁ (by kernel_rfl) (by walk_at "lk") ?_
      refine o_in_str ?_
      refine tite_of (fun c1 => ?_) (fun c1 => ⟨by rw [c1]; rfl, rfl⟩)
      refine ta_and ?_
      refine t_value ?_
      refine e_loc hf₁ (by kernel_rfl) (by walk_at "lk") ?_
      refine o_truthy_bool ?_
      refine tite_of (fun c2 => ?_) (fun c2 => ⟨by rw [c2, c1]; rfl, rfl⟩)
      refine ta_and ?_
      refine t_compare ?_
      refine e_loc hf₁ (by kernel_rfl) (by walk_at "lk") ?_
      refine e_binop ?_
      refine e_callB (id := "len") hf₁ (by kernel_rfl) (by intro w; kernel_rfl) (by kernel_rfl) ?_
      refine a_cons ?_
      refine e_loc hf₁ (by kernel_rfl) (by walk_at "lk") ?_
      refine a_nil ?_
      refine o_len_list (by walk_at "la") (by first | (first | lia | omega) | (simp; (first | lia | omega))) ?_
      refine e_int ?_
      refine o_sub_int ?_
      refine o_eq_int ?_
      rw [nl]
      refine tite_of (fun c3 => ?_) (fun c3 => ⟨by rw [c3, c2, c1]; rfl, rfl⟩)
      exact ta_nil ⟨by rw [c3, c2, c1]; rfl, rfl⟩
    rintro s rfl
    refine tite_of (fun c => ?_) (fun c => ?_)
    · have hstep : gStep last (spl 58 text).length i part = quadF part := by unfold gStep; rw [if_pos c]
      rw [hstep] at k6
      refine x_cons ?_
      refine x_assign hf₁ (by kernel_rfl) ?_ (by rfl) (by kernel_rfl)
      refine e_callD hf₁ (by kernel_rfl) (by intro w; kernel_rfl) def84.look ?_
      refine a_cons ?_
      refine e_loc hf₁ (by kernel_rfl) (by walk_at "lk") ?_
      refine a_nil ?_
      refine o_call hf₁ (q84 (n := 0) (by (first | lia | omega))) (by (first | lia | omega)) ⟨trivial, trivial⟩ ?_ (fun _ q => q)
      rintro r rfl
      cases hq : quadF part with
      | none =>
        rw [hq] at k6
        show Es f₁ _ _ _ _ _
        refine x_cons ?_
        refine x_if ?_
        refine t_compare ?_
        refine e_loc hf₁ (by kernel_rfl) (by walk_at "lk") ?_
        refine e_none ?_
        refine o_is_none ?_
        refine tite_of (fun c2 => ?_) (fun c2 => by (first | exact nn c2 | exact sn c2 | exact tf c2 | exact ft c2 | cases c2))
        refine x_cons ?_
        refine x_return ?_
        refine e_none ?_
        show (RV.flat .none) = optInts (groupsF text last)
        rw [k6]; rfl
      | some xs =>
        rw [hq] at k6
        show Es f₁ _ _ _ _ _
        refine x_cons ?_
        refine x_if ?_
        refine t_compare ?_
        refine e_loc hf₁ (by kernel_rfl) (by walk_at "lk") ?_
        refine e_none ?_
        refine o_is_none ?_
        refine tite_of (fun c2 => by (first | exact nn c2 | exact sn c2 | exact tf c2 | exact ft c2 | cases c2)) (fun c2 => ?_)
        have hxl : xs.length ≤ 2 := quad_len hq
        refine x_nil ?_
        refine x_cons ?_
        refine x_assign hf₁ (by kernel_rfl) ?_ (by rfl) (by kernel_rfl)
        have m6 : ∀ o : AO, ListAt ((s.new o).set ("quad" : Str) (.ref s.mem.length)) jg (gs.map .int) := fun o => la_keep l6
        have m7 : ListAt ((s.new (.list (xs.map .int))).set ("quad" : Str) (.ref s.mem.length)) s.mem.length (xs.map .int) := la_new
        refine e_binop ?_
        refine e_loc hf₁ (by kernel_rfl) (by walk_at "lk") ?_
        refine e_loc hf₁ (by kernel_rfl) (by walk_at "lk") ?_
        refine o_add_list (by walk_at "la") (by walk_at "la") (by first | (first | lia | omega) | (simp; (first | lia | omega))) ?_
        refine x_nil ?_
        refine x_nil ?_
        refine ⟨_, gs ++ xs, ?_, by walk_at "lk", by walk_at "lk", by walk_at "lk", ?_, ?_, ?_, ?_⟩
        · show (s.mem ++ [_]).length ≠ j0
          have := la_lt l7
          simp; (first | lia | omega)
        · rw [List.map_append]; exact mem_new
        · exact mem_keep (mem_keep l8)
        · rw [k6]
          simp [Function.comp_def, List.append_assoc]
        · simp; (first | lia | omega)
    · have hstep : gStep last (spl 58 text).length i part = if badHex part = true then none else some [((valOf 16 (part.map dig) : Nat) : Int)] := by
        unfold gStep; rw [if_neg (by rw [c]; exact Bool.false_ne_true)]
      rw [hstep] at k6
      refine x_cons ?_
      refine x_if ?_
      let Iz3 : St → Prop := fun q => q.loc = s.loc ∧ q.mem[jg]? = some (.list (gs.map .int)) ∧ q.mem[j0]? = some (.fix ob false ((spl 58 text).map .str))
      refine t_is (badHex part) Iz3 ?_ ?_
      · refine t_bool ?_
        refine ta_or ?_
        refine t_compare ?_
        refine e_loc hf₁ (by kernel_rfl) (by walk_at "lk") ?_
        refine e_str (l := []) (by kernel_rfl) ?_
        refine o_eq_str ?_
        refine tite_of (fun c1 => ⟨by simp [badHex, c1], rfl, l6m, l8⟩) (fun c1 => ?_)
        refine ta_or ?_
        refine t_compare ?_
        refine e_callB (id := "len") hf₁ (by kernel_rfl) (by intro w; kernel_rfl) (by kernel_rfl) ?_
        refine a_cons ?_
        refine e_loc hf₁ (by kernel_rfl) (by walk_at "lk") ?_
        refine a_nil ?_
        refine o_len_str (by first | (first | lia | omega) | (simp; (first | lia | omega))) ?_
        refine e_int ?_
        refine o_gt_int ?_
        refine tite_of (fun c2 => ⟨by simp [badHex, c2], rfl, l6m, l8⟩) (fun c2 => ?_)
        refine ta_or ?_
        refine t_compare ?_
        refine e_comp (cl := []) (fun a => !occ hexAll [sgnOf a]) (fun a => a) hf₁ (by kernel_rfl) (by kernel_rfl) (by kernel_rfl) (by kernel_rfl) (by kernel_rfl) (h := ?_)
        refine it_str hf₁ ?_
        refine e_loc hf₁ (by kernel_rfl) (by walk_at "lk") ?_
        refine ⟨⟨plain_sgn, by simp; (first | lia | omega), fun a ha _ => (plain_sgn a ha).flat, fun a ha _ f₂ _ hf₂ => ?_, fun a ha f₂ _ hf₂ => ?_⟩, ?_⟩
        refine e_loc hf₂ (by kernel_rfl) (by walk_at "lk") ?_
        · rfl
        · obtain ⟨q, hq9⟩ := (List.mem_map.mp ha)
          refine and2 hq9 fun hq he10 => ?_
          clear hq9
          obtain rfl := he10
          refine t_compare ?_
          refine e_loc hf₂ (by kernel_rfl) (by walk_at "lk") ?_
          refine e_str (l := [48, 49, 50, 51, 52, 53, 54, 55, 56, 57, 97, 98, 99, 100, 101, 102, 65, 66, 67, 68, 69, 70]) (by kernel_rfl) ?_
          refine o_notin_str ?_
          rfl
        refine e_list ?_
        refine a_nil ?_
        refine ⟨by simp, ?_⟩
        refine o_ne_nil hf₁ (la_keep la_new) la_new ?_
        have e2 : (((part.map fun c => AV.str [c]).filter fun a => !occ hexAll [sgnOf a]).map fun a => a).isEmpty = (part.filter fun c => !occ hexAll [c]).isEmpty := by
          rw [List.map_id']
          exact filter_sgn fun c => rfl
        rw [e2]
        refine tite_of (fun c4 => ⟨by simp only [badHex, c1, c2, c4]; rfl, rfl, mem_keep (mem_keep l6m), mem_keep (mem_keep l8)⟩) (fun c4 => ?_)
        exact ta_nil ⟨by simp only [badHex, c1, c2, c4]; rfl, rfl, mem_keep (mem_keep l6m), mem_keep (mem_keep l8)⟩
      rintro q hq11
      refine and3 hq11 fun e0 e1 e2 => ?_
      clear hq11
      refine tite_of (fun c1 => ?_) (fun c1 => ?_)
      · refine x_cons ?_
        refine x_return ?_
        refine e_none ?_
        rw [if_pos c1] at k6
        show (RV.flat .none) = optInts (groupsF text last)
        rw [k6]; rfl
      · rw [if_neg (by rw [c1]; exact Bool.false_ne_true)] at k6
        rw [← e0] at l2 l3 l4 l5
        refine x_cons ?_
        refine x_assign hf₁ (by kernel_rfl) ?_ (by rfl) (by kernel_rfl)
        have b1 : ListAt q jg (gs.map .int) := .inl e1
        refine e_binop ?_
        refine e_loc hf₁ (by kernel_rfl) (by walk_at "lk") ?_
        refine e_list ?_
        refine a_cons ?_
        refine e_callT (T := "int") hf₁ (by kernel_rfl) (by intro w; kernel_rfl) (by kernel_rfl) ?_
        refine a_cons ?_
        refine e_loc hf₁ (by kernel_rfl) (by walk_at "lk") ?_
        refine a_cons ?_
        refine e_int ?_
        refine a_nil ?_
        refine o_int_16 (hex_reads c1).2 (hex_reads c1).1 ?_
        refine a_nil ?_
        refine ⟨by simp, ?_⟩
        refine o_add_list (xs := gs.map .int) (ys := [((valOf 16 (part.map dig) : Nat) : Int)].map .int) (la_keep b1) la_new (by first | (first | lia | omega) | (simp; (first | lia | omega))) ?_
        refine x_nil ?_
        refine x_nil ?_
        refine x_nil ?_
        refine ⟨_, gs ++ [((valOf 16 (part.map dig) : Nat) : Int)], ?_, by walk_at "lk", by walk_at "lk", by walk_at "lk", ?_, ?_, ?_, ?_⟩
        · show (q.mem ++ [_]).length ≠ j0
          have := (List.getElem?_eq_some_iff.mp e2).1
          simp; (first | lia | omega)
        · rw [List.map_append]; exact mem_new
        · exact mem_keep (mem_keep e2)
        · rw [k6]
          simp [Function.comp_def, List.append_assoc]
        · simp; (first | lia | omega)
  · rintro σ' hq12
    obtain ⟨jg, gs, hq13⟩ := hq12
    refine and8 hq13 fun k0 k1 k2 k3 k4 k5 k6 k7 => ?_
    clear hq13
    refine x_cons ?_
    refine x_return ?_
    refine e_loc hf (by kernel_rfl) (by walk_at "lk") ?_
    have e : groupsF text last = some gs := by
      rw [k6]
      have : (spl 58 text).drop ((spl 58 text).map AV.str).length = [] := by simp
      rw [this]; simp [gFrom]
    refine ret_list k4 ?_ ?_
    · exact flat_ints
    · rw [e]; rfl
end

/- # W96 -/
section
open PySem PySem.Calls PyProof.Rows PySem.W


theorem cast_beq (a b : Nat) : ((a : Int) == (b : Int)) = (a == b) := by
  by_cases q : a = b
  · simp [q]
  · rw [beq_eq_false_iff_ne.mpr q, beq_eq_false_iff_ne.mpr (by (first | lia | omega))]
theorem rep_zero (k : Nat) : (List.replicate k [AV.int 0]).flatten = (List.replicate k (0 : Int)).map AV.int := by
  induction k with
  | zero => rfl
  | succ k ih => rw [List.replicate_succ, List.flatten_cons, ih, List.replicate_succ]; rfl
noncomputable def toI (l : List Int) : List Int := l.flatMap fun x => [x.fdiv 256, x.fmod 256]
noncomputable def octF (hs : List (List Nat)) : Option (List Int) :=
  if 2 < hs.length then none else
  match groupsF (hs.getD 0 []) (hs.length == 1), (if hs.length = 1 then some [] else groupsF (hs.getD 1 []) true) with
  | some l, some r =>
    let many : Int := 8 - (l.length : Int) - (r.length : Int)
    if ((hs.length == 1 && many != 0) || decide (many < 0) || (hs.length == 2 && many == 0)) = true then none else some (toI (l ++ List.replicate many.toNat 0 ++ r))
  | _, _ => none
noncomputable def octetsF (text : List Nat) : Option (List UInt8) := (octF (splS text [58, 58])).map fun l => l.map fun x => x.toNat.toUInt8
noncomputable def optBytes : Option (List UInt8) → RV
  | none => .flat .none
  | some b => .flat (.bytes b)
noncomputable def OptAt (σ : St) (o : Option (List Int)) (v : AV) : Prop := match o with
  | none => v = .none
  | some l => ∃ j, v = .ref j ∧ ListAt σ j (l.map .int)
theorem OptAt.keep {σ : St} {o : Option (List Int)} {v : AV} {q : AO} (h : OptAt σ o v) : OptAt (σ.new q) o v := by
  cases o with
  | none => exact h
  | some l => obtain ⟨j, e, h⟩ := h; exact ⟨j, e, la_keep h⟩
theorem OptAt.none? {σ : St} {o : Option (List Int)} : ∀ {v : AV}, OptAt σ o v → v.isN = o.isNone := by
  intro v h
  cases o with
  | none => have q : v = .none := h; subst q; rfl
  | some l => obtain ⟨j, e, h⟩ := h; subst e; rfl
theorem splS_len (x y : List Nat) : (splS x y).length ≤ x.length + 2 := by
  unfold splS; rw [List.length_map]
  have := split_le (⟨x.toArray⟩ : Str) ⟨y.toArray⟩
  rwa [str_len] at this
theorem splS_pos (x y : List Nat) : 1 ≤ (splS x y).length := by
  unfold splS; rw [List.length_map]; exact split_pos _ _
theorem splS_mem {x y p : List Nat} (h : p ∈ splS x y) : p.length ≤ x.length := by
  unfold splS at h
  obtain ⟨q, hq1⟩ := (List.mem_map.mp h)
  refine and2 hq1 fun hq he2 => ?_
  clear hq1
  obtain rfl := he2
  have := part_short hq
  rw [str_len] at this
  simpa [Str.length] using this
theorem valOf_lt (b : Nat) (hb : 0 < b) : ∀ (ds : List Nat), (∀ d ∈ ds, d < b) → valOf b ds < b ^ ds.length := by
  have key : ∀ (ds : List Nat) (acc : Nat), (∀ d ∈ ds, d < b) → ds.foldl (fun acc d => acc * b + d) acc < (acc + 1) * b ^ ds.length := by
    intro ds
    induction ds with
    | nil => intro acc _; simp
    | cons d r ih =>
      intro acc h
      have h1 := h d (by simp)
      have h2 := ih (acc * b + d) fun x hx => h x (by simp [hx])
      rw [List.foldl_cons]
      refine Nat.lt_of_lt_of_le h2 ?_
      rw [List.length_cons, Nat.pow_succ, Nat.mul_comm (b ^ r.length) b, ← Nat.mul_assoc]
      refine Nat.mul_le_mul_right _ ?_
      rw [Nat.add_mul]; (first | lia | omega)
  intro ds h
  have := key ds 0 h
  simpa [valOf] using this
theorem quad_bound {t : List Nat} {xs : List Int} (hs : quadF t = some xs) : ∀ x ∈ xs, 0 ≤ x ∧ x < 65536 := by
  have two : ∀ a b : Nat, (a : Int) ≤ 255 → (b : Int) ≤ 255 → 0 ≤ (a : Int) * 256 + b ∧ (a : Int) * 256 + b < 65536 := by lia
  unfold quadF at hs
  simp only at hs
  split at hs
  · (first | exact nn hs | exact sn hs | exact tf hs | exact ft hs | cases hs)
  · split at hs
    · (first | exact nn hs | exact sn hs | exact tf hs | exact ft hs | cases hs)
    · split at hs
      · (first | exact nn hs | exact sn hs | exact tf hs | exact ft hs | cases hs)
      · rename_i h
        obtain rfl := Option.some.inj hs
        obtain ⟨h0, h1, h2, h3⟩ := Decidable.not_not.mp (mt (max4_iff ..).mpr h)
        intro x hx
        rcases List.mem_cons.mp hx with rfl | hx
        · exact two _ _ h0 h1
        · obtain rfl := List.mem_singleton.mp hx
          exact two _ _ h2 h3
theorem hex_bound {p : List Nat} (h : badHex p = false) : valOf 16 (p.map dig) < 65536 := by
  refine and3 (badHex_no h) fun _ h2 hd => ?_
  refine Nat.lt_of_lt_of_le (valOf_lt 16 (by decide) _ fun d hd' => ?_) (?_ : _ ≤ 16 ^ 4)
  · obtain ⟨c, hq3⟩ := (List.mem_map.mp hd')
    refine and2 hq3 fun hc he4 => ?_
    clear hq3
    obtain rfl := he4
    exact (hexAll_is c (hd c hc)).2.1
  · rw [List.length_map]
    exact Nat.pow_le_pow_right (by decide) h2
theorem gFrom_bound {last : Bool} {np : Nat} : ∀ {l : List (List Nat)} {i : Nat} {gs : List Int}, gFrom last np i l = some gs → ∀ x ∈ gs, 0 ≤ x ∧ x < 65536
  | [], i, gs, h => by
    obtain rfl := Option.some.inj h
    simp
  | p :: r, i, gs, h => by
    unfold gFrom at h
    cases hs : gStep last np i p with
    | none => rw [hs] at h; cases h
    | some g =>
      rw [hs] at h
      cases hr : gFrom last np (i + 1) r with
      | none => rw [hr] at h; cases h
      | some q =>
        rw [hr] at h
        obtain rfl := Option.some.inj h
        have ih := gFrom_bound hr
        have hg : ∀ x ∈ g, 0 ≤ x ∧ x < 65536 := by
          unfold gStep at hs
          split at hs
          · exact quad_bound hs
          · split at hs
            · (first | exact nn hs | exact sn hs | exact tf hs | exact ft hs | cases hs)
            · rename_i hb
              obtain rfl := Option.some.inj hs
              intro x hx
              simp only [List.mem_cons, List.not_mem_nil, or_false] at hx
              have := hex_bound (p := p) (by simpa using hb)
              (first | lia | omega)
        intro x hx
        rcases List.mem_append.mp hx with hx | hx
        · exact hg x hx
        · exact ih x hx
theorem groups_bound {t : List Nat} {last : Bool} {gs : List Int} (h : groupsF t last = some gs) : ∀ x ∈ gs, 0 ≤ x ∧ x < 65536 := by
  unfold groupsF at h
  split at h
  · obtain rfl := Option.some.inj h; simp
  · exact gFrom_bound h
theorem groups_len {t : List Nat} {last : Bool} {gs : List Int} (h : groupsF t last = some gs) : gs.length ≤ 2 * t.length + 2 := by
  unfold groupsF at h
  split at h
  · obtain rfl := Option.some.inj h; simp
  · have := gFrom_len h
    have := spl_length_le 58 t
    (first | lia | omega)
set_option maxHeartbeats 1000000 in
theorem q96 {text : List Nat} {n : Nat} (hsz : text.length ≤ 300): Fn (n + 3) 96 [.str text] (Is (optBytes (octetsF text))) (fun _ => False) := by
  refine fn_of1 def96 peek96 (by kernel_rfl) fun f hf hfe σ hs1 hs2 => ?_
  have hsl := splS_len text [58, 58]
  have hsp := splS_pos text [58, 58]
  have hsm : ∀ p ∈ splS text [58, 58], p.length ≤ text.length := fun p hp => splS_mem hp
  refine x_cons ?_
  refine x_assign hf (by kernel_rfl) ?_ (by rfl) (by kernel_rfl)
  refine e_meth1 (id := "str.split") ?_
  refine e_loc hf (by kernel_rfl) (by walk_at "lk") ?_
  refine ⟨meth_str F.slot_str_split F.type_str_split, ?_⟩
  refine a_cons ?_
  refine e_str (l := [58, 58]) (by kernel_rfl) ?_
  refine a_nil ?_
  refine o_split_str (by first | (first | lia | omega) | (simp; (first | lia | omega))) (by simp) ?_
  unfold octetsF
  generalize splS text [58, 58] = hs at hsl hsp hsm ⊢
  have nl : (hs.map AV.str).length = hs.length := by simp
  have h0 : hs.getD 0 [] ∈ hs := by
    rw [List.getD_eq_getElem?_getD, List.getElem?_eq_getElem (show 0 < hs.length by (first | lia | omega))]
    exact List.getElem_mem _
  have g0 : (hs.map AV.str)[(0 : Int).toNat]? = some (.str (hs.getD 0 [])) := by
    simp [List.getD, List.getElem?_map, List.getElem?_eq_getElem (show 0 < hs.length by (first | lia | omega))]
  refine x_cons ?_
  refine x_if ?_
  refine t_compare ?_
  refine e_callB (id := "len") hf (by kernel_rfl) (by intro w; kernel_rfl) (by kernel_rfl) ?_
  refine a_cons ?_
  refine e_loc hf (by kernel_rfl) (by walk_at "lk") ?_
  refine a_nil ?_
  refine o_len_list (by walk_at "la") (by first | (first | lia | omega) | (simp; (first | lia | omega))) ?_
  refine e_int ?_
  refine o_gt_int ?_
  rw [nl]
  refine tite_of (fun c => ?_) (fun c => ?_)
  · refine x_cons ?_
    refine x_return ?_
    refine e_none ?_
    show RV.flat .none = _
    unfold octF
    rw [if_pos (by have := of_decide_eq_true c; (first | lia | omega))]; rfl
  have hl2 : hs.length ≤ 2 := by have := of_decide_eq_false c; (first | lia | omega)
  refine x_nil ?_
  generalize hσ1 : ((σ.new (AO.list (hs.map AV.str))).set ("halves" : Str) (.ref σ.mem.length)) = σ1
  have k1 : σ1.loc.lookup ("halves" : Str) = some (.ref σ.mem.length) := by subst hσ1; walk_at "lk"
  have k2 : ListAt σ1 σ.mem.length (hs.map .str) := by subst hσ1; exact la_new
  clear hσ1
  refine x_cut (fun σ2 => ∃ v, σ2.loc.lookup ("halves" : Str) = some (.ref σ.mem.length) ∧ ListAt σ2 σ.mem.length (hs.map .str) ∧ σ2.loc.lookup ("left" : Str) = some v ∧ OptAt σ2 (groupsF (hs.getD 0 []) (hs.length == 1)) v) ?_ ?_
  · refine x_assign hf (by kernel_rfl) ?_ (by rfl) (by kernel_rfl)
    refine e_callD hf (by kernel_rfl) (by intro w; kernel_rfl) def89.look ?_
    refine a_cons ?_
    refine e_index ?_
    refine e_loc hf (by kernel_rfl) (by walk_at "lk") ?_
    refine e_int ?_
    refine i_list (by walk_at "la") (by first | (first | lia | omega) | (simp; (first | lia | omega))) (by first | (first | lia | omega) | (simp; (first | lia | omega))) g0 ?_
    refine a_cons ?_
    refine e_compare ?_
    refine e_callB (id := "len") hf (by kernel_rfl) (by intro w; kernel_rfl) (by kernel_rfl) ?_
    refine a_cons ?_
    refine e_loc hf (by kernel_rfl) (by walk_at "lk") ?_
    refine a_nil ?_
    refine o_len_list (by walk_at "la") (by first | (first | lia | omega) | (simp; (first | lia | omega))) ?_
    refine e_int ?_
    refine o_eq_int ?_
    rw [nl]
    refine a_nil ?_
    refine o_call hf (q89 (n := 0) (by have := hsm _ h0; (first | lia | omega))) (by first | exact Nat.le_trans (by assumption) (by decide) | lia | omega) ⟨trivial, trivial, trivial⟩ ?_ (fun _ q => q)
    rintro r rfl
    have eb : ((hs.length : Int) == 1) = (hs.length == 1) := by
      by_cases q : hs.length = 1
      · simp [q]
      · have : ¬ ((hs.length : Int) = 1) := by (first | lia | omega)
        rw [beq_eq_false_iff_ne.mpr this, beq_eq_false_iff_ne.mpr q]
    rw [eb]
    cases hq : groupsF (hs.getD 0 []) (hs.length == 1) with
    | none => exact ⟨_, by walk_at "lk", k2, lk_same, rfl⟩
    | some l => exact ⟨_, by walk_at "lk", la_keep k2, lk_same, _, rfl, la_new⟩
  rintro σ2 hq5
  obtain ⟨v, hq6⟩ := hq5
  refine and4 hq6 fun m1 m2 m3 m4 => ?_
  clear hq6
  refine x_cut (fun σ3 => ∃ v u, σ3.loc.lookup ("halves" : Str) = some (.ref σ.mem.length) ∧ ListAt σ3 σ.mem.length (hs.map .str) ∧ σ3.loc.lookup ("left" : Str) = some v ∧ OptAt σ3 (groupsF (hs.getD 0 []) (hs.length == 1)) v ∧
    σ3.loc.lookup ("right" : Str) = some u ∧ OptAt σ3 (if hs.length = 1 then some [] else groupsF (hs.getD 1 []) true) u) ?_ ?_
  · refine x_assign hf (by kernel_rfl) ?_ (by rfl) (by kernel_rfl)
    refine e_if ?_
    refine t_compare ?_
    refine e_callB (id := "len") hf (by kernel_rfl) (by intro w; kernel_rfl) (by kernel_rfl) ?_
    refine a_cons ?_
    refine e_loc hf (by kernel_rfl) (by walk_at "lk") ?_
    refine a_nil ?_
    refine o_len_list (by walk_at "la") (by first | (first | lia | omega) | (simp; (first | lia | omega))) ?_
    refine e_int ?_
    refine o_eq_int ?_
    rw [nl]
    refine tite_of (fun c1 => ?_) (fun c1 => ?_)
    · have e1 : hs.length = 1 := by simp at c1; (first | lia | omega)
      clear c1
      refine e_list ?_
      refine a_nil ?_
      refine ⟨by simp, ?_⟩
      rw [if_pos e1]
      exact ⟨v, _, by walk_at "lk", la_keep m2, by walk_at "lk", m4.keep, lk_same, _, rfl, la_new⟩
    · have e1 : hs.length ≠ 1 := by simp at c1; (first | lia | omega)
      clear c1
      have g1 : (hs.map AV.str)[(1 : Int).toNat]? = some (.str (hs.getD 1 [])) := by
        simp [List.getD, List.getElem?_map, List.getElem?_eq_getElem (show 1 < hs.length by (first | lia | omega))]
      have h1 : hs.getD 1 [] ∈ hs := by
        rw [List.getD_eq_getElem?_getD, List.getElem?_eq_getElem (show 1 < hs.length by (first | lia | omega))]
        exact List.getElem_mem _
      refine e_callD hf (by kernel_rfl) (by intro w; kernel_rfl) def89.look ?_
      refine a_cons ?_
      refine e_index ?_
      refine e_loc hf (by kernel_rfl) (by walk_at "lk") ?_
      refine e_int ?_
      refine i_list (by walk_at "la") (by first | (first | lia | omega) | (simp; (first | lia | omega))) (by first | (first | lia | omega) | (simp; (first | lia | omega))) g1 ?_
      refine a_cons ?_
      refine e_bool ?_
      refine a_nil ?_
      refine o_call hf (q89 (n := 0) (by have := hsm _ h1; (first | lia | omega))) (by first | exact Nat.le_trans (by assumption) (by decide) | lia | omega) ⟨trivial, trivial, trivial⟩ ?_ (fun _ q => q)
      rintro r rfl
      rw [if_neg e1]
      cases hq : groupsF (hs.getD 1 []) true with
      | none => exact ⟨v, _, by walk_at "lk", m2, by walk_at "lk", m4, lk_same, rfl⟩
      | some l => exact ⟨v, _, by walk_at "lk", la_keep m2, by walk_at "lk", m4.keep, lk_same, _, rfl, la_new⟩
  rintro σ3 hq7
  obtain ⟨v, u, hq8⟩ := hq7
  refine and6 hq8 fun n1 n2 n3 n4 n5 n6 => ?_
  clear hq8
  have hlen : ∀ l, groupsF (hs.getD 0 []) (hs.length == 1) = some l → l.length ≤ 602 ∧ ∀ x ∈ l, 0 ≤ x ∧ x < 65536 := fun l e => ⟨by have := groups_len e; have := hsm _ h0; (first | lia | omega), groups_bound e⟩
  have hrt : ∀ l, (if hs.length = 1 then some [] else groupsF (hs.getD 1 []) true) = some l → l.length ≤ 602 ∧ ∀ x ∈ l, 0 ≤ x ∧ x < 65536 := by
    intro l e
    by_cases q : hs.length = 1
    · rw [if_pos q] at e; obtain rfl := Option.some.inj e; simp
    · rw [if_neg q] at e
      have h1 : hs.getD 1 [] ∈ hs := by
        rw [List.getD_eq_getElem?_getD, List.getElem?_eq_getElem (show 1 < hs.length by (first | lia | omega))]
        exact List.getElem_mem _
      exact ⟨by have := groups_len e; have := hsm _ h1; (first | lia | omega), groups_bound e⟩
  have hoct : octF hs = match groupsF (hs.getD 0 []) (hs.length == 1), (if hs.length = 1 then some [] else groupsF (hs.getD 1 []) true) with
    | some l, some r =>
      let many : Int := 8 - (l.length : Int) - (r.length : Int)
      if ((hs.length == 1 && many != 0) || decide (many < 0) || (hs.length == 2 && many == 0)) = true then none else some (toI (l ++ List.replicate many.toNat 0 ++ r))
    | _, _ => none := by unfold octF; rw [if_neg (by (first | lia | omega))]
  generalize groupsF (hs.getD 0 []) (hs.length == 1) = gl at n4 hlen hoct
  generalize (if hs.length = 1 then some [] else groupsF (hs.getD 1 []) true) = gr at n6 hrt hoct
  refine x_cons ?_
  refine x_if ?_
  refine t_is (gl.isNone || gr.isNone) (fun s => s = σ3) ?_ ?_
  · refine t_bool ?_
    refine ta_or ?_
    refine t_compare ?_
    refine e_loc hf (by kernel_rfl) (by walk_at "lk") ?_
    refine e_none ?_
    refine o_is_none ?_
    rw [n4.none?]
    refine tite_of (fun c1 => ⟨by rw [c1]; rfl, rfl⟩) (fun c1 => ?_)
    refine ta_or ?_
    refine t_compare ?_
    refine e_loc hf (by kernel_rfl) (by walk_at "lk") ?_
    refine e_none ?_
    refine o_is_none ?_
    rw [n6.none?]
    refine tite_of (fun c2 => ⟨by rw [c1, c2]; rfl, rfl⟩) (fun c2 => ?_)
    exact ta_nil ⟨by rw [c1, c2]; rfl, rfl⟩
  rintro s rfl
  refine tite_of (fun c1 => ?_) (fun c1 => ?_)
  · refine x_cons ?_
    refine x_return ?_
    refine e_none ?_
    show RV.flat .none = _
    rw [hoct]
    cases gl <;> cases gr <;> first | rfl | (first | exact nn c1 | exact sn c1 | exact tf c1 | exact ft c1 | cases c1)
  obtain ⟨l, rfl⟩ : ∃ l, gl = some l := by cases gl with | none => cases c1 | some l => exact ⟨l, rfl⟩
  obtain ⟨r, rfl⟩ : ∃ r, gr = some r := by cases gr with | none => cases c1 | some r => exact ⟨r, rfl⟩
  obtain ⟨jl, hq9⟩ := n4
  refine and2 hq9 fun he10 nl1 => ?_
  clear hq9
  obtain rfl := he10
  obtain ⟨jr, hq11⟩ := n6
  refine and2 hq11 fun he12 nr1 => ?_
  clear hq11
  obtain rfl := he12
  obtain ⟨ll1, ll2⟩ := hlen l rfl
  obtain ⟨lr1, lr2⟩ := hrt r rfl
  clear hlen hrt
  have ml : (l.map AV.int).length = l.length := by simp
  have mr : (r.map AV.int).length = r.length := by simp
  refine x_nil ?_
  refine x_cons ?_
  refine x_assign hf (by kernel_rfl) ?_ (by rfl) (by kernel_rfl)
  refine e_binop ?_
  refine e_binop ?_
  refine e_int ?_
  refine e_callB (id := "len") hf (by kernel_rfl) (by intro w; kernel_rfl) (by kernel_rfl) ?_
  refine a_cons ?_
  refine e_loc hf (by kernel_rfl) (by walk_at "lk") ?_
  refine a_nil ?_
  refine o_len_list (by walk_at "la") (by first | (first | lia | omega) | (simp; (first | lia | omega))) ?_
  refine o_sub_int ?_
  refine e_callB (id := "len") hf (by kernel_rfl) (by intro w; kernel_rfl) (by kernel_rfl) ?_
  refine a_cons ?_
  refine e_loc hf (by kernel_rfl) (by walk_at "lk") ?_
  refine a_nil ?_
  refine o_len_list (by walk_at "la") (by first | (first | lia | omega) | (simp; (first | lia | omega))) ?_
  refine o_sub_int ?_
  rw [ml, mr]
  generalize hm : (8 - (l.length : Int) - (r.length : Int)) = many at hoct
  refine x_cons ?_
  refine x_if ?_
  refine t_is ((hs.length == 1 && many != 0) || decide (many < 0) || (hs.length == 2 && many == 0)) (fun q => q = s.set ("many" : Str) (.int many)) ?_ ?_
  · refine t_bool ?_
    refine ta_or ?_
    refine t_is (hs.length == 1 && many != 0) (fun q => q = s.set ("many" : Str) (.int many)) ?_ ?_
    · refine t_bool ?_
      refine ta_and ?_
      refine t_compare ?_
      refine e_callB (id := "len") hf (by kernel_rfl) (by intro w; kernel_rfl) (by kernel_rfl) ?_
      refine a_cons ?_
      refine e_loc hf (by kernel_rfl) (by walk_at "lk") ?_
      refine a_nil ?_
      refine o_len_list (by walk_at "la") (by first | (first | lia | omega) | (simp; (first | lia | omega))) ?_
      refine e_int ?_
      refine o_eq_int ?_
      rw [nl, show ((hs.length : Int) == 1) = (hs.length == 1) from cast_beq _ _]
      refine tite_of (fun c2 => ?_) (fun c2 => ⟨by rw [c2]; rfl, rfl⟩)
      refine ta_and ?_
      refine t_compare ?_
      refine e_loc hf (by kernel_rfl) (by walk_at "lk") ?_
      refine e_int ?_
      refine o_ne_int ?_
      refine tite_of (fun c3 => ?_) (fun c3 => ⟨by rw [c3, c2]; rfl, rfl⟩)
      exact ta_nil ⟨by rw [c3, c2]; rfl, rfl⟩
    rintro q rfl
    refine tite_of (fun c2 => ⟨by rw [c2]; rfl, rfl⟩) (fun c2 => ?_)
    refine ta_or ?_
    refine t_compare ?_
    refine e_loc hf (by kernel_rfl) (by walk_at "lk") ?_
    refine e_int ?_
    refine o_lt_int ?_
    refine tite_of (fun c3 => ⟨by rw [c2, c3]; rfl, rfl⟩) (fun c3 => ?_)
    refine ta_or ?_
    refine t_is (hs.length == 2 && many == 0) (fun q => q = s.set ("many" : Str) (.int many)) ?_ ?_
    · refine t_bool ?_
      refine ta_and ?_
      refine t_compare ?_
      refine e_callB (id := "len") hf (by kernel_rfl) (by intro w; kernel_rfl) (by kernel_rfl) ?_
      refine a_cons ?_
      refine e_loc hf (by kernel_rfl) (by walk_at "lk") ?_
      refine a_nil ?_
      refine o_len_list (by walk_at "la") (by first | (first | lia | omega) | (simp; (first | lia | omega))) ?_
      refine e_int ?_
      refine o_eq_int ?_
      rw [nl, show ((hs.length : Int) == 2) = (hs.length == 2) from cast_beq _ _]
      refine tite_of (fun c4 => ?_) (fun c4 => ⟨by rw [c4]; rfl, rfl⟩)
      refine ta_and ?_
      refine t_compare ?_
      refine e_loc hf (by kernel_rfl) (by walk_at "lk") ?_
      refine e_int ?_
      refine o_eq_int ?_
      refine tite_of (fun c5 => ?_) (fun c5 => ⟨by rw [c5, c4]; rfl, rfl⟩)
      exact ta_nil ⟨by rw [c5, c4]; rfl, rfl⟩
    rintro q rfl
    refine tite_of (fun c4 => ⟨by rw [c2, c3, c4]; rfl, rfl⟩) (fun c4 => ?_)
    exact ta_nil ⟨by rw [c2, c3, c4]; rfl, rfl⟩
  rintro q rfl
  refine tite_of (fun c2 => ?_) (fun c2 => ?_)
  · refine x_cons ?_
    refine x_return ?_
    refine e_none ?_
    show RV.flat .none = _
    rw [hoct]
    simp only
    rw [hm, if_pos c2]; rfl
  have hres : octF hs = some (toI (l ++ List.replicate many.toNat 0 ++ r)) := by
    rw [hoct]
    simp only
    rw [hm, if_neg (by rw [c2]; exact Bool.false_ne_true)]
  have hmany : 0 ≤ many ∧ many ≤ 8 := by
    simp only [Bool.or_eq_false_iff, decide_eq_false_iff_not] at c2
    (first | lia | omega)
  have hlr : l.length + r.length ≤ 8 := by clear c2 hoct hres; (first | lia | omega)
  clear c2 hoct
  refine x_nil ?_
  have p1 : (s.set ("many" : Str) (.int many)).loc.lookup ("left" : Str) = some (.ref jl) := by walk_at "lk"
  have p2 : (s.set ("many" : Str) (.int many)).loc.lookup ("right" : Str) = some (.ref jr) := by walk_at "lk"
  have p3 : (s.set ("many" : Str) (.int many)).loc.lookup ("many" : Str) = some (.int many) := lk_same
  have p4 : ListAt (s.set ("many" : Str) (.int many)) jl (l.map .int) := nl1
  have p5 : ListAt (s.set ("many" : Str) (.int many)) jr (r.map .int) := nr1
  generalize s.set ("many" : Str) (.int many) = σ4 at p1 p2 p3 p4 p5 ⊢
  let Iz3 : St → Prop := fun σ5 => ∃ jf, σ5.loc.lookup ("found" : Str) = some (.ref jf) ∧ σ5.mem[jf]? = some (.list (([] : List Int).map .int)) ∧ σ5.loc.lookup ("left" : Str) = some (.ref jl) ∧ σ5.loc.lookup ("right" : Str) = some (.ref jr) ∧ σ5.loc.lookup ("many" : Str) = some (.int many) ∧ ListAt σ5 jl (l.map .int) ∧ ListAt σ5 jr (r.map .int)
  refine x_cut Iz3 ?_ ?_
  · refine x_assign hf (by kernel_rfl) ?_ (by rfl) (by kernel_rfl)
    refine e_list ?_
    refine a_nil ?_
    refine ⟨by simp, ?_⟩
    exact ⟨_, lk_same, mem_new, by walk_at "lk", by walk_at "lk", by walk_at "lk", la_keep p4, la_keep p5⟩
  clear p1 p2 p3 p4 p5
  rintro σ5 hq13
  obtain ⟨jf0, hq14⟩ := hq13
  refine and7 hq14 fun p0 p0' p1 p2 p3 p4 p5 => ?_
  clear hq14
  refine x_cons ?_
  refine x_for hf (by kernel_rfl) ?_ (by rw [hfe])
  refine it_list hf ?_
  refine e_binop ?_
  refine e_binop ?_
  refine e_loc hf (by kernel_rfl) (by walk_at "lk") ?_
  refine e_binop ?_
  refine e_list ?_
  refine a_cons ?_
  refine e_int ?_
  refine a_nil ?_
  refine ⟨by simp, ?_⟩
  refine e_loc hf (by kernel_rfl) (by walk_at "lk") ?_
  refine o_mul_list la_new (by first | exact Nat.le_trans (by assumption) (by decide) | lia | omega) (by simp) ?_
  rw [rep_zero]
  refine o_add_list (by first | walk_at "la" | exact la_new) (by first | exact la_new | walk_at "la") (by first | (first | lia | omega) | (simp; (first | lia | omega))) ?_
  refine e_loc hf (by kernel_rfl) (by walk_at "lk") ?_
  refine o_add_list (by first | walk_at "la" | exact la_new) (by first | exact la_new | walk_at "la") (by first | (first | lia | omega) | (simp; (first | lia | omega))) ?_
  refine ⟨_, _, rfl, la_new, fun ob => ?_⟩
  rw [← List.map_append, ← List.map_append]
  generalize hjn : (St.mem (St.new (St.new (St.new σ5 _) _) _)).length = jn
  have hjn' : jn = σ5.mem.length + 3 := by subst hjn; show (((σ5.mem ++ [_]) ++ [_]) ++ [_]).length = _; simp
  have hjf : jf0 < σ5.mem.length := (List.getElem?_eq_some_iff.mp p0').1
  have hW : ∀ x ∈ l ++ List.replicate many.toNat 0 ++ r, 0 ≤ x ∧ x < 65536 := by
    intro x hx
    rcases List.mem_append.mp hx with hx | hx
    · rcases List.mem_append.mp hx with hx | hx
      · exact ll2 x hx
      · have := List.eq_of_mem_replicate hx; (first | lia | omega)
    · exact lr2 x hx
  have hWl : (l ++ List.replicate many.toNat 0 ++ r).length ≤ 2000 := by simp; (first | lia | omega)
  generalize l ++ List.replicate many.toNat 0 ++ r = W at hW hWl hres ⊢
  let Iz4 : Nat → St → Prop := fun i σ' => ∃ jf, jf ≠ jn ∧ σ'.loc.lookup ("found" : Str) = some (.ref jf) ∧ σ'.mem[jf]? = some (.list ((toI (W.take i)).map .int)) ∧ σ'.mem[jn]? = some (.fix ob false (W.map .int))
  refine ⟨Iz4, ⟨jf0, by (first | lia | omega), by walk_at "lk", ?_, ?_⟩, ?_, ?_, ?_⟩
  · refine mem_put_other (mem_keep (mem_keep (mem_keep (mem_keep p0')))) (by (first | lia | omega))
  · exact mem_put (by show jn < ((((σ5.mem ++ [_]) ++ [_]) ++ [_]) ++ [_]).length; simp; (first | lia | omega))
  · rintro j hj i σ' hq15
    obtain ⟨jf, hq16⟩ := hq15
    refine and4 hq16 fun _ _ _ h6 => ?_
    clear hq16
    simp only [List.mem_cons, List.not_mem_nil, or_false] at hj
    subst hj
    rw [h6, mem_put (by show j < ((((σ5.mem ++ [_]) ++ [_]) ++ [_]) ++ [_]).length; simp; (first | lia | omega))]
  · rintro i σ' y hq17 hy f₁ hL hfe₁ hf₁
    obtain ⟨jf, hq18⟩ := hq17
    refine and4 hq18 fun k0 k1 k2 k3 => ?_
    clear hq18
    obtain ⟨x, hq19⟩ := (item_of hy)
    refine and3 hq19 fun ho he20 hmem => ?_
    clear hq19
    obtain rfl := he20
    obtain ⟨hx0, hx1⟩ := hW x hmem
    have hi : i < W.length := (List.getElem?_eq_some_iff.mp ho).1
    have htl : (toI (W.take i)).length ≤ 4000 := by
      have : ∀ q : List Int, (toI q).length = 2 * q.length := by
        intro q; induction q with
        | nil => rfl
        | cons a b ih => simp [toI] at ih ⊢; (first | lia | omega)
      rw [this]; simp; (first | lia | omega)
    have ht : toI (W.take (i + 1)) = toI (W.take i) ++ [x.fdiv 256, x.fmod 256] := by
      rw [List.take_add_one, ho]
      simp [toI]
    refine x_cons ?_
    have k2' : ListAt σ' jf ((toI (W.take i)).map .int) := .inl k2
    refine x_assign hf₁ (by kernel_rfl) ?_ (by rfl) (by kernel_rfl)
    refine e_binop ?_
    refine e_loc hf₁ (by kernel_rfl) (by walk_at "lk") ?_
    refine e_list ?_
    refine a_cons ?_
    refine e_binop ?_
    refine e_loc hf₁ (by kernel_rfl) (by walk_at "lk") ?_
    refine e_int ?_
    refine o_div_int hf₁ (by first | (first | lia | omega) | (simp; (first | lia | omega))) (by decide) ?_
    refine a_cons ?_
    refine e_binop ?_
    refine e_loc hf₁ (by kernel_rfl) (by walk_at "lk") ?_
    refine e_int ?_
    refine o_mod_int (by decide) ?_
    refine a_nil ?_
    refine ⟨by simp, ?_⟩
    refine o_add_list (xs := (toI (W.take i)).map .int) (ys := [x.fdiv 256, x.fmod 256].map .int) (la_keep (show ListAt _ _ _ from k2')) la_new (by first | (first | lia | omega) | (simp; (first | lia | omega))) ?_
    refine x_nil ?_
    refine ⟨_, ?_, by walk_at "lk", ?_, ?_⟩
    · show (σ'.mem ++ [_]).length ≠ jn
      have := (List.getElem?_eq_some_iff.mp k3).1
      simp; (first | lia | omega)
    · rw [ht, List.map_append]; exact mem_new
    · exact mem_keep (mem_keep k3)
  · rintro σ' hq21
    obtain ⟨jf, hq22⟩ := hq21
    refine and4 hq22 fun k0 k1 k2 k3 => ?_
    clear hq22
    have e : W.take (W.map AV.int).length = W := by simp
    rw [e] at k2
    have k2' : ListAt σ' jf ((toI W).map .int) := .inl k2
    have hb : ∀ x ∈ toI W, 0 ≤ x ∧ x < 256 := by
      intro x hx
      obtain ⟨y, hq23⟩ := (List.mem_flatMap.mp hx)
      refine and2 hq23 fun hy hx => ?_
      clear hq23
      obtain ⟨h1, h2⟩ := hW y hy
      simp only [List.mem_cons, List.not_mem_nil, or_false] at hx
      rcases hx with rfl | rfl
      · rw [Int.fdiv_eq_ediv_of_nonneg _ (by (first | lia | omega))]; (first | lia | omega)
      · rw [Int.fmod_eq_emod_of_nonneg _ (by (first | lia | omega))]; (first | lia | omega)
    have htl : (toI W).length ≤ 4000 := by
      have : ∀ q : List Int, (toI q).length = 2 * q.length := by
        intro q; induction q with
        | nil => rfl
        | cons a b ih => simp [toI] at ih ⊢; (first | lia | omega)
      rw [this]; (first | lia | omega)
    refine x_cons ?_
    refine x_return ?_
    refine e_callT (T := "bytes") hf (by kernel_rfl) (by intro w; kernel_rfl) (by kernel_rfl) ?_
    refine a_cons ?_
    refine e_loc hf (by kernel_rfl) (by walk_at "lk") ?_
    refine a_nil ?_
    refine o_bytes_list hf k2' hb (by first | exact Nat.le_trans (by assumption) (by decide) | lia | omega) ?_
    show RV.flat (.bytes _) = _
    rw [hres]; rfl
end

/- # W115 -/
section
open PySem PySem.Calls PyProof.Rows PySem.W


noncomputable def refusedS : List Nat := [114, 101, 102, 117, 115, 101, 100]
noncomputable def dueF (text : List Nat) : AV := match octetsF text with
  | none => .str refusedS
  | some b => .bytes b
theorem q115 {text : List Nat} {n : Nat} (hsz : text.length ≤ 300) : Fn (n + 4) 115 [.str text] (fun r => r = .flat (dueF text)) (fun _ => False) := by
  refine fn_of1 def115 peek115 (by kernel_rfl) fun f hf hfe σ hs1 hs2 => ?_
  refine x_cons ?_
  refine x_assign hf (by kernel_rfl) ?_ (by rfl) (by kernel_rfl)
  refine e_callD hf (by kernel_rfl) (by intro w; kernel_rfl) def96.look ?_
  refine a_cons ?_
  refine e_loc hf (by kernel_rfl) (by walk_at "lk") ?_
  refine a_nil ?_
  refine o_call hf (q96 (n := n) hsz) (Nat.le_refl _) ⟨trivial, trivial⟩ ?_ (fun _ q => q)
  rintro r rfl
  unfold dueF
  cases hq : octetsF text with
  | none =>
    show Es _ _ _ _ _ _
    refine x_cons ?_
    refine x_return ?_
    refine e_if ?_
    refine t_compare ?_
    refine e_loc hf (by kernel_rfl) (by walk_at "lk") ?_
    refine e_none ?_
    refine o_is_none ?_
    show Ev _ _ _ _ _ _
    refine e_str (l := [114, 101, 102, 117, 115, 101, 100]) (by kernel_rfl) ?_
    rfl
  | some x =>
    show Es _ _ _ _ _ _
    refine x_cons ?_
    refine x_return ?_
    refine e_if ?_
    refine t_compare ?_
    refine e_loc hf (by kernel_rfl) (by walk_at "lk") ?_
    refine e_none ?_
    refine o_is_none ?_
    show Ev _ _ _ _ _ _
    refine e_loc hf (by kernel_rfl) (by walk_at "lk") ?_
    rfl
end

/- # W56 -/
section
open PySem PySem.Calls PyProof.Rows PySem.W


noncomputable def hexPair (x : UInt8) : List UInt8 := [hexB.getD (x.toNat / 16) 0, hexB.getD (x.toNat % 16) 0]
noncomputable def pairOf : AV → AV
  | .int k => .bytes (cut hexB (some (k.fdiv 16)) (some (k.fdiv 16 + 1)) ++ cut hexB (some (k.fmod 16)) (some (k.fmod 16 + 1)))
  | a => a
theorem pair_of (x : UInt8) : pairOf (.int (x.toNat : Int)) = .bytes (hexPair x) := by
  have key : ∀ k, k < 256 → cut hexB (some (((k : Nat) : Int).fdiv 16)) (some (((k : Nat) : Int).fdiv 16 + 1)) ++ cut hexB (some (((k : Nat) : Int).fmod 16)) (some (((k : Nat) : Int).fmod 16 + 1)) = [hexB.getD (k / 16) 0, hexB.getD (k % 16) 0] := by decide +kernel
  exact congrArg AV.bytes (key x.toNat x.toNat_lt)
noncomputable def hexS (b : List UInt8) : List Nat := b.flatMap fun x => hex2 x.toNat
theorem hexPair_enc (x : UInt8) : hexPair x = enc (hex2 x.toNat) := by
  have key : ∀ k, k < 256 → [hexB.getD (k / 16) 0, hexB.getD (k % 16) 0] = enc (hex2 k) := by decide +kernel
  exact key x.toNat x.toNat_lt
theorem hex2_low (x : UInt8) : ∀ c ∈ hex2 x.toNat, c < 128 := by
  have key : ∀ k, k < 256 → ∀ c ∈ hex2 k, c < 128 := by decide +kernel
  exact key x.toNat x.toNat_lt
theorem hexS_low (b : List UInt8) : ∀ c ∈ hexS b, c < 128 := by
  intro c hc
  obtain ⟨x, hq1⟩ := (List.mem_flatMap.mp hc)
  refine and2 hq1 fun _ hx => ?_
  clear hq1
  exact hex2_low x c hx
theorem hexS_len (b : List UInt8) : (hexS b).length = 2 * b.length := by
  induction b with
  | nil => rfl
  | cons x r ih => 
    show (hex2 x.toNat ++ hexS r).length = _
    rw [List.length_append, ih, List.length_cons]
    simp [hex2]; (first | lia | omega)
theorem enc_low {l : List Nat} (h : ∀ c ∈ l, c < 128) : enc l = l.map (·.toUInt8) := by
  induction l with
  | nil => rfl
  | cons c r ih => rw [enc_cons, utf8Of_low (h c (by simp)), ih fun x hx => h x (by simp [hx])]; rfl
theorem hexes (b : List UInt8) : (b.map hexPair).flatten = enc (hexS b) := by
  induction b with
  | nil => rfl
  | cons x r ih =>
    show hexPair x ++ _ = enc (hex2 x.toNat ++ hexS r)
    rw [enc_append, ih, hexPair_enc]
noncomputable def strip0 (l : List Nat) : List Nat := if (lstripL l [48]).length != 0 then lstripL l [48] else [48]
noncomputable def chunkF (b : List UInt8) (k : Nat) : List Nat := strip0 (((hexS b).drop (4 * k)).take 4)
noncomputable def chunksF (b : List UInt8) : List (List Nat) := (List.range 8).map (chunkF b)
theorem cut_nat {α : Type} (xs : List α) {lo hi : Nat} (h1 : lo ≤ hi) (h2 : hi ≤ xs.length) : cut xs (some (lo : Int)) (some (hi : Int)) = (xs.drop lo).take (hi - lo) := by
  unfold cut
  simp only [Option.elim, clipAt_nat]
  rw [Nat.min_eq_left h2, Nat.min_eq_left (Nat.le_trans h1 h2)]
theorem lstripL_len (x y : List Nat) : (lstripL x y).length ≤ x.length := by
  have := len_lstripChars (⟨x.toArray⟩ : Str) ⟨y.toArray⟩
  rw [str_len] at this
  simpa [lstripL, Str.length] using this
theorem strip0_len (x : List Nat) (h : 1 ≤ x.length) : (strip0 x).length ≤ x.length := by
  unfold strip0
  have := lstripL_len x [48]
  split
  · exact this
  · exact h
noncomputable def sStep (i : Nat) (z : Bool) (s : Int × Int × Int × Bool) : Int × Int × Int × Bool :=
  if z = true then (if s.2.2.2 = true then s else (s.1, s.2.1, (i : Int), true))
  else if s.2.2.2 = true then (if s.2.1 < (i : Int) - s.2.2.1 then (s.2.2.1, (i : Int) - s.2.2.1, s.2.2.1, false) else (s.1, s.2.1, s.2.2.1, false)) else s
noncomputable def sRun (z : Nat → Bool) : Nat → Int × Int × Int × Bool
  | 0 => (0, 0, -1, false)
  | m + 1 => sStep m (z m) (sRun z m)
noncomputable def sEnd (s : Int × Int × Int × Bool) : Int × Int := if s.2.2.2 = true then (if s.2.1 < 8 - s.2.2.1 then (s.2.2.1, 8 - s.2.2.1) else (s.1, s.2.1)) else (s.1, s.2.1)
noncomputable def zeroAt (b : List UInt8) (k : Nat) : Bool := chunkF b k == [48]
noncomputable def runOf (b : List UInt8) : Int × Int := sEnd (sRun (zeroAt b) 8)
noncomputable def ffffS : List Nat := [102, 102, 102, 102]
noncomputable def colon2 : List Nat := [58, 58]
noncomputable def v4mapS : List Nat := [58, 58, 102, 102, 102, 102, 58]
noncomputable def embeds (b : List UInt8) (r : Int × Int) : Bool := r.1 == 0 && (r.2 == 6 || (r.2 == 5 && chunkF b 5 == ffffS))
noncomputable def ntoaF (b : List UInt8) : List Nat :=
  if 1 < (runOf b).2 then
    if embeds b (runOf b) = true then (if ((runOf b).2 == 6) = true then colon2 else v4mapS) ++ quadS (b.drop 12)
    else joinL [58] (cut (chunksF b) none (some (runOf b).1)) ++ colon2 ++ joinL [58] (cut (chunksF b) (some ((runOf b).1 + (runOf b).2)) none)
  else joinL [58] (chunksF b)
noncomputable def S5 (σ : St) (s : Int × Int × Int × Bool) : Prop := σ.loc.lookup ("best_start" : Str) = some (.int s.1) ∧ σ.loc.lookup ("best_len" : Str) = some (.int s.2.1) ∧ σ.loc.lookup ("start" : Str) = some (.int s.2.2.1) ∧ σ.loc.lookup ("last_was_zero" : Str) = some (.bool s.2.2.2)
theorem chunk_at (b : List UInt8) {i : Nat} (h : i < 8) : ((chunksF b).map AV.str)[i]? = some (.str (chunkF b i)) := by
  unfold chunksF
  rw [List.map_map, List.getElem?_map, List.getElem?_range h]; rfl
theorem range_item {k i : Nat} {y : AV} (h : (rangeL 0 1 k)[i]? = some y) : y = .int i ∧ i < k := by
  obtain ⟨a, hq2⟩ := (item_of h)
  refine and3 hq2 fun h1 h2 h3 => ?_
  clear hq2
  have hi : i < k := by
    have := (List.getElem?_eq_some_iff.mp h1).1
    simpa using this
  rw [List.getElem?_range hi] at h1
  obtain rfl := Option.some.inj h1
  exact ⟨by rw [h2]; simp, hi⟩
theorem cut_map {α β : Type} (g : α → β) (xs : List α) (lo hi : Option Int) : cut (xs.map g) lo hi = (cut xs lo hi).map g := by
  unfold cut; simp only [List.length_map, List.map_take, List.map_drop]
theorem cut_len {α : Type} (xs : List α) (lo hi : Option Int) : (cut xs lo hi).length ≤ xs.length := by
  unfold cut
  rw [List.length_take, List.length_drop]
  exact Nat.le_trans (Nat.min_le_right _ _) (Nat.sub_le _ _)
theorem cut_mem {α : Type} {xs : List α} {lo hi : Option Int} {x : α} (h : x ∈ cut xs lo hi) : x ∈ xs := List.mem_of_mem_drop (List.mem_of_mem_take h)
theorem joinL_glue (x : List Nat) (ws : List (List Nat)) : joinL x ws = glue x ws := by
  have h := join_glue ⟨x.toArray⟩ (ws.map fun w => (⟨w.toArray⟩ : Str))
  rw [List.map_map] at h
  unfold joinL
  rw [List.map_congr_left (g := id) (fun _ _ => by simp), List.map_id] at h
  refine Eq.trans ?_ h
  rw [← StrLaws.glued_eq_join]; rfl
theorem glue_len {α : Type} (x : List α) {k : Nat} : ∀ (ws : List (List α)), (∀ w ∈ ws, w.length ≤ k) → (glue x ws).length ≤ ws.length * (k + x.length)
  | [], _ => by simp [glue]
  | [p], h => by have := h p (by simp); simp [glue]; (first | lia | omega)
  | p :: q :: r, h => by
    have h1 := h p (by simp)
    have ih := glue_len x (q :: r) fun w hw => h w (List.mem_cons_of_mem _ hw)
    show (p ++ x ++ glue x (q :: r)).length ≤ (r.length + 1 + 1) * (k + x.length)
    rw [Nat.succ_mul]
    simp only [List.length_append, List.length_cons] at ih ⊢
    (first | lia | omega)
theorem sum_len {α : Type} {k : Nat} : ∀ (ws : List (List α)), (∀ w ∈ ws, w.length ≤ k) → (ws.map (·.length)).sum ≤ ws.length * k
  | [], _ => by simp
  | p :: r, h => by
    have h1 := h p (by simp)
    have ih := sum_len r fun w hw => h w (by simp [hw])
    simp only [List.map_cons, List.sum_cons, List.length_cons, Nat.succ_mul]
    (first | lia | omega)
theorem chunk_len (b : List UInt8) (h16 : b.length = 16) {w : List Nat} (h : w ∈ chunksF b) : w.length ≤ 4 := by
  obtain ⟨k, hq3⟩ := (List.mem_map.mp h)
  refine and2 hq3 fun hk he4 => ?_
  clear hq3
  obtain rfl := he4
  rw [List.mem_range] at hk
  have l4 : (((hexS b).drop (4 * k)).take 4).length = 4 := by rw [List.length_take, List.length_drop, hexS_len]; (first | lia | omega)
  exact Nat.le_trans (strip0_len _ (by (first | lia | omega))) (by (first | lia | omega))
theorem join_chunks (b : List UInt8) (h16 : b.length = 16) (lo hi : Option Int) : (((cut (chunksF b) lo hi).map (·.length)).sum + (cut (chunksF b) lo hi).length * [58].length ≤ 16777216) ∧ (joinL [58] (cut (chunksF b) lo hi)).length ≤ 100 := by
  have h1 : (cut (chunksF b) lo hi).length ≤ 8 := Nat.le_trans (cut_len _ _ _) (by simp [chunksF])
  have h2 : ∀ w ∈ cut (chunksF b) lo hi, w.length ≤ 4 := fun w hw => chunk_len b h16 (cut_mem hw)
  have h3 := sum_len _ h2
  have h4 := glue_len [58] _ h2
  rw [joinL_glue]
  simp only [List.length_cons, List.length_nil] at h4 ⊢
  (first | lia | omega)
theorem quadS_len (b : List UInt8) : (quadS b).length ≤ 20 := by
  have z0 := dec_byte_len (b.getD 0 0)
  have z1 := dec_byte_len (b.getD 1 0)
  have z2 := dec_byte_len (b.getD 2 0)
  have z3 := dec_byte_len (b.getD 3 0)
  unfold quadS decB
  simp only [List.length_append, List.length_cons, List.length_nil]
  (first | lia | omega)
noncomputable abbrev R56 (b : List UInt8) (r : RV) : Prop := b.length = 16 ∧ r = .flat (.str (ntoaF b))
noncomputable abbrev E56 (b : List UInt8) (c : Value) : Prop := b.length ≠ 16 ∧ c = .type "ValueError"
set_option maxHeartbeats 2000000 in
theorem q56 {b : List UInt8} {n : Nat} (hsz : b.length ≤ 1000) : Fn (n + 2) 56 [.bytes b] (R56 b) (E56 b) := by
  refine fn_of1 def56 peek56 (by kernel_rfl) fun f hf hfe σ hs1 hs2 => ?_
  refine x_cons ?_
  refine x_if ?_
  refine t_compare ?_
  refine e_callB (id := "len") hf (by kernel_rfl) (by intro w; kernel_rfl) (by kernel_rfl) ?_
  refine a_cons ?_
  refine e_loc hf (by kernel_rfl) (by walk_at "lk") ?_
  refine a_nil ?_
  refine o_len_bytes (by first | (first | lia | omega) | (simp; (first | lia | omega))) ?_
  refine e_int ?_
  refine o_ne_int ?_
  refine tite_of (fun c1 => ?_) (fun c1 => ?_)
  · refine x_cons ?_
    refine x_raiseV (x := "") F.excCall_ValueError F.excRaise_ValueError hf (by kernel_rfl) (by intro w; kernel_rfl) (by kernel_rfl) ?_
    refine a_cons ?_
    refine e_str (l := [73, 80, 118, 54, 32, 97, 100, 100, 114, 101, 115, 115, 101, 115, 32, 97, 114, 101, 32, 49, 54, 32, 98, 121, 116, 101, 115, 32, 108, 111, 110, 103]) (by kernel_rfl) ?_
    refine a_nil ?_
    exact ⟨by simp, by simp at c1; (first | lia | omega), rfl⟩
  have h16 : b.length = 16 := by simp at c1; (first | lia | omega)
  clear c1
  refine x_nil ?_
  let Iz1 : St → Prop := fun σ' => σ'.loc.lookup ("address" : Str) = some (.bytes b) ∧ σ'.loc.lookup ("hex" : Str) = some (.bytes (enc (hexS b)))
  refine x_cut Iz1 ?_ ?_
  · refine x_assign hf (by kernel_rfl) ?_ (by rfl) (by kernel_rfl)
    refine e_meth1 (id := "bytes.join") ?_
    refine e_bytes ?_
    refine ⟨meth_bytes BF.slot_bytes_join BF.type_bytes_join, ?_⟩
    refine a_cons ?_
    refine e_comp (cl := []) (fun _ => true) pairOf hf (by kernel_rfl) (by kernel_rfl) (by kernel_rfl) (by kernel_rfl) (by kernel_rfl) (h := ?_)
    refine it_bytes hf ?_
    refine e_loc hf (by kernel_rfl) (by walk_at "lk") ?_
    have pl : ∀ a ∈ b.map (fun c => AV.int (c.toNat : Int)), a.Plain := by
      intro a h; obtain ⟨x, _, rfl⟩ := List.mem_map.mp h; trivial
    refine ⟨⟨pl, by simp; (first | lia | omega), fun a ha _ => ?_, fun a ha _ f₂ _ hf₂ => ?_, fun a ha f₂ _ hf₂ => rfl⟩, ?_⟩
    · obtain ⟨x, _, rfl⟩ := List.mem_map.mp ha; trivial
    · obtain ⟨x, hq5⟩ := (List.mem_map.mp ha)
      refine and2 hq5 fun _ he6 => ?_
      clear hq5
      obtain rfl := he6
      have bh : hexB.length = 16 := rfl
      have bl : ∀ (lo hi : Option Int), (cut hexB lo hi).length ≤ 16 := fun lo hi => by
        unfold cut; rw [List.length_take, List.length_drop, bh]; (first | lia | omega)
      refine e_binop ?_
      refine e_slice ?_
      refine e_HEX hf₂ (by kernel_rfl) ?_
      refine p_some ?_
      refine e_binop ?_
      refine e_loc hf₂ (by kernel_rfl) (by walk_at "lk") ?_
      refine e_int ?_
      refine o_div_int hf₂ (by first | (first | lia | omega) | (simp; (first | lia | omega))) (by decide) ?_
      refine p_some ?_
      refine e_binop ?_
      refine e_binop ?_
      refine e_loc hf₂ (by kernel_rfl) (by walk_at "lk") ?_
      refine e_int ?_
      refine o_div_int hf₂ (by first | (first | lia | omega) | (simp; (first | lia | omega))) (by decide) ?_
      refine e_int ?_
      refine o_add_int ?_
      refine s_bytes (by rw [bh]; (first | lia | omega)) ?_
      refine e_slice ?_
      refine e_HEX hf₂ (by kernel_rfl) ?_
      refine p_some ?_
      refine e_binop ?_
      refine e_loc hf₂ (by kernel_rfl) (by walk_at "lk") ?_
      refine e_int ?_
      refine o_mod_int (by decide) ?_
      refine p_some ?_
      refine e_binop ?_
      refine e_binop ?_
      refine e_loc hf₂ (by kernel_rfl) (by walk_at "lk") ?_
      refine e_int ?_
      refine o_mod_int (by decide) ?_
      refine e_int ?_
      refine o_add_int ?_
      refine s_bytes (by rw [bh]; (first | lia | omega)) ?_
      refine o_add_bytes (Nat.le_trans (Nat.add_le_add (bl _ _) (bl _ _)) (by (first | lia | omega))) ?_
      rfl
    refine a_nil ?_
    have e1 : ((b.map fun c => AV.int (c.toNat : Int)).filter fun _ => true).map pairOf = (b.map hexPair).map .bytes := by
      rw [List.filter_eq_self.mpr (fun _ _ => rfl), List.map_map, List.map_map]
      exact List.map_congr_left fun x _ => pair_of x
    rw [e1]
    refine o_join_bytes la_new (by simp; (first | lia | omega)) ?_ ?_
    · rw [hexes, enc_low (hexS_low b), List.length_map, hexS_len]; (first | lia | omega)
    · rw [hexes]
      exact ⟨by walk_at "lk", lk_same⟩
  rintro σ1 ⟨k1, k2⟩
  have eL : (enc (hexS b)).length = 32 := by rw [enc_low (hexS_low b), List.length_map, hexS_len]; (first | lia | omega)
  let Iz2 : St → Prop := fun σ' => ∃ j, σ'.loc.lookup ("address" : Str) = some (.bytes b) ∧ σ'.loc.lookup ("hex" : Str) = some (.bytes (enc (hexS b))) ∧ σ'.loc.lookup ("chunks" : Str) = some (.ref j) ∧ ListAt σ' j []
  refine x_cut Iz2 ?_ ?_
  · refine x_assign hf (by kernel_rfl) ?_ (by rfl) (by kernel_rfl)
    refine e_list ?_
    refine a_nil ?_
    refine ⟨by simp, ?_⟩
    exact ⟨_, by walk_at "lk", by walk_at "lk", lk_same, la_new⟩
  rintro σ2 hq7
  obtain ⟨j, hq8⟩ := hq7
  refine and4 hq8 fun m1 m2 m3 m4 => ?_
  clear hq8
  refine x_cons ?_
  refine x_assign hf (by kernel_rfl) ?_ (by rfl) (by kernel_rfl)
  refine e_int ?_
  refine x_cons ?_
  refine x_assign hf (by kernel_rfl) ?_ (by rfl) (by kernel_rfl)
  refine e_callB (id := "len") hf (by kernel_rfl) (by intro w; kernel_rfl) (by kernel_rfl) ?_
  refine a_cons ?_
  refine e_loc hf (by kernel_rfl) (by walk_at "lk") ?_
  refine a_nil ?_
  refine o_len_bytes (by first | (first | lia | omega) | (simp; (first | lia | omega))) ?_
  rw [eL]
  let Iz3 : St → Prop := fun σ' => σ'.loc.lookup ("address" : Str) = some (.bytes b) ∧ σ'.loc.lookup ("chunks" : Str) = some (.ref j) ∧ ListAt σ' j ((chunksF b).map .str)
  refine x_cut Iz3 ?_ ?_
  · let Iz4 : Nat → St → Prop := fun k σ' => ∃ m, m + k = 8 ∧ σ'.loc.lookup ("address" : Str) = some (.bytes b) ∧ σ'.loc.lookup ("hex" : Str) = some (.bytes (enc (hexS b))) ∧ σ'.loc.lookup ("chunks" : Str) = some (.ref j) ∧
      σ'.loc.lookup ("i" : Str) = some (.int ((4 * m : Nat) : Int)) ∧ σ'.loc.lookup ("l" : Str) = some (.int 32) ∧ ListAt σ' j (((List.range m).map (chunkF b)).map .str)
    refine x_while hf (by rw [hfe]) Iz4 8
      ⟨0, rfl, by walk_at "lk", by walk_at "lk", by walk_at "lk", lk_other (by kernel_rfl) lk_same, lk_same, m4⟩ ?_
    rintro k σ' hq9
    obtain ⟨m, hq10⟩ := hq9
    refine and7 hq10 fun hm g1 g2 g3 g4 g5 g6 => ?_
    clear hq10
    refine t_compare ?_
    refine e_loc hf (by kernel_rfl) (by walk_at "lk") ?_
    refine e_loc hf (by kernel_rfl) (by walk_at "lk") ?_
    refine o_lt_int ?_
    refine tite_of (fun c => ?_) (fun c => ?_)
    · have hm8 : m < 8 := by have := of_decide_eq_true c; (first | lia | omega)
      refine x_cut (fun σ'' => σ''.loc.lookup ("address" : Str) = some (.bytes b) ∧ σ''.loc.lookup ("hex" : Str) = some (.bytes (enc (hexS b))) ∧ σ''.loc.lookup ("chunks" : Str) = some (.ref j) ∧
        σ''.loc.lookup ("i" : Str) = some (.int ((4 * m : Nat) : Int)) ∧ σ''.loc.lookup ("l" : Str) = some (.int 32) ∧ ListAt σ'' j (((List.range m).map (chunkF b)).map .str) ∧ σ''.loc.lookup ("chunk" : Str) = some (.str (((hexS b).drop (4 * m)).take 4))) ?_ ?_
      · refine x_assign hf (by kernel_rfl) ?_ (by rfl) (by kernel_rfl)
        refine e_meth0 (id := "bytes.decode") ?_
        refine e_slice ?_
        refine e_loc hf (by kernel_rfl) (by walk_at "lk") ?_
        refine p_some ?_
        refine e_loc hf (by kernel_rfl) (by walk_at "lk") ?_
        refine p_some ?_
        refine e_binop ?_
        refine e_loc hf (by kernel_rfl) (by walk_at "lk") ?_
        refine e_int ?_
        refine o_add_int ?_
        refine s_bytes (by first | exact Nat.le_trans (by assumption) (by decide) | lia | omega) ?_
        refine ⟨meth_bytes FB.slot_bytes_decode FB.type_bytes_decode, ?_⟩
        refine o_decode (l := ((hexS b).drop (4 * m)).take 4) ?_ ?_ ?_ ?_ ?_
        · rw [show ((4 * m : Nat) : Int) + 4 = ((4 * m + 4 : Nat) : Int) by (first | lia | omega), cut_nat _ (by (first | lia | omega)) (by (first | lia | omega)), enc_low (hexS_low b), enc_low (fun c hc => hexS_low b c (List.mem_of_mem_drop (List.mem_of_mem_take hc))), List.map_take, List.map_drop]
          congr 1; (first | lia | omega)
        · intro e
          have := congrArg List.length e
          rw [List.length_take, List.length_drop, hexS_len] at this
          simp at this; (first | lia | omega)
        · exact fun c hc => .inl (hexS_low b c (List.mem_of_mem_drop (List.mem_of_mem_take hc)))
        · rw [List.length_take]; (first | lia | omega)
        exact ⟨by walk_at "lk", by walk_at "lk", by walk_at "lk", by walk_at "lk", by walk_at "lk", by walk_at "la", lk_same⟩
      have l4 : (((hexS b).drop (4 * m)).take 4).length = 4 := by rw [List.length_take, List.length_drop, hexS_len]; (first | lia | omega)
      have ec : strip0 (((hexS b).drop (4 * m)).take 4) = chunkF b m := rfl
      generalize ((hexS b).drop (4 * m)).take 4 = ch at l4 ec
      have s4 := lstripL_len ch [48]
      clear g1 g2 g3 g4 g5 g6
      rintro σ3 hq11
      refine and7 hq11 fun g1 g2 g3 g4 g5 g6 g7 => ?_
      clear hq11
      refine x_cut (fun σ'' => σ''.loc.lookup ("address" : Str) = some (.bytes b) ∧ σ''.loc.lookup ("hex" : Str) = some (.bytes (enc (hexS b))) ∧ σ''.loc.lookup ("chunks" : Str) = some (.ref j) ∧
        σ''.loc.lookup ("i" : Str) = some (.int ((4 * m : Nat) : Int)) ∧ σ''.loc.lookup ("l" : Str) = some (.int 32) ∧ ListAt σ'' j (((List.range m).map (chunkF b)).map .str) ∧ σ''.loc.lookup ("chunk" : Str) = some (.str (chunkF b m))) ?_ ?_
      · refine x_assign hf (by kernel_rfl) ?_ (by rfl) (by kernel_rfl)
        refine e_or2 ?_
        refine e_meth1 (id := "str.lstrip") ?_
        refine e_loc hf (by kernel_rfl) (by walk_at "lk") ?_
        refine ⟨meth_str F.slot_str_lstrip F.type_str_lstrip, ?_⟩
        refine a_cons ?_
        refine e_str (l := [48]) (by kernel_rfl) ?_
        refine a_nil ?_
        refine o_lstrip (by first | (first | lia | omega) | (simp; (first | lia | omega))) ?_
        refine o_truthy_str (by first | exact Nat.le_trans (by assumption) (by decide) | lia | omega) ?_
        refine tite_of (fun c2 => ?_) (fun c2 => ?_)
        · refine ⟨by walk_at "lk", by walk_at "lk", by walk_at "lk", by walk_at "lk", by walk_at "lk", by walk_at "la", ?_⟩
          rw [← ec]; unfold strip0; rw [if_pos c2]; exact lk_same
        refine e_str (l := [48]) (by kernel_rfl) ?_
        refine ⟨by walk_at "lk", by walk_at "lk", by walk_at "lk", by walk_at "lk", by walk_at "lk", by walk_at "la", ?_⟩
        rw [← ec]; unfold strip0; rw [if_neg (by rw [c2]; decide)]; exact lk_same
      clear g1 g2 g3 g4 g5 g6 g7
      rintro σ4 hq12
      refine and7 hq12 fun g1 g2 g3 g4 g5 g6 g7 => ?_
      clear hq12
      refine x_cons ?_
      refine x_expr ?_
      refine e_meth1 (id := "list.append") ?_
      refine e_loc hf (by kernel_rfl) (by walk_at "lk") ?_
      refine ⟨meth_append (by walk_at "la"), ?_⟩
      refine a_cons ?_
      refine e_loc hf (by kernel_rfl) (by walk_at "lk") ?_
      refine a_nil ?_
      refine o_append (by walk_at "la") (by simp; (first | lia | omega)) ?_
      refine x_cons ?_
      refine x_aug hf (by kernel_rfl) (by walk_at "lk") ?_
      refine e_int ?_
      refine o_iadd_int ?_
      refine x_nil ?_
      refine ⟨k - 1, by (first | lia | omega), m + 1, by (first | lia | omega), by walk_at "lk", by walk_at "lk", by walk_at "lk", ?_, by walk_at "lk", ?_⟩
      · rw [show ((4 * (m + 1) : Nat) : Int) = ((4 * m : Nat) : Int) + 4 by (first | lia | omega)]; exact lk_same
      · refine la_set (x := ("i" : Str)) ?_
        rw [List.range_succ, List.map_append, List.map_append]
        exact .inl (mem_put (la_lt g6))
    · have hm8 : m = 8 := by have := of_decide_eq_false c; (first | lia | omega)
      subst hm8
      exact ⟨g1, g3, g6⟩
  rintro σ3 hq13
  refine and3 hq13 fun k1 k2 k3 => ?_
  clear hq13
  refine x_cons ?_
  refine x_assign hf (by kernel_rfl) ?_ (by rfl) (by kernel_rfl)
  refine e_int ?_
  refine x_cons ?_
  refine x_assign hf (by kernel_rfl) ?_ (by rfl) (by kernel_rfl)
  refine e_int ?_
  refine x_cons ?_
  refine x_assign hf (by kernel_rfl) ?_ (by rfl) (by kernel_rfl)
  refine e_unary ?_
  refine e_int ?_
  refine o_neg_int ?_
  refine x_cons ?_
  refine x_assign hf (by kernel_rfl) ?_ (by rfl) (by kernel_rfl)
  refine e_bool ?_
  let Iz7 : St → Prop := fun σ' => σ'.loc.lookup ("address" : Str) = some (.bytes b) ∧ σ'.loc.lookup ("chunks" : Str) = some (.ref j) ∧ ListAt σ' j ((chunksF b).map .str) ∧ S5 σ' (sRun (zeroAt b) 8)
  refine x_cut Iz7 ?_ ?_
  · refine x_for hf (by kernel_rfl) ?_ (by rw [hfe])
    refine it_range hf ?_
    refine e_callT (T := "range") hf (by kernel_rfl) (by intro w; kernel_rfl) (by kernel_rfl) ?_
    refine a_cons ?_
    refine e_int ?_
    refine a_nil ?_
    refine o_range1 ?_
    refine ⟨_, _, _, _, 8, rfl, mem_new, by kernel_rfl, by kernel_rfl, ?_⟩
    let Iz8 : Nat → St → Prop := fun i σ' => σ'.loc.lookup ("address" : Str) = some (.bytes b) ∧ σ'.loc.lookup ("chunks" : Str) = some (.ref j) ∧ ListAt σ' j ((chunksF b).map .str) ∧ S5 σ' (sRun (zeroAt b) i)
    refine ⟨Iz8, ⟨by walk_at "lk", by walk_at "lk", by walk_at "la", lk_new (lk_other (by kernel_rfl) (lk_other (by kernel_rfl) (lk_other (by kernel_rfl) lk_same))), lk_new (lk_other (by kernel_rfl) (lk_other (by kernel_rfl) lk_same)), lk_new (lk_other (by kernel_rfl) lk_same), lk_new lk_same⟩, fun _ q => by simp at q, ?_, fun σ' q => q⟩
    rintro i σ' y hq14 hy f₁ hL hfe₁ hf₁
    refine and4 hq14 fun g1 g2 g3 g4 => ?_
    clear hq14
    obtain ⟨rfl, hi⟩ := range_item hy
    show Es _ _ _ _ _ _
    have en : sRun (zeroAt b) (i + 1) = sStep i (zeroAt b i) (sRun (zeroAt b) i) := rfl
    generalize sRun (zeroAt b) i = st at g4 en
    refine and4 g4 fun h1 h2 h3 h4 => ?_
    have hc := chunk_at b hi
    have hi0 : (i : Int) < 2 ^ 63 := by (first | lia | omega)
    refine x_cons ?_
    refine x_if ?_
    refine t_compare ?_
    refine e_index ?_
    refine e_loc hf₁ (by kernel_rfl) (by walk_at "lk") ?_
    refine e_loc hf₁ (by kernel_rfl) (by walk_at "lk") ?_
    refine i_list (by walk_at "la") (by first | (first | lia | omega) | (simp; (first | lia | omega))) (by first | (first | lia | omega) | (simp; (first | lia | omega))) hc ?_
    refine e_str (l := [48]) (by kernel_rfl) ?_
    refine o_ne_str ?_
    refine tite_of (fun c => ?_) (fun c => ?_)
    · have hz : zeroAt b i = false := by unfold zeroAt; simpa using c
      rw [hz] at en
      refine x_cons ?_
      refine x_if ?_
      refine t_value ?_
      refine e_loc hf₁ (by kernel_rfl) (by walk_at "lk") ?_
      refine o_truthy_bool ?_
      refine tite_of (fun c2 => ?_) (fun c2 => ?_)
      · have es : sStep i false st = (if st.2.1 < (i : Int) - st.2.2.1 then (st.2.2.1, (i : Int) - st.2.2.1, st.2.2.1, false) else (st.1, st.2.1, st.2.2.1, false)) := by
          unfold sStep; rw [if_neg (by decide), if_pos c2]
        rw [es] at en
        refine x_cons ?_
        refine x_assign hf₁ (by kernel_rfl) ?_ (by rfl) (by kernel_rfl)
        refine e_loc hf₁ (by kernel_rfl) (by walk_at "lk") ?_
        refine x_cons ?_
        refine x_assign hf₁ (by kernel_rfl) ?_ (by rfl) (by kernel_rfl)
        refine e_binop ?_
        refine e_loc hf₁ (by kernel_rfl) (by walk_at "lk") ?_
        refine e_loc hf₁ (by kernel_rfl) (by walk_at "lk") ?_
        refine o_sub_int ?_
        refine x_cons ?_
        refine x_if ?_
        refine t_compare ?_
        refine e_loc hf₁ (by kernel_rfl) (by walk_at "lk") ?_
        refine e_loc hf₁ (by kernel_rfl) (by walk_at "lk") ?_
        refine o_gt_int ?_
        refine tite_of (fun c3 => ?_) (fun c3 => ?_)
        · rw [if_pos (of_decide_eq_true c3)] at en
          refine x_cons ?_
          refine x_assign hf₁ (by kernel_rfl) ?_ (by rfl) (by kernel_rfl)
          refine e_loc hf₁ (by kernel_rfl) (by walk_at "lk") ?_
          refine x_cons ?_
          refine x_assign hf₁ (by kernel_rfl) ?_ (by rfl) (by kernel_rfl)
          refine e_loc hf₁ (by kernel_rfl) (by walk_at "lk") ?_
          refine x_nil ?_
          refine x_cons ?_
          refine x_assign hf₁ (by kernel_rfl) ?_ (by rfl) (by kernel_rfl)
          refine e_bool ?_
          refine x_nil (x_nil (x_nil ?_))
          refine ⟨by walk_at "lk", by walk_at "lk", by walk_at "la", ?_⟩
          show S5 _ (sRun (zeroAt b) (i + 1))
          rw [en]
          exact ⟨lk_other (by kernel_rfl) (by walk_at "lk"), lk_other (by kernel_rfl) (by walk_at "lk"), lk_other (by kernel_rfl) (by walk_at "lk"), lk_same⟩
        · rw [if_neg (of_decide_eq_false c3)] at en
          refine x_nil ?_
          refine x_cons ?_
          refine x_assign hf₁ (by kernel_rfl) ?_ (by rfl) (by kernel_rfl)
          refine e_bool ?_
          refine x_nil (x_nil (x_nil ?_))
          refine ⟨by walk_at "lk", by walk_at "lk", by walk_at "la", ?_⟩
          show S5 _ (sRun (zeroAt b) (i + 1))
          rw [en]
          exact ⟨lk_other (by kernel_rfl) (by walk_at "lk"), lk_other (by kernel_rfl) (by walk_at "lk"), lk_other (by kernel_rfl) (by walk_at "lk"), lk_same⟩
      · have es : sStep i false st = st := by
          unfold sStep; rw [if_neg (by decide), if_neg (by rw [c2]; decide)]
        rw [es] at en
        refine x_nil (x_nil (x_nil ?_))
        refine ⟨by walk_at "lk", by walk_at "lk", by walk_at "la", ?_⟩
        show S5 _ (sRun (zeroAt b) (i + 1))
        rw [en]
        exact ⟨by walk_at "lk", by walk_at "lk", by walk_at "lk", by walk_at "lk"⟩
    · have hz : zeroAt b i = true := by unfold zeroAt; simpa using c
      rw [hz] at en
      refine x_cons ?_
      refine x_if ?_
      refine t_not ?_
      refine t_value ?_
      refine e_loc hf₁ (by kernel_rfl) (by walk_at "lk") ?_
      refine o_truthy_bool ?_
      refine tite_of (fun c2 => ?_) (fun c2 => ?_)
      · have es : sStep i true st = (st.1, st.2.1, (i : Int), true) := by
          unfold sStep; rw [if_pos rfl, if_neg (by simpa using c2)]
        rw [es] at en
        refine x_cons ?_
        refine x_assign hf₁ (by kernel_rfl) ?_ (by rfl) (by kernel_rfl)
        refine e_loc hf₁ (by kernel_rfl) (by walk_at "lk") ?_
        refine x_cons ?_
        refine x_assign hf₁ (by kernel_rfl) ?_ (by rfl) (by kernel_rfl)
        refine e_bool ?_
        refine x_nil (x_nil (x_nil ?_))
        refine ⟨by walk_at "lk", by walk_at "lk", by walk_at "la", ?_⟩
        show S5 _ (sRun (zeroAt b) (i + 1))
        rw [en]
        exact ⟨lk_other (by kernel_rfl) (by walk_at "lk"), lk_other (by kernel_rfl) (by walk_at "lk"), lk_other (by kernel_rfl) (by walk_at "lk"), lk_same⟩
      · have es : sStep i true st = st := by
          unfold sStep; rw [if_pos rfl, if_pos (by simpa using c2)]
        rw [es] at en
        refine x_nil (x_nil (x_nil ?_))
        refine ⟨by walk_at "lk", by walk_at "lk", by walk_at "la", ?_⟩
        show S5 _ (sRun (zeroAt b) (i + 1))
        rw [en]
        exact ⟨by walk_at "lk", by walk_at "lk", by walk_at "lk", by walk_at "lk"⟩
  clear k1 k2 k3
  rintro σ4 hq15
  refine and4 hq15 fun k1 k2 k3 k4 => ?_
  clear hq15
  have er : runOf b = sEnd (sRun (zeroAt b) 8) := rfl
  generalize sRun (zeroAt b) 8 = st at k4 er
  refine and4 k4 fun h1 h2 h3 h4 => ?_
  refine x_cut (fun σ' => σ'.loc.lookup ("address" : Str) = some (.bytes b) ∧ σ'.loc.lookup ("chunks" : Str) = some (.ref j) ∧ ListAt σ' j ((chunksF b).map .str) ∧ σ'.loc.lookup ("best_start" : Str) = some (.int (runOf b).1) ∧ σ'.loc.lookup ("best_len" : Str) = some (.int (runOf b).2)) ?_ ?_
  · rw [er]
    unfold sEnd
    refine x_if ?_
    refine t_value ?_
    refine e_loc hf (by kernel_rfl) (by walk_at "lk") ?_
    refine o_truthy_bool ?_
    refine tite_of (fun c2 => ?_) (fun c2 => ?_)
    · rw [if_pos c2]
      refine x_cons ?_
      refine x_assign hf (by kernel_rfl) ?_ (by rfl) (by kernel_rfl)
      refine e_int ?_
      refine x_cons ?_
      refine x_assign hf (by kernel_rfl) ?_ (by rfl) (by kernel_rfl)
      refine e_binop ?_
      refine e_loc hf (by kernel_rfl) (by walk_at "lk") ?_
      refine e_loc hf (by kernel_rfl) (by walk_at "lk") ?_
      refine o_sub_int ?_
      refine x_cons ?_
      refine x_if ?_
      refine t_compare ?_
      refine e_loc hf (by kernel_rfl) (by walk_at "lk") ?_
      refine e_loc hf (by kernel_rfl) (by walk_at "lk") ?_
      refine o_gt_int ?_
      refine tite_of (fun c3 => ?_) (fun c3 => ?_)
      · rw [if_pos (of_decide_eq_true c3)]
        refine x_cons ?_
        refine x_assign hf (by kernel_rfl) ?_ (by rfl) (by kernel_rfl)
        refine e_loc hf (by kernel_rfl) (by walk_at "lk") ?_
        refine x_cons ?_
        refine x_assign hf (by kernel_rfl) ?_ (by rfl) (by kernel_rfl)
        refine e_loc hf (by kernel_rfl) (by walk_at "lk") ?_
        refine x_nil (x_nil ?_)
        exact ⟨by walk_at "lk", by walk_at "lk", by walk_at "la", lk_other (by kernel_rfl) (by walk_at "lk"), by walk_at "lk"⟩
      · rw [if_neg (of_decide_eq_false c3)]
        refine x_nil (x_nil ?_)
        exact ⟨by walk_at "lk", by walk_at "lk", by walk_at "la", lk_other (by kernel_rfl) (by walk_at "lk"), lk_other (by kernel_rfl) (by walk_at "lk")⟩
    · rw [if_neg (by rw [c2]; decide)]
      refine x_nil ?_
      exact ⟨by walk_at "lk", by walk_at "lk", by walk_at "la", h1, h2⟩
  clear k1 k2 k3 h1 h2 h3 h4 er
  rintro σ5 hq16
  refine and5 hq16 fun k1 k2 k3 h1 h2 => ?_
  clear hq16
  have jc := join_chunks b h16
  have hemb : embeds b (runOf b) = ((runOf b).1 == 0 && ((runOf b).2 == 6 || ((runOf b).2 == 5 && chunkF b 5 == ffffS))) := rfl
  have hnt : ntoaF b = if 1 < (runOf b).2 then
    if embeds b (runOf b) = true then (if ((runOf b).2 == 6) = true then colon2 else v4mapS) ++ quadS (b.drop 12)
    else joinL [58] (cut (chunksF b) none (some (runOf b).1)) ++ colon2 ++ joinL [58] (cut (chunksF b) (some ((runOf b).1 + (runOf b).2)) none)
  else joinL [58] (chunksF b) := rfl
  generalize runOf b = r at h1 h2 hemb hnt
  have hc5 := chunk_at b (i := 5) (by (first | lia | omega))
  have cl8 : (chunksF b).length = 8 := by simp [chunksF]
  refine x_cut (fun σ' => σ'.loc.lookup ("thex" : Str) = some (.str (ntoaF b))) ?_ ?_
  · rw [hnt]
    refine x_if ?_
    refine t_compare ?_
    refine e_loc hf (by kernel_rfl) (by walk_at "lk") ?_
    refine e_int ?_
    refine o_gt_int ?_
    refine tite_of (fun c2 => ?_) (fun c2 => ?_)
    · rw [if_pos (of_decide_eq_true c2)]
      refine x_cons ?_
      refine x_if ?_
      refine t_is (embeds b r) (fun s => s = σ5) ?_ ?_
      · rw [hemb]
        refine t_bool ?_
        refine ta_and ?_
        refine t_compare ?_
        refine e_loc hf (by kernel_rfl) (by walk_at "lk") ?_
        refine e_int ?_
        refine o_eq_int ?_
        refine tite_of (fun c3 => ?_) (fun c3 => ⟨by rw [c3]; rfl, rfl⟩)
        rw [c3]
        refine ta_and ?_
        refine t_is (r.2 == 6 || (r.2 == 5 && chunkF b 5 == ffffS)) (fun s => s = σ5) ?_ ?_
        · refine t_bool ?_
          refine ta_or ?_
          refine t_compare ?_
          refine e_loc hf (by kernel_rfl) (by walk_at "lk") ?_
          refine e_int ?_
          refine o_eq_int ?_
          refine tite_of (fun c4 => ⟨by rw [c4]; rfl, rfl⟩) (fun c4 => ?_)
          rw [c4]
          refine ta_or ?_
          refine t_is (r.2 == 5 && chunkF b 5 == ffffS) (fun s => s = σ5) ?_ ?_
          · refine t_bool ?_
            refine ta_and ?_
            refine t_compare ?_
            refine e_loc hf (by kernel_rfl) (by walk_at "lk") ?_
            refine e_int ?_
            refine o_eq_int ?_
            refine tite_of (fun c5 => ?_) (fun c5 => ⟨by rw [c5]; rfl, rfl⟩)
            rw [c5]
            refine ta_and ?_
            refine t_compare ?_
            refine e_index ?_
            refine e_loc hf (by kernel_rfl) (by walk_at "lk") ?_
            refine e_int ?_
            refine i_list (by walk_at "la") (by first | (first | lia | omega) | (simp; (first | lia | omega))) (by first | (first | lia | omega) | (simp; (first | lia | omega))) hc5 ?_
            refine e_str (l := [102, 102, 102, 102]) (by kernel_rfl) ?_
            refine o_eq_str ?_
            refine tite_of (fun c6 => ?_) (fun c6 => ⟨by rw [show ffffS = [102, 102, 102, 102] from rfl, c6]; rfl, rfl⟩)
            exact ta_nil ⟨by rw [show ffffS = [102, 102, 102, 102] from rfl, c6]; rfl, rfl⟩
          rintro s rfl
          refine tite_of (fun c5 => ⟨by rw [c5]; rfl, rfl⟩) (fun c5 => ?_)
          exact ta_nil ⟨by rw [c5]; rfl, rfl⟩
        rintro s rfl
        refine tite_of (fun c5 => ?_) (fun c5 => ⟨by rw [c5]; rfl, rfl⟩)
        exact ta_nil ⟨by rw [c5]; rfl, rfl⟩
      rintro s rfl
      refine tite_of (fun c3 => ?_) (fun c3 => ?_)
      · rw [if_pos c3]
        have ql := quadS_len (b.drop 12)
        refine x_cut (fun σ' => σ'.loc.lookup ("address" : Str) = some (.bytes b) ∧ σ'.loc.lookup ("prefix" : Str) = some (.str (if (r.2 == 6) = true then colon2 else v4mapS))) ?_ ?_
        · refine x_if ?_
          refine t_compare ?_
          refine e_loc hf (by kernel_rfl) (by walk_at "lk") ?_
          refine e_int ?_
          refine o_eq_int ?_
          refine tite_of (fun c4 => ?_) (fun c4 => ?_)
          · rw [if_pos c4]
            refine x_cons ?_
            refine x_assign hf (by kernel_rfl) ?_ (by rfl) (by kernel_rfl)
            refine e_str (l := [58, 58]) (by kernel_rfl) ?_
            refine x_nil ?_
            exact ⟨by walk_at "lk", lk_same⟩
          · rw [if_neg (by rw [c4]; decide)]
            refine x_cons ?_
            refine x_assign hf (by kernel_rfl) ?_ (by rfl) (by kernel_rfl)
            refine e_str (l := [58, 58, 102, 102, 102, 102, 58]) (by kernel_rfl) ?_
            refine x_nil ?_
            exact ⟨by walk_at "lk", lk_same⟩
        have pl : (if (r.2 == 6) = true then colon2 else v4mapS).length ≤ 7 := by split <;> decide
        generalize (if (r.2 == 6) = true then colon2 else v4mapS) = pre at pl ⊢
        rintro σ6 ⟨n1, n2⟩
        refine x_cons ?_
        refine x_assign hf (by kernel_rfl) ?_ (by rfl) (by kernel_rfl)
        refine e_binop ?_
        refine e_loc hf (by kernel_rfl) (by walk_at "lk") ?_
        refine e_callD hf (by kernel_rfl) (by intro w; kernel_rfl) def46.look ?_
        refine a_cons ?_
        refine e_slice ?_
        refine e_loc hf (by kernel_rfl) (by walk_at "lk") ?_
        refine p_some ?_
        refine e_int ?_
        refine p_none ?_
        refine s_bytes (by first | (first | lia | omega) | (simp; (first | lia | omega))) ?_
        refine a_nil ?_
        have e12 : cut b (some 12) none = b.drop 12 := by
          unfold cut
          have : clipAt b.length (12 : Int) = 12 := by rw [show (12 : Int) = ((12 : Nat) : Int) from rfl, clipAt_nat]; (first | lia | omega)
          simp only [Option.elim, this]
          rw [List.take_of_length_le (by rw [List.length_drop]; (first | lia | omega))]
        rw [e12]
        refine o_call hf (q46 (n := 0) (by rw [List.length_drop]; (first | lia | omega))) (by (first | lia | omega)) ⟨trivial, trivial⟩ ?_ (fun _ q => q.elim)
        rintro r2 rfl
        refine o_add_str (by first | exact Nat.le_trans (by assumption) (by decide) | lia | omega) ?_
        refine x_nil (x_nil ?_)
        exact lk_same
      · rw [if_neg (by rw [c3]; decide)]
        refine x_cons ?_
        refine x_assign hf (by kernel_rfl) ?_ (by rfl) (by kernel_rfl)
        refine e_binop ?_
        refine e_binop ?_
        refine e_meth1 (id := "str.join") ?_
        refine e_str (l := [58]) (by kernel_rfl) ?_
        refine ⟨meth_str F.slot_str_join F.type_str_join, ?_⟩
        refine a_cons ?_
        refine e_slice ?_
        refine e_loc hf (by kernel_rfl) (by walk_at "lk") ?_
        refine p_none ?_
        refine p_some ?_
        refine e_loc hf (by kernel_rfl) (by walk_at "lk") ?_
        refine s_list (by walk_at "la") (by first | (first | lia | omega) | (simp; (first | lia | omega))) ?_
        rw [cut_map]
        refine a_nil ?_
        refine o_join la_new (jc _ _).1 ?_
        refine e_str (l := [58, 58]) (by kernel_rfl) ?_
        refine o_add_str (by have := (jc none (some r.1)).2; simp only [List.length_cons, List.length_nil]; (first | lia | omega)) ?_
        refine e_meth1 (id := "str.join") ?_
        refine e_str (l := [58]) (by kernel_rfl) ?_
        refine ⟨meth_str F.slot_str_join F.type_str_join, ?_⟩
        refine a_cons ?_
        refine e_slice ?_
        refine e_loc hf (by kernel_rfl) (by walk_at "lk") ?_
        refine p_some ?_
        refine e_binop ?_
        refine e_loc hf (by kernel_rfl) (by walk_at "lk") ?_
        refine e_loc hf (by kernel_rfl) (by walk_at "lk") ?_
        refine o_add_int ?_
        refine p_none ?_
        refine s_list (by walk_at "la") (by first | (first | lia | omega) | (simp; (first | lia | omega))) ?_
        rw [cut_map]
        refine a_nil ?_
        refine o_join la_new (jc _ _).1 ?_
        refine o_add_str (by have := (jc none (some r.1)).2; have := (jc (some (r.1 + r.2)) none).2; simp only [List.length_append, List.length_cons, List.length_nil]; (first | lia | omega)) ?_
        refine x_nil (x_nil ?_)
        exact lk_same
    · rw [if_neg (of_decide_eq_false c2)]
      refine x_cons ?_
      refine x_assign hf (by kernel_rfl) ?_ (by rfl) (by kernel_rfl)
      refine e_meth1 (id := "str.join") ?_
      refine e_str (l := [58]) (by kernel_rfl) ?_
      refine ⟨meth_str F.slot_str_join F.type_str_join, ?_⟩
      refine a_cons ?_
      refine e_loc hf (by kernel_rfl) (by walk_at "lk") ?_
      refine a_nil ?_
      have e0 : cut (chunksF b) none none = chunksF b := by
        unfold cut; simp
      refine o_join (by walk_at "la") (by have := (jc none none).1; rwa [e0] at this) ?_
      refine x_nil ?_
      exact lk_same
  rintro σ6 n1
  refine x_cons ?_
  refine x_return ?_
  refine e_loc hf (by kernel_rfl) (by walk_at "lk") ?_
  exact ⟨h16, rfl⟩
end

/- # F25 -/
section
open PySem PySem.Calls PyProof.Rows PySem.W

/- ## bytes of a list with an item that is no octet -/
section
variable {prog : Program} {w : World} {A : Around} {E : Value → Shared → Prop} {s : Shared}
theorem bl_bad {R : Result → Shared → Prop} {l I S : Addr} {vs : List Value} {ns : List Int} (hh : A.handled = none) (hi : IntsAre vs ns) (hz : ns.length ≤ sizeLine) (hIS : I ≠ S) (hlI : l ≠ I) (hlS : l ≠ S) :
    ∀ (k i : Nat) (s : Shared) (arr : Array UInt8), ns.length - i = k → (∃ j n, i ≤ j ∧ ns[j]? = some n ∧ ¬ (0 ≤ n ∧ n < 256)) → s.heap.IsList l vs.toArray → s.heap.IsListIter I l i → s.heap.get? S = some { cls := .type "bytearray", data := .bytearray arr } → arr.size ≤ i →
      (∀ hm h' tk e, (∀ b o, b ≠ I → b ≠ S → s.heap.get? b = some o → hm.get? b = some o) → Heap.NewExc hm h' e "ValueError" → R (.error (.ref e)) { s with heap := h', toks := tk }) →
      codeAny (model prog w) A (.builtin "bytes.__new__.loop" ⟨[.type "bytes", .ref I, .ref S], []⟩) R s := by
  have hlen : vs.length = ns.length := hi.length
  intro k
  induction k with
  | zero =>
    rintro i s arr hk ⟨j, n, h1, h2, h3⟩
    exact absurd (Nat.lt_of_lt_of_le (List.getElem?_eq_some_iff.mp h2).1 (Nat.le_trans (Nat.le_of_sub_eq_zero hk) h1)) (Nat.lt_irrefl _)
  | succ k ih =>
    rintro i s arr hk hbad hl hit hS hsz hR
    have hlt : i < ns.length := Nat.lt_of_sub_pos (by rw [hk]; exact Nat.succ_pos _)
    have hlv : i < vs.length := hlen.symm ▸ hlt
    obtain ⟨x, hx⟩ : ∃ x, vs[i]? = some x := ⟨vs[i], List.getElem?_eq_getElem hlv⟩
    obtain ⟨n, t, rfl, hn⟩ := IntsAre.at hi i x hx
    refine codeAny_builtin F.bm_entry_loop ?_
    rw [Around.under_plainId F.bm_plain_loop _]
    show wpAny _ A.in1 (pyNext (.ref I) >>= _) _ _ s
    refine wpAny_bind (wpAny_pyNext_list_item (x := .int n t) hit hl (by simpa using hx) fun h' hit' hs => ?_)
    have hS' := (hs.2 S (Ne.symm hIS)).trans hS
    refine wpAny_bind (wpAny_holding (wpAny_of_eq (rfl : asIndex (.int n t) = pure n) ?_))
    refine wpAny_bind (wpAny_letGo ?_)
    by_cases hr : 0 ≤ n ∧ n < 256
    · refine bm_if_false (Bool.or_eq_false_iff.mpr ⟨decide_eq_false (Int.not_lt.mpr hr.1), decide_eq_false (Int.not_le.mpr hr.2)⟩) ?_
      refine wpAny_bind ?_
      show wpAny _ _ (updateBytearray S (·.push n.toNat.toUInt8)) _ _ _
      unfold updateBytearray
      refine wpAny_bind (wpAny_load hS' ?_)
      show wpAny _ _ (update S (Obj.mapBytearray (·.push n.toNat.toUInt8)) >>= fun _ => lookBehind S) _ _ _
      refine wpAny_bind (wpAny_update hS' ?_)
      have hS₂ : (h'.update S (Obj.mapBytearray (·.push n.toNat.toUInt8))).get? S = some { cls := .type "bytearray", data := .bytearray (arr.push n.toNat.toUInt8) } := Heap.get?_update_self (Obj.mapBytearray (·.push n.toNat.toUInt8)) hS' rfl
      refine wpAny_lookBehind hS₂ ?_ ?_
      · show (if (arr.push n.toNat.toUInt8).size > sizeLine then some "bytearray:memory" else none) = none
        rw [if_neg]
        rw [Array.size_push]
        (first | lia | omega)
      · refine wpAny_pure ⟨plainId_quiet F.bm_plain_loop _, ih (i + 1) { s with heap := h'.update S (Obj.mapBytearray (·.push n.toNat.toUInt8)) } _ ((Nat.sub_add_eq ..).trans (congrArg (· - 1) hk)) ?_ ?_ ?_ hS₂ (by rw [Array.size_push]; (first | lia | omega)) fun hm h3 tk' e hk3 hx => ?_⟩
        · obtain ⟨j, n', h1, h2, h3⟩ := hbad
          refine ⟨j, n', ?_, h2, h3⟩
          rcases Nat.lt_or_ge i j with q | q
          · exact q
          · obtain rfl : i = j := Nat.le_antisymm h1 q
            rw [hn] at h2
            obtain rfl := Option.some.inj h2
            exact absurd hr h3
        · exact (hl.extBut hs.extBut hlI).extBut (Heap.SameBut.update ..).extBut hlS
        · exact hit'.extBut (Heap.SameBut.update ..).extBut hIS
        · exact hR hm h3 tk' e (fun b o hbI hbS e => hk3 b o hbI hbS ((Heap.get?_update_other _ _ (Ne.symm hbS)).trans (hs.extBut b o hbI e))) hx
    · refine bm_if_true (by
        simp only [Bool.or_eq_true, decide_eq_true_eq]
        (first | lia | omega)) ?_
      refine wpAny_bind (wpAny_rule ?_)
      refine wpAny_bind ?_
      exact_raiseError plainExc_ValueError hh (fun h2 tk e hx => hR _ h2 tk e (fun b o hbI hbS e => hs.extBut b o hbI e) hx)
theorem bn_bad {l : Addr} {vs : List Value} {ns : List Int} {Q : Value → Shared → Prop} (hh : A.handled = none) (hl : s.heap.IsList l vs.toArray) (hi : IntsAre vs ns) (hz : ns.length ≤ sizeLine) (hbad : ∃ n ∈ ns, ¬ (0 ≤ n ∧ n < 256))
    (hE : ∀ hm h' tk e, (∀ b o, s.heap.get? b = some o → hm.get? b = some o) → Heap.NewExc hm h' e "ValueError" → E (.ref e) { s with heap := h', toks := tk }) :
    codeAny (model prog w) A (.call (.builtin "bytes.__new__") ⟨[.type "bytes", .ref l], []⟩) (wants Q E) s := by
  have hT : s.TypeIs (.ref l) "list" := hl.typeIs
  obtain ⟨ol, hol, hoc, nl, hod⟩ := id hl
  have hl₁ : (s.heap.push { cls := .type "list_iterator", data := .fields #[.ref l, .int 0 0] }).IsList l vs.toArray := hl.push _
  have hT₁ : ({ s with heap := s.heap.push { cls := .type "list_iterator", data := .fields #[.ref l, .int 0 0] } } : Shared).TypeIs (.ref l) "list" := Heap.IsList.typeIs (s := { s with heap := s.heap.push { cls := .type "list_iterator", data := .fields #[.ref l, .int 0 0] } }) hl₁
  have hI : ((s.heap.push { cls := .type "list_iterator", data := .fields #[.ref l, .int 0 0] }).push { cls := .type "bytearray", data := .bytearray #[] }).IsListIter s.heap.objs.size l 0 :=
    ⟨_, Heap.get?_push_of_some _ (Heap.get?_push_size _ rfl), rfl, rfl⟩
  have hlt : l < s.heap.objs.size := Heap.lt_size hol
  have hzz : (s.heap.push { cls := .type "list_iterator", data := .fields #[.ref l, .int 0 0] }).objs.size = s.heap.objs.size + 1 := Heap.size_push _ _
  have main := bl_bad (prog := prog) (w := w) (A := A) (R := wants Q E) (l := l) (I := s.heap.objs.size) (S := (s.heap.push { cls := .type "list_iterator", data := .fields #[.ref l, .int 0 0] }).objs.size) hh hi hz (by rw [hzz]; exact Nat.ne_of_lt (Nat.lt_succ_self _)) (Nat.ne_of_lt hlt) (by rw [hzz]; exact Nat.ne_of_lt (Nat.lt_succ_of_lt hlt))
    ns.length 0 { s with heap := (s.heap.push { cls := .type "list_iterator", data := .fields #[.ref l, .int 0 0] }).push { cls := .type "bytearray", data := .bytearray #[] } } #[] rfl (by
      obtain ⟨n, hn, hb⟩ := hbad
      obtain ⟨j, hj⟩ := List.getElem?_of_mem hn
      exact ⟨j, n, Nat.zero_le _, hj, hb⟩) (hl₁.push _) hI (Heap.get?_push_size _ rfl) (Nat.le_refl _)
    fun hm h' t e hk hx => hE hm h' t e (fun b o q => hk b o (Nat.ne_of_lt (Heap.lt_size q)) (by rw [hzz]; exact Nat.ne_of_lt (Nat.lt_succ_of_lt (Heap.lt_size q))) (Heap.get?_push_of_some _ (Heap.get?_push_of_some _ q))) hx
  refine codeAny_of_tree ?_
  show wpAny _ A.in1 (do checkBuiltinCall "bytes.__new__" ⟨[.type "bytes", .ref l], []⟩; again (.builtin "bytes.__new__" ⟨[.type "bytes", .ref l], []⟩)) _ _ s
  refine wpAny_bind (wpAny_of_eq (F.bm_newCall _) (wpAny_pure ⟨plainId_quiet F.bm_plain _, codeAny_builtin F.bm_entry ?_⟩))
  rw [Around.under_plainId F.bm_plain _]
  unfold Builtin.«bytes.__new__»
  refine wpAny_bind (wpAny_of_eq (a := true) rfl (bm_if_false rfl (wpAny_bind (wpAny_of_eq F.bm_sub (bm_if_false rfl ?_)))))
  refine wpAny_bind (wpAny_of_eq (F.bm_bind _) (wpAny_bind (wpAny_of_eq (a := ()) rfl (wpAny_bind (wpAny_of_eq (a := ()) rfl (bm_if_false rfl ?_))))))
  refine wpAny_bind (wpAny_specialOf hT F.bm_no_bytes (wpAny_bind (wpAny_bind ?_)))
  show wpAny _ _ (load l >>= _) _ _ _
  refine wpAny_bind (wpAny_load hol ?_)
  rw [hod]
  refine wpAny_pure (wpAny_pure (bm_if_false rfl (wpAny_bind (wpAny_specialOf hT F.bm_no_index (bm_if_true rfl ?_)))))
  first
    | show wpAny _ _ (Builtin.Bytes.buffer? "bytes.__new__" (.ref l) true >>= _) _ _ _
    | (refine wpAny_bind ?_; show wpAny _ _ (Builtin.Bytes.buffer? "bytes.__new__" (.ref l) true >>= _) _ _ _)
  refine wpAny_bind ?_
  unfold Builtin.Bytes.buffer?
  refine wpAny_bind (wpAny_specialOf hT F.bm_no_buffer (wpAny_bind (wpAny_specialOf hT F.bm_no_buffer (wpAny_pure ?_))))
  refine wpAny_bind (wpAny_tryCatch (wpAny_pyIter_list hl (wpAny_bind (wpAny_holding ?_))))
  unfold Builtin.Bytes.lengthHint
  refine wpAny_bind (wpAny_specialOf hT₁ slot_list_len.lookup ?_)
  dsimp only
  rw [F.bm_split]
  dsimp only
  refine wpAny_bind (wpAny_isInstance hT₁ F.bm_sub_list (bm_if_false rfl (bm_if_true (by decide +kernel) (wpAny_pure (wpAny_bind ?_)))))
  unfold Builtin.Bytes.newBytearray
  refine wpAny_newObj_type ?_ (Nat.zero_le _)
  first
    | exact wpAny_pure ⟨plainId_quiet F.bm_plain_loop _, main⟩
    | exact wpAny_pure (wpAny_pure ⟨plainId_quiet F.bm_plain_loop _, main⟩)
theorem call_bytes_bad {l : Addr} {vs : List Value} {ns : List Int} {Q : Value → Shared → Prop} (hl : s.heap.IsList l vs.toArray) (hi : IntsAre vs ns) (hz : vs.length ≤ sizeLine) (hh : A.handled = none) (hbad : ∃ n ∈ ns, ¬ (0 ≤ n ∧ n < 256))
    (hE : ∀ hm h' tk e, (∀ b o, s.heap.get? b = some o → hm.get? b = some o) → Heap.NewExc hm h' e "ValueError" → E (.ref e) { s with heap := h', toks := tk }) : wpAny (model prog w) A (call (.type "bytes") [.ref l]) Q E s :=
  callType_codes (Q₁ := fun _ _ => False) F.bm_called (F.bm_typeCall _) F.entry_object_init (bn_bad hh hl hi (by rw [← hi.length]; exact hz) hbad hE) fun obj s₁ h₁ => h₁.elim
end

section
variable {α β γ δ : Type} {f : Fm} {env : Env} {n : Nat} {Ψ : Value → Prop} {ρ : List Addr} {σ : St} {s : Shared} {Φ : AV → St → Prop}
theorem o_bytes_bad {j : Nat} {xs : List Int} (hf : FmOk f env n) (hj : ListAt σ j (xs.map .int)) (hbad : ∃ x ∈ xs, ¬ (0 ≤ x ∧ x < 256)) (hsz : xs.length ≤ 1000000) (hΨ : Ψ (.type "ValueError")) :
    OpN f (fun vs => call (.type "bytes") vs) VR [.ref j] σ Φ Ψ := by
  intro ρ vs hv s r
  obtain ⟨v, rfl, hv'⟩ := vrs1 hv
  obtain ⟨a, us, rfl, hl, hw⟩ := r.isList hj hv'
  refine call_bytes_bad (vs := us.toList) (by simpa using hl) (ints_of hw) (by rw [paired_length hw, sizeLine_eq]; simp; (first | lia | omega)) hf.handled hbad (fun hm h' tk e hk hx => ?_)
  obtain ⟨ob, t, h1, h2, h3⟩ := hx.there
  have hn : s.heap.get? e = none := by
    cases q : s.heap.get? e with
    | none => rfl
    | some o => have := hk _ _ q; rw [hx.new] at this; (first | exact nn this | exact sn this | exact tf this | exact ft this | cases this)
  exact ⟨_, h2 ▸ r.exn hf (tk := tk) (fun b o q => hx.keeps _ _ (hk b o q)) hn h1 h3 rfl rfl, hΨ⟩
end
end

/- # F26 -/
section
open PySem PySem.Calls PyProof.Rows PySem.W

/- ## a new exception of a built-in class caught, its context known -/
section
variable {M : Model} {A : Around} {E : Value → Shared → Prop} {s : Shared}
/- e held, its trace T laid, nothing in flight, no context -/
structure Caught (H0 : Heap) (l : List Env) (e : Addr) (X : String) (h h' : Heap) : Prop where
  stays : H0.StaysIn h'
  frames : h'.FunFrames H0 l
  up : ∀ b o, h.get? b = some o → (∀ vs, o.data ≠ .fields vs) → ∃ sl, h'.get? b = some { o with slots := sl }
  exc : ∃ oe vs T oT ts, h'.get? e = some oe ∧ oe.cls = .type X ∧ oe.data = .fields vs ∧ vs[1]? = some (.ref T) ∧ vs[2]? = some .none ∧ H0.get? T = none ∧ T ≠ e ∧ h'.get? T = some oT ∧ oT.data = .fields ts ∧ ts[3]? = some .none
theorem caught_new {H0 : Heap} {env fenv : Env} {outer : List Env} {L e : Addr} {oe : Obj} {vs : Array Value} {X : String} {Q : Unit → Shared → Prop}
    (hfr : A.frames = some (fenv :: outer)) (hl : s.heap.FunFrames H0 (fenv :: outer)) (hf : fenv.frame = some L) (henv : env.frame = some L) (hfo : frameOf env = frameOf fenv)
    (he : s.heap.get? e = some oe) (hkb : H0.StaysIn s.heap) (hen : H0.get? e = none) (hc : oe.cls = .type X) (hd : oe.data = .fields vs) (h1 : vs[1]? = some .none) (h2 : vs[2]? = some .none)
    (h : ∀ h', Caught H0 (fenv :: outer) e X s.heap h' → Q () { s with heap := h' }) :
    wpAny M A (noteFrame (.ref e) env) (fun _ s' => wpAny M A (setFlight (.ref e) none) Q E s') E s := by
  have hnote : noteFrame (.ref e) env = noteFrame (.ref e) fenv := by unfold noteFrame; rw [henv, hf, hfo]
  rw [hnote]
  unfold noteFrame
  simp only [hf]
  refine wpAny_bind (wpAny_field he hd h1 ?_)
  rw [if_neg (by decide)]
  have hsz : 1 < vs.size := (Array.getElem?_eq_some_iff.mp h1).1
  have hene : e ∉ (fenv :: outer).filterMap (·.frame) := fun hm => by
    obtain ⟨_, o, ho, hnf⟩ := hl.mem hm
    rw [he] at ho; injection ho with ho; subst ho; exact hnf vs hd
  refine wpAny_bind (wpAny_frameOf_fun hfr hl hf fun h₁ hs₁ => ?_)
  refine wpAny_bind (wpAny_entryPlaceOf fun pl hpl => ?_)
  unfold EntryCells.newEntry newFields
  refine wpAny_bind (wpAny_newObj_type ?_ (hpl.sizeOk5 _ _ _ _ _))
  have he₁ : h₁.get? e = some oe := (hs₁.2.1 e hene).trans he
  have kb₁ : H0.StaysIn h₁ := fun b o hbo => (hs₁.2.1 b fun hm => by rw [(hl.mem hm).1] at hbo; (first | exact nn hbo | exact sn hbo | exact tf hbo | exact ft hbo | cases hbo)).trans (hkb b o hbo)
  generalize hTO : ({ cls := .type "traceback", dict := none, data := .fields ([Value.none, .ref L, .none, rawInt L, .none] ++ (if pl.isEmpty then List.replicate 6 Value.none else pl)).toArray } : Obj) = TO
  have hTOd : TO.data = .fields ([Value.none, .ref L, .none, rawInt L, .none] ++ (if pl.isEmpty then List.replicate 6 Value.none else pl)).toArray := by rw [← hTO]
  have hTOf : TO.isFreed = false := by rw [← hTO]; rfl
  generalize hts : ([Value.none, .ref L, .none, rawInt L, .none] ++ (if pl.isEmpty then List.replicate 6 Value.none else pl)).toArray = ts at hTOd
  have hts3 : 3 < ts.size := by rw [← hts]; simp only [List.size_toArray, List.length_append, List.length_cons, List.length_nil]; (first | lia | omega)
  have he₂ := Heap.get?_push_of_some (h := h₁) TO he₁
  refine wpAny_setField he₂ hd hsz ?_
  have hTe : h₁.objs.size ≠ e := Nat.ne_of_gt (Heap.lt_size he₁)
  have hd₃ := Obj.data_mapFields hd (·.setIfInBounds 1 (Value.ref h₁.objs.size))
  have he₃ := Heap.get?_update_self (Obj.mapFields (·.setIfInBounds 1 (Value.ref h₁.objs.size))) he₂ (Obj.isFreed_of_fields hd₃)
  have hT₃ := (Heap.get?_update_other (h₁.push TO) (Obj.mapFields (·.setIfInBounds 1 (Value.ref h₁.objs.size))) (Ne.symm hTe)).trans (Heap.get?_push_size h₁ hTOf)
  unfold setFlight
  refine wpAny_bind (wpAny_field he₃ hd₃ (x := .ref h₁.objs.size) (by simp [hsz]) ?_)
  rw [if_pos (show (Value.ref h₁.objs.size != Value.none) = true from by simp)]
  refine wpAny_setField hT₃ hTOd hts3 (h _ ?_)
  have keep : ∀ b o, b ≠ e → h₁.get? b = some o →
      (((h₁.push TO).update e (Obj.mapFields (·.setIfInBounds 1 (Value.ref h₁.objs.size)))).update h₁.objs.size (Obj.mapFields (·.setIfInBounds 3 ((none : Option Addr).elim Value.none fun f => rawInt f)))).get? b = some o := fun b o hbe hb => by
    have hbT : h₁.objs.size ≠ b := Nat.ne_of_gt (Heap.lt_size hb)
    rw [Heap.get?_update_other _ _ hbT, Heap.get?_update_other _ _ (Ne.symm hbe)]
    exact Heap.get?_push_of_some _ hb
  have noRecord : ∀ b o, s.heap.get? b = some o → (∀ vs, o.data ≠ .fields vs) → b ≠ e := fun b o hb hnf q => by
    rw [q, he] at hb; injection hb with hb; subst hb; exact hnf vs hd
  refine ⟨fun b o hbo => keep b o (fun q => by rw [q, hen] at hbo; (first | exact nn hbo | exact sn hbo | exact tf hbo | exact ft hbo | cases hbo)) (kb₁ b o hbo), hl.of_keeps fun b o hb hnf => ?_, fun b o hb hnf => ?_, ?_⟩
  · obtain ⟨sl, hs⟩ := hs₁.2.2 b o hb
    exact ⟨_, keep b _ (noRecord b o hb hnf) hs, rfl⟩
  · obtain ⟨sl, hs⟩ := hs₁.2.2 b o hb
    exact ⟨sl, keep b _ (noRecord b o hb hnf) hs⟩
  · refine ⟨_, _, h₁.objs.size, _, _, (Heap.get?_update_other _ _ hTe).trans he₃, (Obj.cls_mapFields _ _).trans hc, hd₃, by simp [hsz], by rw [Array.getElem?_setIfInBounds_ne (by decide)]; exact h2, kb₁.fresh, hTe,
      Heap.get?_update_self _ hT₃ (Obj.isFreed_of_fields (Obj.data_mapFields hTOd _)), Obj.data_mapFields hTOd _, ?_⟩
    rw [Array.getElem?_setIfInBounds_self_of_lt hts3]; rfl
/- and again -/
theorem Caught.again {H0 h₀ : Heap} {l : List Env} {e : Addr} {X : String} {Q : Unit → Shared → Prop} (c : Caught H0 l e X h₀ s.heap) (h : ∀ h', Caught H0 l e X h₀ h' → Q () { s with heap := h' }) : wpAny M A (setFlight (.ref e) none) Q E s := by
  obtain ⟨oe, vs, T, oT, ts, he, hc, hd, h1, h2, hnT, hTe, hT, hdT, h3⟩ := c.exc
  have hsz3 : 3 < ts.size := (Array.getElem?_eq_some_iff.mp h3).1
  unfold setFlight
  refine wpAny_bind (wpAny_field he hd h1 ?_)
  rw [if_pos (show (Value.ref T != Value.none) = true from by simp)]
  refine wpAny_setField hT hdT hsz3 (h _ ?_)
  have other : ∀ b, b ≠ T → ∀ g, (s.heap.update T g).get? b = s.heap.get? b := fun b hb g => Heap.get?_update_other _ _ (Ne.symm hb)
  have noRecord : ∀ b o, s.heap.get? b = some o → (∀ vs, o.data ≠ .fields vs) → b ≠ T := fun b o hb hnf q => by
    rw [q, hT] at hb; injection hb with hb; subst hb; exact hnf ts hdT
  refine ⟨fun b o hbo => (other b (fun q => by rw [q, hnT] at hbo; (first | exact nn hbo | exact sn hbo | exact tf hbo | exact ft hbo | cases hbo)) _).trans (c.stays b o hbo), c.frames.of_keeps fun b o hb hnf => ⟨o, (other b (noRecord b o hb hnf) _).trans hb, rfl⟩, fun b o hb hnf => ?_, ?_⟩
  · obtain ⟨sl, hs⟩ := c.up b o hb hnf
    exact ⟨sl, (other b (noRecord b _ hs hnf) _).trans hs⟩
  · refine ⟨oe, vs, T, _, _, (other e (Ne.symm hTe) _).trans he, hc, hd, h1, h2, hnT, hTe, Heap.get?_update_self _ hT (Obj.isFreed_of_fields (Obj.data_mapFields hdT _)), Obj.data_mapFields hdT _, ?_⟩
    rw [Array.getElem?_setIfInBounds_self_of_lt hsz3]; rfl
end
end

/- # F27 -/
section
open PySem PySem.Calls PyProof.Rows PySem.W


theorem entry_unchain : entryFor table "proto.unchain" = some Builtin.«proto.unchain» := by first | exact entryFor_of_fast (by kernel_rfl) | exact entryFor_of_tree (by kernel_rfl)
theorem plain_unchain : plainId "proto.unchain" = true := by decide +kernel
section
variable {prog : Program} {w : World} {A : Around} {E : Value → Shared → Prop} {s : Shared} {env : Env}
variable {nm q : Str} {C N : Addr} {bs bm : List Value} {hdct : Bool} {sn : List Str} {sub : List Value} {ab : Bool} {col : Option Bool} {dd : Option Addr} {k0 k1 k2 k3 k5 : Option Value} {B newId initId : String} {bmB : List Value}
theorem raise_held {x : Str} {np pos : Pos} {mN : Str → Option Value} {Q : Flow → Shared → Prop} (F : ExcBaseFacts B newId initId bmB) (T : OwnTail s.heap bmB bm) {e0 : Addr} {oe0 : Obj} {vs0 : Array Value} (hh : A.handled = some (.ref e0)) (he0 : s.heap.get? e0 = some oe0) (hd0 : oe0.data = .fields vs0) (h20 : vs0[2]? = some .none)
    (hC : s.heap.get? C = some (excClassObj nm q C N bs bm hdct sn sub ab col dd k0 k1 k2 k3 k5 newId)) (hn : s.heap.Ns N mN) (hni : mN "__init__" = none)
    (hx : wpAny (model prog w) A (eval (.Name x np) env) (fun v s₁ => v = .ref C ∧ s₁ = s) E s)
    (h : ∀ h' e, Heap.MadeExcOf s.heap h' e (.ref C) [] → E (.ref e) { s with heap := h'.update e (Obj.mapFields (·.setIfInBounds 2 (.ref e0))) }) :
    wpAny (model prog w) A (exec (.Raise (some (.Name x np)) none pos) env) Q E s := by
  have hbase : bm.contains (.type "BaseException") = true := T.hasType F.hasBase
  have hcB : (Value.ref C :: bm).contains (.type "BaseException") = true := by rw [List.contains_cons, hbase, Bool.or_true]
  show wpAny (model prog w) A (do standAt pos; raiseStmt env (some (do let v ← eval (.Name x np) env; standAt pos; pure v)) none) Q E s
  refine wpAny_bind (wpAny_standAt ?_)
  unfold raiseStmt
  dsimp only
  refine wpAny_bind (wpAny_bind (wpAny_mono hx (fun v s₁ h₁ => wpAny_bind (wpAny_standAt (wpAny_pure ?_))) fun _ _ e => e))
  obtain ⟨rfl, hs₁⟩ := h₁
  subst s₁
  obtain ⟨hp, g, d, tk, os⟩ := s
  refine wpAny_bind (wpAny_pure ?_)
  dsimp only
  refine wpAny_bind (wpAny_holding ?_)
  unfold excFromValue isExcClass
  refine wpAny_bind (wpAny_bind (m := isType (.ref C)) (isType_exc hC ?_))
  rw [if_pos rfl]
  refine wpAny_isSubtype_exc hC ?_
  rw [hcB, if_pos rfl]
  refine wpAny_bind (wpAny_call_exc_subT F T hC hn hni (fun h' e hm => ?_) (Nat.zero_le _))
  obtain ⟨t, ht, _, _⟩ := hm.there
  have hC' := hm.keeps _ _ hC
  have inst : ∀ {Q' : Bool → Shared → Prop}, Q' true ⟨h', g, d, tk, os⟩ → wpAny (model prog w) A (isInstance (.ref e) (.type "BaseException")) Q' E ⟨h', g, d, tk, os⟩ := by
    intro Q' hq
    repeat (any_goals (first | with_reducible refine wpAny_loadPart_at ht ?_ | (with_reducible refine wpAny_isSubtype_exc hC' ?_; rw [hcB]) | assumption | wp_step))
  refine wpAny_bind (inst ?_)
  simp only [Bool.not_true, Bool.false_eq_true, if_false]
  refine wpAny_pure ?_
  refine wpAny_bind (m := isType (.ref C)) (isType_exc hC' ?_)
  rw [if_pos rfl]
  refine wpAny_bind (wpAny_holding ?_)
  unfold raisedFor
  rw [if_neg (by decide)]
  have ty : ∀ {Q' : Value → Shared → Prop}, Q' (.ref C) ⟨h', g, d, tk, os⟩ → wpAny (model prog w) A (typeOf (.ref e)) Q' E ⟨h', g, d, tk, os⟩ := by
    intro Q' hq
    repeat (any_goals (first | with_reducible refine wpAny_loadPart_at ht ?_ | assumption | wp_step))
  have isub : ∀ {Q' : Value → Shared → Prop}, Q' (.bool true) ⟨h', g, d, tk, os⟩ → wpAny (model prog w) A (call (.builtin "issubclass") [.ref C, .ref C]) Q' E ⟨h', g, d, tk, os⟩ := by
    intro Q' hq
    exact call_issubclass (s := ⟨h', g, d, tk, os⟩) issubclass_exc ⟨hC', hq⟩
  refine wpAny_bind (wpAny_bind (m := typeOf (.ref e)) (ty ?_))
  refine wpAny_pure (wpAny_bind (isub (wpAny_bind (wpAny_truthy_bool ?_))))
  dsimp only
  rw [if_pos rfl]
  refine wpAny_pure ?_
  unfold setFlight raiseNew
  refine wpAny_bind (wpAny_bind (wpAny_field (i := 1) (x := Value.none) ht rfl rfl ?_))
  rw [if_neg (by decide)]
  refine wpAny_pure (wpAny_bind (wpAny_handled ?_))
  rw [hh]
  have hne : e0 ≠ e := fun q => by rw [q] at he0; rw [hm.new] at he0; (first | exact nn he0 | exact sn he0 | exact tf he0 | exact ft he0 | cases he0)
  show wpAny _ _ (if (Value.ref e0 != Value.ref e) = true then (do
      let _ ← holding [Value.ref e] (runValue (.builtin "proto.unchain" ⟨[.ref e, .ref e0, .ref e0, .bool false], []⟩))
      let _ ← updateField e 2 (.ref e0)
      throw (.ref e)) else throw (.ref e)) _ _ _
  rw [if_pos (by simpa using hne)]
  refine wpAny_bind (wpAny_holding (wpAny_runValue (codeAny_builtin entry_unchain ?_)))
  rw [Around.under_plainId plain_unchain _]
  unfold Builtin.«proto.unchain»
  have he0' : h'.get? e0 = some oe0 := hm.keeps _ _ he0
  refine wpAny_bind (wpAny_field he0' hd0 h20 ?_)
  rw [if_pos (by decide)]
  refine wpAny_bind (wpAny_pure ?_)
  refine wpAny_pure ?_
  show wpAny _ _ (setField (.ref e) 2 (.ref e0) >>= _) _ _ _
  exact wpAny_bind (wpAny_setField ht rfl (by simp) (wpAny_throw (h h' e hm)))
end
end

/- # F28 -/
section
open PySem PySem.Calls PyProof.Rows PySem.W

section
variable {α β γ δ : Type} {f : Fm} {env : Env} {n : Nat} {Ψ : Value → Prop} {ρ : List Addr} {σ : St} {s : Shared}

/- an exception of a built-in class, just made -/
structure FreshX (f : Fm) (X : String) (e : Value) (s : Shared) : Prop where
  stays : f.H0.StaysIn s.heap
  up : ∀ b o, f.he b = some o → (∀ vs, o.data ≠ .fields vs) → ∃ sl, s.heap.get? b = some { o with slots := sl }
  frames : s.heap.FunFrames f.H0 (f.fenv :: f.outer)
  gens : s.gens = f.sg
  drawn : s.drawn = f.sd
  os : s.os = f.so
  exc : ∃ ea oe vs, e = .ref ea ∧ f.H0.get? ea = none ∧ s.heap.get? ea = some oe ∧ oe.cls = .type X ∧ oe.data = .fields vs ∧ vs[1]? = some .none ∧ vs[2]? = some .none
theorem Rep.freshX (r : Rep f ρ σ s) (hf : FmOk f env n) {hm h' : Heap} {tk : Nat} {e : Addr} {X : String} (hk : ∀ b o, s.heap.get? b = some o → hm.get? b = some o) (hx : Heap.NewExc hm h' e X) : FreshX f X (.ref e) { s with heap := h', toks := tk } := by
  obtain ⟨ob, t, h1, h2, h3⟩ := hx.there
  have hk' : ∀ b o, s.heap.get? b = some o → h'.get? b = some o := fun b o q => hx.keeps _ _ (hk b o q)
  refine ⟨fun b o x => hk' b o (r.stays hf b o x), fun b o x _ => ⟨o.slots, hk' b o (r.keep b o x)⟩, (r.frames hf).of_keeps fun b o x _ => ⟨o, hk' b o x, rfl⟩, r.gens, r.drawn, r.os, e, ob, _, rfl, ?_, h1, h2, h3, rfl, rfl⟩
  cases q : f.H0.get? e with
  | none => rfl
  | some o => have := hk _ _ (r.stays hf e o q); rw [hx.new] at this; (first | exact nn this | exact sn this | exact tf this | exact ft this | cases this)

theorem x_try_reraise {GG : Prop} {body : List Stmt} {T : Str} {TT X : String} {x : Str} {np rp hpos rpos pos : Pos} {C : Addr} {B newId initId : String} {bmB : List Value} {Φ : AF → St → Prop} (hf : FmOk f env n) (hee : frameOf env = frameOf f.fenv)
    (hbody : ∀ ρ s, Rep f ρ σ s → wpAny (model pw f.w) f.A (execs body env) (PV f ρ FR Φ) (fun e s => FreshX f X e s ∧ GG) s)
    (hT : env.kindOf T = some .globalImplicit) (hTn : ∀ w, nsIn (KK w) mainGlobals T = some none) (hTv : bootBuiltins T = some (.type TT)) (hTne : T ≠ "__name__") (hTd : (T == ("__debug__" : Str)) = false)
    (hexc : isSubtype (.type TT) (.type "BaseException") = pure true) (hnt : isSubtype (.type ((Manifest.find? TT).elim "type" fun x => x.metatype)) (.type "tuple") = pure false) (hsub : isSubtype (.type X) (.type TT) = pure true)
    (hx : env.kindOf x = some .globalImplicit) (hn : ∀ w, nsIn (KK w) mainGlobals x = some (some (.ref C))) (hq : ∀ w, excIn (KK w) C bmB newId = true) (F : ExcBaseFacts B newId initId bmB) (hΨ : GG → Ψ (.ref C)) (hd : (x == ("__debug__" : Str)) = false := by kernel_rfl) :
    Ex f (.Try body [.ExceptHandler (some (.Name T np)) none [.Raise (some (.Name x rp)) none rpos] hpos] [] [] pos) env σ Φ Ψ := fun ρ s r => by
  refine wpAny_Try_except (wpAny_mono (hbody ρ s r) (fun fl s₁ q => ?_) fun e s₁ q => ?_)
  · cases fl <;> first | exact wpAny_execs_nil q | exact q
  obtain ⟨q, hgg⟩ := q
  obtain ⟨ea, oe, vs, rfl, hen, he, hc, hdd, h1, h2⟩ := q.exc
  obtain ⟨mg, mb, G⟩ := hf.g
  obtain ⟨loose, mean, Tp⟩ := G.top
  refine caught_new hf.frames q.frames hf.ff hf.efr hee he q.stays hen hc hdd h1 h2 fun h₃ c₃ => ?_
  obtain ⟨oe3, vs3, T3, oT3, ts3, he3, hc3, _⟩ := c₃.exc
  refine wpAny_handleBy_builtin (X := X) (T := TT) (b := true) hexc hnt hsub
    (Calls.Name_function_global hf.kind hT (Calls.loadGlobal_builtin (hf.glob ▸ Tp.g.keeps c₃.stays) (mg_none_of G.kin Tp.g (hTn _)) (hf.bui ▸ Tp.b.keeps c₃.stays) ((Tp.builtins T hTne).trans hTv) ⟨rfl, ⟨oe3, he3, hc3⟩, ?_⟩) hTd)
  show wpAny _ _ _ _ _ _
  refine Caught.again (s := { s₁ with heap := h₃ }) c₃ fun h₄ c₄ => ?_
  obtain ⟨oe4, vs4, T4, oT4, ts4, he4, hc4, hd4, h14, h24, _⟩ := c₄.exc
  have O := own_of_in G.kin (topRead_of Tp) (hn _) (hq _)
  obtain ⟨tl, N, nm, qn, bs, hdct, sn, sub, ab, col, dd, k0, k1, k2, k3, k5, mN, hC, hN, hni, TTl⟩ := O.obj
  have hst := c₄.stays
  refine wpAny_execs_cons (raise_held (s := { s₁ with heap := h₄ }) F (TTl.keeps hst) rfl he4 hd4 h24 (hst _ _ hC) (hN.keeps hst) hni (Calls.Name_function_global hf.kind hx (Calls.loadGlobal_global (hf.glob ▸ Tp.g.keeps hst) (mg_of G.kin Tp.g (hn _)) ⟨rfl, rfl⟩) hd) ?_)
  intro h' e hm
  obtain ⟨t, ht, _, _⟩ := hm.there
  have hkk : ∀ b o, h₄.get? b = some o → (h'.update e (Obj.mapFields (·.setIfInBounds 2 (.ref ea)))).get? b = some o := fun b o q => by
    have hbe : e ≠ b := fun z => by rw [← z] at q; have := hm.new; rw [show ({ s₁ with heap := h₄ } : Shared).heap.get? e = h₄.get? e from rfl, q] at this; (first | exact nn this | exact sn this | exact tf this | exact ft this | cases this)
    rw [Heap.get?_update_other _ _ hbe]
    exact hm.keeps b o q
  have hen2 : f.H0.get? e = none := by
    cases q : f.H0.get? e with
    | none => rfl
    | some o => have := hm.new; rw [show ({ s₁ with heap := h₄ } : Shared).heap.get? e = h₄.get? e from rfl, hst e o q] at this; (first | exact nn this | exact sn this | exact tf this | exact ft this | cases this)
  have xx : Exn f (.ref e) (.ref C) { s₁ with heap := h'.update e (Obj.mapFields (·.setIfInBounds 2 (.ref ea))) } := by
    refine ⟨fun b o z => hkk b o (hst b o z), fun b o z1 z2 => ?_, c₄.frames.of_keeps fun b o z _ => ⟨o, hkk b o z, rfl⟩, q.gens, q.drawn, q.os, e, rfl, hen2, .inl ⟨_, _, _, Heap.get?_update_self _ ht (Obj.isFreed_of_fields (Obj.data_mapFields rfl _)), Obj.cls_mapFields _ _, Obj.data_mapFields rfl _, rfl, rfl⟩⟩
    obtain ⟨sl, e1⟩ := q.up b o z1 z2
    obtain ⟨sl2, e2⟩ := c₄.up b _ e1 z2
    exact ⟨sl2, hkk _ _ e2⟩
  exact exn_note (A := f.A.mark (some (.ref ea))) (Q := fun _ s' => cameBackBy (model pw f.w) f.A env (PE f Ψ) (.ref e) s') xx hf.frames hf.ff hf.efr hee fun s' x' hta => exn_cameBack x' hf.frames hf.ff hf.efr hta fun s'' x'' => ⟨_, x'', hΨ hgg⟩
end
end

/- # F29 -/
section
open PySem PySem.Calls PyProof.Rows PySem.W

section
variable {α β γ δ : Type} {f : Fm} {env : Env} {n : Nat} {Ψ : Value → Prop} {ρ : List Addr} {σ : St} {s : Shared}
/- with another post for what is raised -/
noncomputable def TrE {α β : Type} (f : Fm) (t : Sem α) (R : List Addr → α → β → Prop) (σ : St) (Φ : β → St → Prop) (E : Value → Shared → Prop) : Prop :=
  ∀ ρ s, Rep f ρ σ s → wpAny (model pw f.w) f.A t (PV f ρ R Φ) E s
theorem esE_cons {st : Stmt} {rest : List Stmt} {Φ : AF → St → Prop} {E : Value → Shared → Prop} (P : St → Prop) (h : Ex f st env σ (fun fl σ₁ => fl = .next ∧ P σ₁) (fun _ => False))
    (k : ∀ σ₁, P σ₁ → TrE f (execs rest env) FR σ₁ Φ E) : TrE f (execs (st :: rest) env) FR σ Φ E := fun ρ s r => by
  refine wpAny_execs_cons (wpAny_mono (h ρ s r) (fun fl s₁ qq1 => qq1.elim fun ρ₁ b σ₁ p1 r1 v1 qq2 => qq2.elim fun e1 h1 => ?_) fun _ _ qq3 => qq3.elim fun _ _ q => q.elim)
  subst e1
  obtain rfl : fl = .next := v1
  exact wpAny_mono (k _ h1 ρ₁ _ r1) (fun _ _ q => q.mono p1) fun _ _ q => q
theorem esE_bytes {X y : Str} {np yp cp rp : Pos} {j : Nat} {xs : List Int} {Φ : AF → St → Prop} (hf : FmOk f env n) (hx : env.kindOf X = some .globalImplicit) (hn : ∀ w, nsIn (KK w) mainGlobals X = some none)
    (hv : bootBuiltins X = some (.type "bytes")) (hne : X ≠ "__name__") (hd : (X == ("__debug__" : Str)) = false) (hy : env.kindOf y = some .local) (hyd : (y == ("__debug__" : Str)) = false) (hl : σ.loc.lookup y = some (.ref j)) (hj : ListAt σ j (xs.map .int))
    (hsz : xs.length ≤ 1000000) (h : (∀ x ∈ xs, 0 ≤ x ∧ x < 256) → Φ (.ret (.bytes (xs.map fun x => x.toNat.toUInt8))) σ)
    (he : starEach [.Name y yp] env = (false, eval (.Name y yp) env) :: starEach [] env := by rfl)
    (hc : eval (.Call (.Name X np) [.Name y yp] [] cp) env = (do callWith cp (← eval (.Name X np) env) [] (backTo cp (starEach [.Name y yp] env)) (backToKw cp (keywordEach [] env))) := by rfl) :
    TrE f (execs [.Return (some (.Call (.Name X np) [.Name y yp] [] cp)) rp] env) FR σ (fun fl σ' => (∀ x ∈ xs, 0 ≤ x ∧ x < 256) ∧ Φ fl σ') (fun e s => FreshX f "ValueError" e s ∧ ∃ x ∈ xs, ¬ (0 ≤ x ∧ x < 256)) := fun ρ s r => by
  by_cases hg : ∀ x ∈ xs, 0 ≤ x ∧ x < 256
  · have hE : Es f [.Return (some (.Call (.Name X np) [.Name y yp] [] cp)) rp] env σ (fun fl σ' => (∀ x ∈ xs, 0 ≤ x ∧ x < 256) ∧ Φ fl σ') (fun _ => False) := by
      refine x_cons (x_return (e_callT hf hx hn hv (a_cons (e_loc hf hy hl (a_nil ?_) hyd) he) hne hd he rfl hc))
      exact o_bytes_list hf hj hg hsz ⟨hg, h hg⟩
    exact wpAny_mono (hE ρ s r) (fun _ _ q => q) fun _ _ qq4 => qq4.elim fun _ _ q => q.elim
  · have hbad : ∃ x ∈ xs, ¬ (0 ≤ x ∧ x < 256) := Classical.byContradiction fun q => hg fun x hx => Classical.byContradiction fun q2 => q ⟨x, hx, q2⟩
    refine wpAny_execs_cons (wpAny_Return_some ?_)
    refine Call_ (wpAny_mono (e_bi (Φ := fun a σ' => a = .val (.type "bytes") ∧ σ' = σ) (Ψ := fun _ => False) (p := np) hf hx hn hv ⟨rfl, rfl⟩ hne hd ρ s r) (fun v s₁ qq5 => qq5.elim fun ρ₁ a σ₁ p1 r1 v1 qq6 => qq6.elim fun e1 e2 => ?_) fun _ _ qq7 => qq7.elim fun _ _ q => q.elim) hc
    subst e1 e2
    have q : v = .type "bytes" := v1
    subst q
    have hta : Ta f [.Name y yp] env cp σ₁ (fun as σ₂ => as = [.ref j] ∧ σ₂ = σ₁) (fun _ => False) := a_cons (e_loc hf hy hl (a_nil ⟨rfl, rfl⟩) hyd) he
    refine PyProof.Rows.callWith_type1 (wpAny_mono (hta ρ₁ _ r1) (fun vs s₂ qq8 => qq8.elim fun ρ₂ as σ₂ q2 r2 v2 qq9 => qq9.elim fun ha hs => ?_) fun _ _ qq10 => qq10.elim fun _ _ q => q.elim) he rfl
    subst ha hs
    obtain ⟨v, rfl, hvj⟩ := vrs1 v2
    obtain ⟨a, us, rfl, hl2, hw⟩ := r2.isList hj hvj
    exact call_bytes_bad (vs := us.toList) (by simpa using hl2) (ints_of hw) (by rw [paired_length hw, sizeLine_eq]; simp; (first | lia | omega)) hf.handled hbad (fun hm h' tk e hk hx => ⟨r2.freshX hf hk hx, hbad⟩)
end
end

/- # W51 -/
section
open PySem PySem.Calls PyProof.Rows PySem.W


theorem cast_beq4 (a b : Nat) : ((a : Int) == (b : Int)) = (a == b) := by
  by_cases q : a = b
  · simp [q]
  · rw [beq_eq_false_iff_ne.mpr q, beq_eq_false_iff_ne.mpr (by (first | lia | omega))]
theorem digitsL_all {b : List UInt8} : digitsL b = true ↔ b ≠ [] ∧ ∀ c ∈ b, 48 ≤ c.toNat ∧ c.toNat ≤ 57 := by
  unfold digitsL Builtin.Bytes.allOf
  rw [Bool.and_eq_true, List.all_eq_true]
  refine and_congr (by cases b <;> simp) ?_
  refine forall_congr' fun c => forall_congr' fun _ => ?_
  unfold Builtin.Bytes.isDigit
  rw [Bool.and_eq_true, decide_eq_true_eq, decide_eq_true_eq]
  rfl
noncomputable def badPart (p : List UInt8) : Bool := !digitsL p || (decide (1 < p.length) && (p.getD 0 0).toNat == 48)
noncomputable def partV4 (p : List UInt8) : Int := (valOf 10 ((p.map (·.toNat)).map dig) : Nat)
noncomputable def aton4F (b : List UInt8) : Option (List UInt8) :=
  let ps := spl 46 b
  if ps.length ≠ 4 then none else if ps.any badPart then none else
  if (ps.map partV4).all (fun x => decide (0 ≤ x ∧ x < 256)) then some ((ps.map partV4).map fun x => x.toNat.toUInt8) else none
theorem part_reads {p : List UInt8} (h : badPart p = false) (hl : p.length ≤ 640) : ReadsAs 10 (p.map (·.toNat)) (valOf 10 ((p.map (·.toNat)).map dig)) := by
  unfold badPart at h
  simp only [Bool.or_eq_false_iff, Bool.not_eq_false'] at h
  obtain ⟨hne, hd⟩ := digitsL_all.mp h.1
  have key : ∀ c < 58, 48 ≤ c → c ∈ digs := by decide +kernel
  have hx : ∀ c ∈ p.map (·.toNat), c ∈ digs := fun c hc => by
    obtain ⟨x, hx, rfl⟩ := List.mem_map.mp hc
    exact key _ (Nat.lt_succ_of_le (hd x hx).2) (hd x hx).1
  exact reads_of (.inl rfl) (fun e => hne (List.map_eq_nil_iff.mp e)) (fun c hc => (digs_is c (hx c hc)).1) (fun c hc => (digs_is c (hx c hc)).2.1) ((List.length_map ..).symm ▸ hl)
noncomputable def decOfB : AV → AV
  | .bytes l => .int (partV4 l)
  | a => a
theorem plain_bytes {l : List (List UInt8)} : ∀ a ∈ l.map AV.bytes, a.Plain := by
  intro a h; obtain ⟨x, _, rfl⟩ := List.mem_map.mp h; trivial
noncomputable abbrev R51 (b : List UInt8) (r : RV) : Prop := ∃ x, aton4F b = some x ∧ r = .flat (.bytes x)
noncomputable abbrev E51 (b : List UInt8) (c : Value) : Prop := aton4F b = none ∧ c = .ref 37
theorem q51 {b : List UInt8} {n : Nat} (hsz : b.length ≤ 600) : Fn (n + 1) 51 [.bytes b] (R51 b) (E51 b) := by
  refine fn_of1 def51 peek51 (by kernel_rfl) fun f hf hfe σ hs1 hs2 => ?_
  have hsp := spl_length_le 46 b
  refine x_cut (fun σ' => σ'.loc.lookup ("btext" : Str) = some (.bytes b)) ?_ ?_
  · refine x_if ?_
    refine t_not ?_
    refine t_value ?_
    refine e_callB (id := "isinstance") hf (by kernel_rfl) (by intro w; kernel_rfl) (by kernel_rfl) ?_
    refine a_cons ?_
    refine e_loc hf (by kernel_rfl) (by walk_at "lk") ?_
    refine a_cons ?_
    refine e_bi (v := .type "bytes") hf (by kernel_rfl) (by intro w; kernel_rfl) (by kernel_rfl) ?_
    refine a_nil ?_
    refine o_isbytes_bytes ?_
    refine o_truthy_bool ?_
    show Es _ _ _ _ _ _
    refine x_cons ?_
    refine x_assign hf (by kernel_rfl) ?_ (by rfl) (by kernel_rfl)
    refine e_loc hf (by kernel_rfl) (by walk_at "lk") ?_
    refine x_nil ?_
    exact lk_same
  rintro σ1 k1
  refine x_cons ?_
  refine x_assign hf (by kernel_rfl) ?_ (by rfl) (by kernel_rfl)
  refine e_meth1 (id := "bytes.split") ?_
  refine e_loc hf (by kernel_rfl) (by walk_at "lk") ?_
  refine ⟨meth_bytes BF.slot_bytes_split BF.type_bytes_split, ?_⟩
  refine a_cons ?_
  refine e_bytes ?_
  refine a_nil ?_
  refine o_split_bytes (by first | (first | lia | omega) | (simp; (first | lia | omega))) ?_
  have hun : aton4F b = if (spl 46 b).length ≠ 4 then none else if (spl 46 b).any badPart then none else
    if ((spl 46 b).map partV4).all (fun x => decide (0 ≤ x ∧ x < 256)) then some (((spl 46 b).map partV4).map fun x => x.toNat.toUInt8) else none := rfl
  have hpl : ∀ p ∈ spl 46 b, p.length ≤ b.length := fun p hp => spl_mem_le 46 b p hp
  generalize spl 46 b = ps at hsp hun hpl ⊢
  have nl : (ps.map AV.bytes).length = ps.length := by simp
  refine x_cons ?_
  refine x_if ?_
  refine t_compare ?_
  refine e_callB (id := "len") hf (by kernel_rfl) (by intro w; kernel_rfl) (by kernel_rfl) ?_
  refine a_cons ?_
  refine e_loc hf (by kernel_rfl) (by walk_at "lk") ?_
  refine a_nil ?_
  refine o_len_list (by walk_at "la") (by first | (first | lia | omega) | (simp; (first | lia | omega))) ?_
  refine e_int ?_
  refine o_ne_int ?_
  rw [nl]
  refine tite_of (fun h1 => ?_) (fun h1 => ?_)
  · refine x_cons ?_
    refine x_raise (C := 37) hf (by kernel_rfl) (by intro w; kernel_rfl) (by intro w; kernel_rfl) F.excBase_Exception ?_
    try unfold E51
    rw [hun, if_pos (by simp at h1; (first | lia | omega))]
    exact ⟨rfl, rfl⟩
  have h4 : ps.length = 4 := by simp at h1; (first | lia | omega)
  clear h1
  rw [if_neg (by (first | lia | omega))] at hun
  refine x_nil ?_
  generalize hσ : ((σ1.new (AO.list (ps.map AV.bytes))).set ("parts" : Str) (.ref σ1.mem.length)) = σ2
  have m1 : σ2.loc.lookup ("parts" : Str) = some (.ref σ1.mem.length) := by subst hσ; exact lk_same
  have m2 : ListAt σ2 σ1.mem.length (ps.map .bytes) := by subst hσ; exact la_new
  clear hσ
  refine x_cons ?_
  refine x_for hf (by kernel_rfl) ?_ (by rw [hfe])
  refine it_list hf ?_
  refine e_loc hf (by kernel_rfl) (by walk_at "lk") ?_
  refine ⟨_, _, rfl, by walk_at "la", fun ob => ?_⟩
  have hj0 := la_lt m2
  refine ⟨fun i σ' => σ'.loc.lookup ("parts" : Str) = some (.ref σ1.mem.length) ∧ σ'.mem[σ1.mem.length]? = some (.fix ob false (ps.map .bytes)) ∧ ∀ k, k < i → badPart (ps.getD k []) = false, ⟨by walk_at "lk", mem_put hj0, fun k hk => absurd hk (Nat.not_lt_zero k)⟩, ?_, ?_, ?_⟩
  · intro j hj i σ' ⟨_, h2, _⟩
    simp only [List.mem_cons, List.not_mem_nil, or_false] at hj
    subst hj
    rw [h2, mem_put hj0]
  · rintro i σ' y ⟨g1, g2, g3⟩ hy f₁ hL hfe₁ hf₁
    obtain ⟨p, ho, rfl, hmem⟩ := item_of hy
    have hp := hpl p hmem
    have hl1 : (σ'.set ("part" : Str) (.bytes p)).loc.lookup ("parts" : Str) = some (.ref σ1.mem.length) := by walk_at "lk"
    have hbad : badPart p = true → aton4F b = none := fun hb => by
      try unfold E51
      rw [hun, if_pos (List.any_eq_true.mpr ⟨p, hmem, hb⟩)]
    refine x_cons ?_
    refine x_if ?_
    refine t_not ?_
    refine t_value ?_
    refine e_meth0 (id := "bytes.isdigit") ?_
    refine e_loc hf₁ (by kernel_rfl) (by walk_at "lk") ?_
    refine ⟨meth_bytes BF.slot_bytes_isdigit BF.type_bytes_isdigit, ?_⟩
    refine o_isdigit ?_
    refine o_truthy_bool ?_
    refine tite_of (fun c1 => ?_) (fun c1 => ?_)
    · refine x_cons ?_
      refine x_raise (C := 37) hf₁ (by kernel_rfl) (by intro w; kernel_rfl) (by intro w; kernel_rfl) F.excBase_Exception ?_
      exact ⟨hbad (by unfold badPart; rw [c1]; rfl), rfl⟩
    refine x_nil ?_
    refine x_cons ?_
    refine x_if ?_
    have hd1 : digitsL p = true := by simpa using c1
    have hpos : 0 < p.length := by have := (digitsL_all.mp hd1).1; cases p <;> simp_all
    refine t_is (decide (1 < p.length) && (p.getD 0 0).toNat == 48) (fun s => s = σ'.set ("part" : Str) (.bytes p)) ?_ ?_
    · refine t_bool ?_
      refine ta_and ?_
      refine t_compare ?_
      refine e_callB (id := "len") hf₁ (by kernel_rfl) (by intro w; kernel_rfl) (by kernel_rfl) ?_
      refine a_cons ?_
      refine e_loc hf₁ (by kernel_rfl) (by walk_at "lk") ?_
      refine a_nil ?_
      refine o_len_bytes (by first | (first | lia | omega) | (simp; (first | lia | omega))) ?_
      refine e_int ?_
      refine o_gt_int ?_
      rw [show decide ((1 : Int) < (p.length : Int)) = decide (1 < p.length) by simp only [decide_eq_decide]; (first | lia | omega)]
      refine tite_of (fun d1 => ?_) (fun d1 => ⟨by rw [d1]; rfl, rfl⟩)
      rw [d1]
      refine ta_and ?_
      refine t_compare ?_
      refine e_index ?_
      refine e_loc hf₁ (by kernel_rfl) (by walk_at "lk") ?_
      refine e_int ?_
      refine i_bytes (by first | (first | lia | omega) | (simp; (first | lia | omega))) (by first | (first | lia | omega) | (simp; (first | lia | omega))) (by first | (first | lia | omega) | (simp; (first | lia | omega))) ?_
      refine e_callB (id := "ord") hf₁ (by kernel_rfl) (by intro w; kernel_rfl) (by kernel_rfl) ?_
      refine a_cons ?_
      refine e_str (l := [48]) (by kernel_rfl) ?_
      refine a_nil ?_
      refine o_ord ?_
      refine o_eq_int ?_
      rw [show ((((p.getD (0 : Int).toNat 0).toNat : Int)) == ((48 : Nat) : Int)) = ((p.getD 0 0).toNat == 48) from cast_beq4 _ _]
      refine tite_of (fun d2 => ?_) (fun d2 => ⟨by rw [d2]; rfl, rfl⟩)
      rw [d2]
      exact ta_nil ⟨rfl, rfl⟩
    rintro s rfl
    refine tite_of (fun c2 => ?_) (fun c2 => ?_)
    · refine x_cons ?_
      refine x_raise (C := 37) hf₁ (by kernel_rfl) (by intro w; kernel_rfl) (by intro w; kernel_rfl) F.excBase_Exception ?_
      exact ⟨hbad (by unfold badPart; rw [c2]; simp), rfl⟩
    refine x_nil (x_nil ?_)
    refine ⟨hl1, g2, fun k hk => ?_⟩
    rcases Nat.lt_or_eq_of_le (Nat.le_of_lt_succ hk) with q | q
    · exact g3 k q
    · subst q
      have : ps.getD k [] = p := by simp [List.getD, ho]
      rw [this]; unfold badPart; rw [c2, hd1]; rfl
  · intro σ' ⟨g1, g2, g3⟩
    have hla : ListAt σ' σ1.mem.length (ps.map .bytes) := .inr ⟨_, g2⟩
    have g3' : ∀ p ∈ ps, badPart p = false := by
      intro p hp
      obtain ⟨k, hk, rfl⟩ := List.getElem_of_mem hp
      have := g3 k (by simpa using hk)
      simpa [List.getD, hk] using this
    rw [if_neg (by
      intro q
      obtain ⟨p, hp, hb⟩ := List.any_eq_true.mp q
      rw [g3' p hp] at hb; (first | exact nn hb | exact sn hb | exact tf hb | exact ft hb | cases hb))] at hun
    refine x_cons ?_
    refine Tr.mono (Φ := fun fl σ' => (∀ x ∈ ps.map partV4, 0 ≤ x ∧ x < 256) ∧ fl = .ret (.bytes ((ps.map partV4).map fun x => x.toNat.toUInt8))) (Ψ := fun c => aton4F b = none ∧ c = .ref 37) ?_ (fun fl σ' hfl => ?_) (fun _ q => q)
    · refine x_try_reraise (C := 37) (X := "ValueError") (TT := "Exception") (GG := ∃ x ∈ ps.map partV4, ¬ (0 ≤ x ∧ x < 256)) hf (by rw [hfe]) ?_ (by kernel_rfl) (by intro w; kernel_rfl) (by kernel_rfl) (by decide +kernel) (by kernel_rfl)
        (by rw [isSubtype_type]; kernel_rfl) (by rw [isSubtype_type]; kernel_rfl) (by rw [isSubtype_type]; kernel_rfl) (by kernel_rfl) (by intro w; kernel_rfl) (by intro w; kernel_rfl) F.excBase_Exception ?_
      · refine esE_cons (fun σ'' => ∃ j, σ''.loc.lookup ("b" : Str) = some (.ref j) ∧ ListAt σ'' j ((ps.map partV4).map .int)) ?_ ?_
        · refine x_assign_comp (cl := []) (fun _ => true) decOfB hf (by kernel_rfl) (by kernel_rfl) (by kernel_rfl) (by kernel_rfl) (by kernel_rfl) (by kernel_rfl) (by kernel_rfl) (h := ?_)
          refine it_list hf ?_
          refine e_loc hf (by kernel_rfl) (by walk_at "lk") ?_
          refine ⟨_, _, rfl, by walk_at "la", fun ob2 => ?_⟩
          refine ⟨⟨plain_bytes, by simp; (first | lia | omega), fun a ha _ => ?_, fun a ha _ f₂ _ hf₂ => ?_, fun a ha f₂ _ hf₂ => rfl⟩, ?_⟩
          · obtain ⟨l, hl, rfl⟩ := List.mem_map.mp ha
            trivial
          · obtain ⟨l, hl, rfl⟩ := List.mem_map.mp ha
            have hll := hpl l hl
            refine e_callT (T := "int") hf₂ (by kernel_rfl) (by intro w; kernel_rfl) (by kernel_rfl) ?_
            refine a_cons ?_
            refine e_loc hf₂ (by kernel_rfl) (by walk_at "lk") ?_
            refine a_nil ?_
            refine o_int_bytes (part_reads (g3' l hl) (by (first | lia | omega))) ?_
            rfl
          have el : ((ps.map AV.bytes).filter (fun _ => true)).map decOfB = (ps.map partV4).map AV.int := by
            rw [List.filter_eq_self.mpr (fun _ _ => rfl), List.map_map, List.map_map]; rfl
          rw [el]
          exact ⟨rfl, _, lk_same, la_new⟩
        · rintro σ'' ⟨j, j1, j2⟩
          exact esE_bytes hf (by kernel_rfl) (by intro w; kernel_rfl) (by kernel_rfl) (by decide +kernel) (by kernel_rfl) (by kernel_rfl) (by kernel_rfl) j1 j2 (by simp; (first | lia | omega)) (fun _ => rfl)
      · rintro ⟨x, hx, hb⟩
        refine ⟨?_, rfl⟩
        try unfold E51
        rw [hun, if_neg]
        intro q
        exact hb (of_decide_eq_true (List.all_eq_true.mp q x hx))
    · obtain ⟨h1, rfl⟩ := hfl
      refine ⟨_, ?_, rfl⟩
      try unfold E51
      rw [hun, if_pos (List.all_eq_true.mpr fun x hx => decide_eq_true (h1 x hx))]
end

/- # W63 -/
section
open PySem PySem.Calls PyProof.Rows PySem.W


theorem cast_bne (a b : Nat) : ((a : Int) != (b : Int)) = decide (a ≠ b) := by
  by_cases q : a = b
  · simp [q]
  · have : ¬ ((a : Int) = (b : Int)) := by (first | lia | omega)
    simp [q, this]
noncomputable def noNl (b : List UInt8) : List UInt8 := if endsL b [10] = true then cut b none (some (-1)) else b
noncomputable def v4endF (b : List UInt8) : Option (List UInt8 × List UInt8) :=
  if (decide (rfindL (noNl b) [58] < 0) || inL (noNl b) [10] || decide ((spl 46 (cut (noNl b) (some (rfindL (noNl b) [58] + 1)) none)).length ≠ 4)) = true then none else
  if (spl 46 (cut (noNl b) (some (rfindL (noNl b) [58] + 1)) none)).any (fun p => !digitsL p) = true then none else
  some (cut (noNl b) none (some (rfindL (noNl b) [58])), cut (noNl b) (some (rfindL (noNl b) [58] + 1)) none)
noncomputable def optPair : Option (List UInt8 × List UInt8) → RV
  | none => .flat .none
  | some (x, y) => .obj (.tup [.bytes x, .bytes y])
theorem q63 {b : List UInt8} {n : Nat} (hsz : b.length ≤ 600) : Fn (n + 1) 63 [.bytes b] (Is (optPair (v4endF b))) (fun _ => False) := by
  refine fn_of1 def63 peek63 (by kernel_rfl) fun f hf hfe σ hs1 hs2 => ?_
  refine x_cut (fun σ' => σ'.loc.lookup ("btext" : Str) = some (.bytes (noNl b))) ?_ ?_
  · unfold noNl
    refine x_if ?_
    refine t_value ?_
    refine e_meth1 (id := "bytes.endswith") ?_
    refine e_loc hf (by kernel_rfl) (by walk_at "lk") ?_
    refine ⟨meth_bytes FB.slot_bytes_endswith FB.type_bytes_endswith, ?_⟩
    refine a_cons ?_
    refine e_bytes ?_
    refine a_nil ?_
    refine o_ends ?_
    refine o_truthy_bool ?_
    refine tite_of (fun c => ?_) (fun c => ?_)
    · rw [if_pos c]
      refine x_cons ?_
      refine x_assign hf (by kernel_rfl) ?_ (by rfl) (by kernel_rfl)
      refine e_slice ?_
      refine e_loc hf (by kernel_rfl) (by walk_at "lk") ?_
      refine p_none ?_
      refine p_some ?_
      refine e_unary ?_
      refine e_int ?_
      refine o_neg_int ?_
      refine s_bytes (by first | (first | lia | omega) | (simp; (first | lia | omega))) ?_
      refine x_nil ?_
      exact lk_same
    · rw [if_neg (by rw [c]; decide)]
      refine x_nil ?_
      exact hs1
  rintro σ1 k1
  have hb1 : (noNl b).length ≤ 600 := by
    unfold noNl; split
    · exact Nat.le_trans (cut_len _ _ _) hsz
    · exact hsz
  have hun : v4endF b = if (decide (rfindL (noNl b) [58] < 0) || inL (noNl b) [10] || decide ((spl 46 (cut (noNl b) (some (rfindL (noNl b) [58] + 1)) none)).length ≠ 4)) = true then none else
    if (spl 46 (cut (noNl b) (some (rfindL (noNl b) [58] + 1)) none)).any (fun p => !digitsL p) = true then none else
    some (cut (noNl b) none (some (rfindL (noNl b) [58])), cut (noNl b) (some (rfindL (noNl b) [58] + 1)) none) := rfl
  generalize noNl b = b1 at k1 hb1 hun
  refine x_cons ?_
  refine x_assign hf (by kernel_rfl) ?_ (by rfl) (by kernel_rfl)
  refine e_meth1 (id := "bytes.rfind") ?_
  refine e_loc hf (by kernel_rfl) (by walk_at "lk") ?_
  refine ⟨meth_bytes BF.slot_bytes_rfind BF.type_bytes_rfind, ?_⟩
  refine a_cons ?_
  refine e_bytes ?_
  refine a_nil ?_
  refine o_rfind ?_
  generalize rfindL b1 [58] = k at hun ⊢
  have hc := cut_len b1 (some (k + 1)) none
  have hsp := spl_length_le 46 (cut b1 (some (k + 1)) none)
  obtain ⟨ps, hps⟩ : ∃ ps, spl 46 (cut b1 (some (k + 1)) none) = ps := ⟨_, rfl⟩
  rw [hps] at hsp hun
  have nl : (ps.map AV.bytes).length = ps.length := by simp
  refine x_cut (fun σ' => ∃ j, σ'.loc.lookup ("parts" : Str) = some (.ref j) ∧ ListAt σ' j (ps.map .bytes) ∧ σ'.loc.lookup ("btext" : Str) = some (.bytes b1) ∧ σ'.loc.lookup ("k" : Str) = some (.int k)) ?_ ?_
  · refine x_assign hf (by kernel_rfl) ?_ (by rfl) (by kernel_rfl)
    refine e_meth1 (id := "bytes.split") ?_
    refine e_slice ?_
    refine e_loc hf (by kernel_rfl) (by walk_at "lk") ?_
    refine p_some ?_
    refine e_binop ?_
    refine e_loc hf (by kernel_rfl) (by walk_at "lk") ?_
    refine e_int ?_
    refine o_add_int ?_
    refine p_none ?_
    refine s_bytes (by first | (first | lia | omega) | (simp; (first | lia | omega))) ?_
    refine ⟨meth_bytes BF.slot_bytes_split BF.type_bytes_split, ?_⟩
    refine a_cons ?_
    refine e_bytes ?_
    refine a_nil ?_
    refine o_split_bytes (by first | exact Nat.le_trans (by assumption) (by decide) | lia | omega) ?_
    rw [hps]
    exact ⟨_, lk_same, la_new, by walk_at "lk", by walk_at "lk"⟩
  rintro σ2 hq1
  obtain ⟨jj, hq2⟩ := hq1
  refine and4 hq2 fun j1 j2 j3 j4 => ?_
  clear hq2
  refine x_cons ?_
  refine x_if ?_
  refine t_is (decide (k < 0) || inL b1 [10] || decide (ps.length ≠ 4)) (fun s => s = σ2) ?_ ?_
  · refine t_bool ?_
    refine ta_or ?_
    refine t_compare ?_
    refine e_loc hf (by kernel_rfl) (by walk_at "lk") ?_
    refine e_int ?_
    refine o_lt_int ?_
    refine tite_of (fun c => ⟨by rw [c]; rfl, rfl⟩) (fun c => ?_)
    rw [c]
    refine ta_or ?_
    refine t_compare ?_
    refine e_bytes ?_
    refine e_loc hf (by kernel_rfl) (by walk_at "lk") ?_
    refine o_in_bytes hf ?_
    refine tite_of (fun c => ⟨by rw [c]; rfl, rfl⟩) (fun c => ?_)
    rw [c]
    refine ta_or ?_
    refine t_compare ?_
    refine e_callB (id := "len") hf (by kernel_rfl) (by intro w; kernel_rfl) (by kernel_rfl) ?_
    refine a_cons ?_
    refine e_loc hf (by kernel_rfl) (by walk_at "lk") ?_
    refine a_nil ?_
    refine o_len_list (by walk_at "la") (by first | (first | lia | omega) | (simp; (first | lia | omega))) ?_
    refine e_int ?_
    refine o_ne_int ?_
    rw [nl, show ((ps.length : Int) != 4) = decide (ps.length ≠ 4) from cast_bne _ _]
    refine tite_of (fun c => ⟨by rw [c]; rfl, rfl⟩) (fun c => ?_)
    exact ta_nil ⟨by rw [c]; rfl, rfl⟩
  rintro s rfl
  refine tite_of (fun c => ?_) (fun c => ?_)
  · refine x_cons ?_
    refine x_return ?_
    refine e_none ?_
    show RV.flat .none = _
    rw [hun, if_pos c]; rfl
  rw [if_neg (by rw [c]; decide)] at hun
  refine x_nil ?_
  refine x_cons ?_
  refine x_for hf (by kernel_rfl) ?_ (by rw [hfe])
  refine it_list hf ?_
  refine e_loc hf (by kernel_rfl) (by walk_at "lk") ?_
  refine ⟨_, _, rfl, by walk_at "la", fun ob => ?_⟩
  have hj0 := la_lt j2
  refine ⟨fun i σ' => σ'.loc.lookup ("btext" : Str) = some (.bytes b1) ∧ σ'.loc.lookup ("k" : Str) = some (.int k) ∧ σ'.mem[jj]? = some (.fix ob false (ps.map .bytes)) ∧ ∀ j, j < i → digitsL (ps.getD j []) = true, ⟨by walk_at "lk", by walk_at "lk", mem_put hj0, fun k hk => absurd hk (Nat.not_lt_zero k)⟩, ?_, ?_, ?_⟩
  · intro j hj i σ' ⟨_, _, h2, _⟩
    simp only [List.mem_cons, List.not_mem_nil, or_false] at hj
    subst hj
    rw [h2, mem_put hj0]
  · rintro i σ' y hq3 hy f₁ hL hfe₁ hf₁
    refine and4 hq3 fun g1 g0 g2 g3 => ?_
    clear hq3
    obtain ⟨p, hq4⟩ := (item_of hy)
    refine and3 hq4 fun ho he5 hmem => ?_
    clear hq4
    obtain rfl := he5
    refine x_cons ?_
    refine x_if ?_
    refine t_not ?_
    refine t_value ?_
    refine e_meth0 (id := "bytes.isdigit") ?_
    refine e_loc hf₁ (by kernel_rfl) (by walk_at "lk") ?_
    refine ⟨meth_bytes BF.slot_bytes_isdigit BF.type_bytes_isdigit, ?_⟩
    refine o_isdigit ?_
    refine o_truthy_bool ?_
    refine tite_of (fun c1 => ?_) (fun c1 => ?_)
    · refine x_cons ?_
      refine x_return ?_
      refine e_none ?_
      show RV.flat .none = _
      rw [hun, if_pos (List.any_eq_true.mpr ⟨p, hmem, c1⟩)]; rfl
    refine x_nil (x_nil ?_)
    refine ⟨by walk_at "lk", by walk_at "lk", g2, fun j hk => ?_⟩
    rcases Nat.lt_or_eq_of_le (Nat.le_of_lt_succ hk) with q | q
    · exact g3 j q
    · subst q
      have : ps.getD j [] = p := by simp [List.getD, ho]
      rw [this]; simpa using c1
  · intro σ' ⟨g1, g0, g2, g3⟩
    rw [if_neg (by
      intro q
      obtain ⟨p, hq6⟩ := (List.any_eq_true.mp q)
      refine and2 hq6 fun hp hb => ?_
      clear hq6
      obtain ⟨j, hk, rfl⟩ := List.getElem_of_mem hp
      have := g3 j (by simpa using hk)
      rw [show ps.getD j [] = ps[j] by simp [List.getD, hk]] at this
      rw [this] at hb; (first | exact nn hb | exact sn hb | exact tf hb | exact ft hb | cases hb))] at hun
    refine x_cons ?_
    refine x_return ?_
    refine e_tuple ?_
    refine a_cons ?_
    refine e_slice ?_
    refine e_loc hf (by kernel_rfl) (by walk_at "lk") ?_
    refine p_none ?_
    refine p_some ?_
    refine e_loc hf (by kernel_rfl) (by walk_at "lk") ?_
    refine s_bytes (by first | (first | lia | omega) | (simp; (first | lia | omega))) ?_
    refine a_cons ?_
    refine e_slice ?_
    refine e_loc hf (by kernel_rfl) (by walk_at "lk") ?_
    refine p_some ?_
    refine e_binop ?_
    refine e_loc hf (by kernel_rfl) (by walk_at "lk") ?_
    refine e_int ?_
    refine o_add_int ?_
    refine p_none ?_
    refine s_bytes (by first | (first | lia | omega) | (simp; (first | lia | omega))) ?_
    refine a_nil ?_
    refine ⟨by simp, ?_⟩
    refine ⟨_, mem_new, ⟨trivial, trivial, trivial⟩, ?_⟩
    rw [hun]; rfl
end

/- # F30 -/
section
open PySem PySem.Calls PyProof.Rows PySem.W

/- ## a def whose one parameter is a cell -/
/- the cell stands, and holds a -/
noncomputable def CellAt (f : Fm) (c : Addr) (a : AV) : Prop := ∃ o v, f.he c = some o ∧ o.data = .cell (some v) ∧ VR [] v a
section
variable {f : Fm} {env : Env} {n : Nat} {Ψ : Value → Prop} {ρ : List Addr} {σ : St} {s : Shared} {Φ : AV → St → Prop}
theorem e_cell {x : Str} {p : Pos} {a : AV} {c : Addr} (hf : FmOk f env n) (hx : env.kindOf x = some .cell) (hc : env.cells.lookup x = some c) (hv : CellAt f c a) (h : Φ a σ)
    (hd : (x == ("__debug__" : Str)) = false := by kernel_rfl) : Ev f (.Name x p) env σ Φ Ψ := fun ρ s r => by
  obtain ⟨o, v, h1, h2, h3⟩ := hv
  exact wpAny_Name (wpAny_loadName_cell hf.kind hx hc ⟨o, r.keep _ _ h1, h2⟩ (pv r (h3.mono List.nil_prefix) h)) hd
end
theorem fn_cell {n : Nat} {p : Addr} {oc : Value} {od : Option Addr} {osl : Array (Option Value)} {fd : FuncData} {body : List Stmt} {a : AV} {x : Str} {Φ : RV → Prop} {Ψ : Value → Prop}
    (hk : ∀ w, (KK w).lookup p = some ⟨oc, od, .func fd, osl⟩) (hbody : fd.body = .stmts body) (hcode : ∀ w, codeIn (KK w) fd.code fd.qualname = true)
    (hbind : ∀ v, bindArgs fd ⟨[v], []⟩ = pure [(x, v)]) (hclo : fd.closure = []) (hkx : fd.scope.names.lookup x = some .cell) (hcells : ∀ L, cellsFrom (L + 1) fd.scope.names [] = [(x, L + 1)])
    (hglob : fd.globals = mainGlobals) (hbui : fd.builtins = builtinsNs)
    (h : ∀ f : Fm, FmOk f (callEnvC fd f.L p) n → f.fenv = callEnvC fd f.L p → CellAt f (f.L + 1) a → Es f body (callEnvC fd f.L p) ⟨[], []⟩ (RetOk Φ) Ψ)
    (hco : fd.scope.isCoroutine = false := by rfl) (hgen : fd.scope.isGenerator = false := by rfl) (hkind : fd.scope.kind = .function := by rfl) : Fn (n + 1) p [a] Φ Ψ := by
  intro w A H0 l s vs hc hv
  obtain ⟨mg, mb, G⟩ := hc.g
  obtain ⟨loose, mean, T⟩ := G.top
  have hin : (KK w).In s.heap := G.kin.keeps hc.stays
  obtain ⟨v, rfl, hva⟩ := vrs1 hv
  have hlx : (cellsFrom (s.heap.objs.size + 1) fd.scope.names []).lookup x = some (s.heap.objs.size + 1) := by
    rw [hcells, List.lookup_cons]; simp
  refine wpAny_call (codeAny_call_cells (fd := fd) (body := body) (binds := [(x, v)]) ?_ (hin _ _ (hk w)) rfl (T.nolimit.keeps hc.stays) (codeRec_of hin (hcode w)) hbody (hbind v) hclo ?_ (fun s₁ X => ?_) hco hgen hkind)
  · have := hc.depth
    show A.depth < 1000
    (first | lia | omega)
  · intro y hy
    simp only [List.mem_cons, List.not_mem_nil, or_false] at hy
    subst hy
    exact .inr ⟨hkx, by rw [hlx]; rfl⟩
  · obtain ⟨⟨hh, tk, rfl⟩, hns, hkp, hfr⟩ := X.toInCall
    let he : Addr → Option Obj := fun b => if b = s.heap.objs.size then none else hh.get? b
    let f : Fm := { w := w, A := A.deeper (callEnvC fd s.heap.objs.size p), L := s.heap.objs.size, he := he, H0 := H0, outer := l, fenv := callEnvC fd s.heap.objs.size p, FL := s.heap.objs.size, sg := s.gens, sd := s.drawn, so := s.os }
    have hno : s.heap.get? s.heap.objs.size = none := by
      cases q : s.heap.get? s.heap.objs.size with
      | none => rfl
      | some o => exact absurd (Heap.lt_size q) (Nat.lt_irrefl _)
    have hold : ∀ b o, s.heap.get? b = some o → he b = some o := fun b o e => by
      show (if b = _ then none else _) = _
      rw [if_neg (fun q => by rw [q, hno] at e; (first | exact nn e | exact sn e | exact tf e | exact ft e | cases e))]
      exact hkp b o e
    have hf : FmOk f (callEnvC fd f.L p) n := by
      refine ⟨⟨mg, mb, G⟩, Around.frames_deeper hc.frames, hc.handled, ?_, ?_, fun b o e => hold b o (hc.stays b o e), ?_, rfl, ?_, .inl rfl, hc.stays.fresh, rfl, hglob, hbui, hkind, rfl, fun _ => if_pos rfl, hc.guards, hgen, hco, hbui, hglob⟩
      · have := hc.depth
        show A.depth + 1 + n ≤ 900
        (first | lia | omega)
      · have := hc.units
        show A.units + 3 + 8 * n ≤ 9000
        (first | lia | omega)
      · intro h' hh'
        exact hc.fun_.of_keeps fun b o hb hd => let ⟨sl, e⟩ := hh' b o (hold b o hb) hd; ⟨_, e, rfl⟩
      · show fd.scope.kind ≠ .module
        rw [hkind]; decide
    have hr : Rep f [] ⟨[], []⟩ { s with heap := hh, toks := tk } := by
      refine ⟨fun b o e => ?_, ⟨_, hns, fun y c e => by simp at e⟩, .nil, .nil, rfl, rfl, rfl⟩
      have e' : (if b = s.heap.objs.size then none else hh.get? b) = some o := e
      by_cases q : b = s.heap.objs.size
      · rw [if_pos q] at e'; (first | exact nn e' | exact sn e' | exact tf e' | exact ft e' | cases e')
      · rw [if_neg q] at e'; exact e'
    have hcell : CellAt f (f.L + 1) a := by
      obtain ⟨o, ho, hd⟩ := X.cell x (s.heap.objs.size + 1) hlx
      have hkx' : (callEnvC fd s.heap.objs.size p).kindOf x = some .cell := hkx
      refine ⟨o, v, ?_, ?_, hva⟩
      · show (if _ = _ then none else hh.get? _) = _
        rw [if_neg (Nat.succ_ne_self _)]
        exact ho
      · rw [hd]
        unfold bindC bindC
        rw [hkx', if_neg (by decide), if_pos rfl]
    refine wpAny_mono (h f hf rfl hcell [] _ hr) (fun fl s' qq1 => qq1.elim fun ρ' b σ' _ r' hb' hΦ' => ?_) fun e s' qq2 => qq2.elim fun c hx hΨ => ?_
    · have keep : ∀ b o, s.heap.get? b = some o → s'.heap.get? b = some o := fun b o e => r'.keep b o (hold b o e)
      cases b with
      | next => have q : fl = .next := hb'; subst q; exact ⟨.flat .none, vr_none (ρ := []), keep, r'.gens, r'.drawn, r'.os, hΦ'⟩
      | brk => have q : fl = .brk := hb'; subst q; exact ⟨.flat .none, vr_none (ρ := []), keep, r'.gens, r'.drawn, r'.os, hΦ'⟩
      | cont => have q : fl = .cont := hb'; subst q; exact ⟨.flat .none, vr_none (ρ := []), keep, r'.gens, r'.drawn, r'.os, hΦ'⟩
      | ret a =>
        obtain ⟨v, rfl, hva⟩ := hb'
        cases a with
        | ref i =>
          obtain ⟨o, ho, hfl, hq⟩ := hΦ'
          obtain ⟨ad, had, rfl⟩ := hva
          obtain ⟨o', ho', ob, h1, h2, h3, h4⟩ := paired_get r'.mem had
          obtain rfl : o' = o := by rw [ho] at ho'; exact (Option.some.inj ho').symm
          refine ⟨.obj o', ⟨ad, ob, rfl, h1, h2.flat hfl, ?_⟩, keep, r'.gens, r'.drawn, r'.os, hq⟩
          cases q : s.heap.get? ad with
          | none => rfl
          | some o => have := hold _ _ q; rw [show he ad = none from h3] at this; cases this
        | _ => exact ⟨.flat _, VR.flat hva trivial, keep, r'.gens, r'.drawn, r'.os, hΦ'⟩
    · refine exn_leave hx (Around.frames_deeper hc.frames) rfl fun h' k1 k2 k3 k4 s'' e1 e2 e3 e4 => ?_
      subst e1
      exact ⟨c, ⟨k1, fun b o hb hd => k3 b o (hold b o hb) hd, k2, e2, e3, e4, k4⟩, hΨ⟩
end

/- # W108 -/
section
open PySem PySem.Calls PyProof.Rows PySem.W


noncomputable def groupsOf (b : List UInt8) : List Int := (List.range 8).map fun k => ((b.getD (2 * k) 0).toNat * 256 + (b.getD (2 * k + 1) 0).toNat : Nat)
noncomputable def textsOf (b : List UInt8) : List (List Nat) := (groupsOf b).map fun g => hexF g.toNat
noncomputable def hitAt (gs : List Int) (m s : Nat) : Bool := cut gs (some (s : Int)) (some ((s + m : Nat) : Int)) == List.replicate m 0
noncomputable def search (gs : List Int) : List Nat → Option (Nat × Nat)
  | [] => none
  | m :: r => match (List.range (9 - m)).find? (hitAt gs m) with
    | some s => some (m, s)
    | none => search gs r
noncomputable def octS (b : List UInt8) : List Nat := joinL [46] ((cut b (some 12) none).map fun x => decS (x.toNat : Int))
noncomputable def wayOut (b : List UInt8) (m s : Nat) : List Nat :=
  if (s == 0 && (m == 6 || (m == 5 && (groupsOf b).getD 5 0 == 65535))) = true then (if (m == 6) = true then colon2 else v4mapS) ++ octS b
  else joinL [58] (cut (textsOf b) none (some (s : Int))) ++ colon2 ++ joinL [58] (cut (textsOf b) (some ((s + m : Nat) : Int)) none)
noncomputable def manysL : List Nat := [8, 7, 6, 5, 4, 3, 2]
noncomputable def wayF (b : List UInt8) : List Nat := match search (groupsOf b) manysL with
  | some (m, s) => wayOut b m s
  | none => joinL [58] (textsOf b)
theorem groupsOf_len (b : List UInt8) : (groupsOf b).length = 8 := by simp [groupsOf]
theorem textsOf_len (b : List UInt8) : (textsOf b).length = 8 := by simp [textsOf, groupsOf_len]
theorem groupsOf_bound (b : List UInt8) : ∀ g ∈ groupsOf b, 0 ≤ g ∧ g < 65536 := by
  intro g hg
  obtain ⟨k, hq1⟩ := (List.mem_map.mp hg)
  refine and2 hq1 fun _ he2 => ?_
  clear hq1
  obtain rfl := he2
  have h1 := (b.getD (2 * k) 0).toNat_lt
  have h2 := (b.getD (2 * k + 1) 0).toNat_lt
  (first | lia | omega)
noncomputable def grpOf (b : List UInt8) : AV → AV
  | .int k => .int ((b.getD (2 * k).toNat 0).toNat * 256 + (b.getD (2 * k + 1).toNat 0).toNat)
  | a => a
noncomputable def hexOf : AV → AV
  | .int k => .str (hexF k.toNat)
  | a => a
noncomputable def strOf : AV → AV
  | .int k => .str (decS k)
  | a => a
theorem plain_range {k : Nat} : ∀ a ∈ rangeL 0 1 k, a.Plain := by
  intro a h; obtain ⟨x, _, rfl⟩ := List.mem_map.mp h; trivial
theorem CellAt.up {f f₁ : Fm} {c : Addr} {a : AV} (hup : ∀ b o, f.he b = some o → f₁.he b = some o) (h : CellAt f c a) : CellAt f₁ c a := by
  obtain ⟨o, v, hq3⟩ := h
  refine and3 hq3 fun h1 h2 h3 => ?_
  clear hq3
  exact ⟨o, v, hup _ _ h1, h2, h3⟩
noncomputable def W8 (b : List UInt8) (j1 j2 : Nat) (σ : St) : Prop := σ.loc.lookup ("groups" : Str) = some (.ref j1) ∧ σ.loc.lookup ("texts" : Str) = some (.ref j2) ∧ ListAt σ j1 ((groupsOf b).map .int) ∧ ListAt σ j2 ((textsOf b).map .str)
theorem range_facts : ∀ k, k < 10 → Builtin.Range.small 0 ((k : Nat) : Int) 1 = true ∧ Builtin.Range.rangeSize 0 ((k : Nat) : Int) 1 = (k : Nat) := by decide +kernel
theorem find_step {p : Nat → Bool} {k i : Nat} (hi : i < k) : ((List.range k).drop i).find? p = if p i = true then some i else ((List.range k).drop (i + 1)).find? p := by
  rw [List.drop_eq_getElem_cons (by simpa using hi), List.find?_cons]
  simp only [List.getElem_range]
  cases p i <;> rfl
theorem hexAcc_len : ∀ (d k : Nat) (t : List Nat), k < 16 ^ d → (t ≠ [] ∨ 1 ≤ d) → (hexAcc k t).length ≤ t.length + d
  | 0, k, t, h, ht => by
    have hk : k = 0 := by simpa using h
    have ht' : t ≠ [] := by simpa using ht
    rw [hk, hexAcc_done ht']; (first | lia | omega)
  | d + 1, k, t, h, _ => by
    by_cases c : k = 0 ∧ t ≠ []
    · rw [c.1, hexAcc_done c.2]; (first | lia | omega)
    · rw [hexAcc_step c]
      have := hexAcc_len d (k / 16) (hexN.getD (k % 16) 0 :: t) (by rw [Nat.pow_succ] at h; (first | lia | omega)) (.inl (by simp))
      simp only [List.length_cons] at this
      (first | lia | omega)
theorem hexF_len {N : Nat} (h : N < 65536) : (hexF N).length ≤ 4 := by
  have := hexAcc_len 4 N [] (by simpa using h) (.inr (by (first | lia | omega)))
  simpa [hexF] using this
theorem octS_facts (b : List UInt8) (hsz : b.length = 16) : (((cut b (some 12) none).map fun x => decS (x.toNat : Int)).map (·.length)).sum + ((cut b (some 12) none).map fun x => decS (x.toNat : Int)).length * [46].length ≤ 16777216 ∧ (octS b).length ≤ 100 := by
  have h1 : ((cut b (some 12) none).map fun x => decS (x.toNat : Int)).length ≤ 16 := by rw [List.length_map, ← hsz]; exact cut_len _ _ _
  have h2 : ∀ w ∈ (cut b (some 12) none).map fun x => decS (x.toNat : Int), w.length ≤ 3 := fun w hw => by
    obtain ⟨x, hq4⟩ := (List.mem_map.mp hw)
    refine and2 hq4 fun _ he5 => ?_
    clear hq4
    obtain rfl := he5
    exact dec_byte_len x
  have h3 := sum_len _ h2
  have h4 := glue_len [46] _ h2
  unfold octS
  rw [joinL_glue]
  simp only [List.length_cons, List.length_nil] at h4 ⊢
  (first | lia | omega)
theorem texts_join (b : List UInt8) (lo hi : Option Int) : (((cut (textsOf b) lo hi).map (·.length)).sum + (cut (textsOf b) lo hi).length * [58].length ≤ 16777216) ∧ (joinL [58] (cut (textsOf b) lo hi)).length ≤ 100 := by
  have h1 : (cut (textsOf b) lo hi).length ≤ 8 := Nat.le_trans (cut_len _ _ _) (by rw [textsOf_len]; (first | lia | omega))
  have h2 : ∀ w ∈ cut (textsOf b) lo hi, w.length ≤ 4 := fun w hw => by
    obtain ⟨g, hq6⟩ := (List.mem_map.mp (cut_mem hw))
    refine and2 hq6 fun hg he7 => ?_
    clear hq6
    obtain rfl := he7
    have := groupsOf_bound b g hg
    exact hexF_len (by (first | lia | omega))
  have h3 := sum_len _ h2
  have h4 := glue_len [58] _ h2
  rw [joinL_glue]
  simp only [List.length_cons, List.length_nil] at h4 ⊢
  (first | lia | omega)
set_option maxHeartbeats 4000000 in
theorem q108 {b : List UInt8} {n : Nat} (hsz : b.length = 16) : Fn (n + 3) 108 [.bytes b] (Is (.flat (.str (wayF b)))) (fun _ => False) := by
  refine fn_cell (x := ("octets" : Str)) (fd := fdAt 108) (body := bodyAt 108) (oc := .type "function") (od := none) (osl := #[]) (fun w => by kernel_rfl) (by kernel_rfl) (fun w => by kernel_rfl) (fun v => by kernel_rfl) (by kernel_rfl) (by kernel_rfl) (fun L => by kernel_rfl) (by kernel_rfl) (by kernel_rfl) (fun f hf hfe hcell => ?_) (by kernel_rfl) (by kernel_rfl) (by kernel_rfl)
  let Iz1 : St → Prop := fun σ' => ∃ j, σ'.loc.lookup ("groups" : Str) = some (.ref j) ∧ ListAt σ' j ((groupsOf b).map .int)
  refine x_cut Iz1 ?_ ?_
  · refine x_assign_comp (cl := [(("octets" : Str), f.L + 1)]) (fun _ => true) (grpOf b) hf (by kernel_rfl) (by kernel_rfl) (by kernel_rfl) (by kernel_rfl) (by kernel_rfl) (by kernel_rfl) (by kernel_rfl) (K := fun f₁ => CellAt f₁ (f.L + 1) (.bytes b)) (hK := fun C s₃ hk => hcell.up hk) (h := ?_)
    refine it_range hf ?_
    refine e_callT (T := "range") hf (by kernel_rfl) (by intro w; kernel_rfl) (by kernel_rfl) ?_
    refine a_cons ?_
    refine e_int ?_
    refine a_nil ?_
    refine o_range1 ?_
    refine ⟨_, _, _, _, 8, rfl, mem_new, by kernel_rfl, by kernel_rfl, ?_⟩
    refine ⟨⟨plain_range, by simp [rangeL], fun a ha _ => ?_, fun a ha _ f₂ hc₂ hf₂ => ?_, fun a ha f₂ _ hf₂ => rfl⟩, ?_⟩
    · obtain ⟨k, hq8⟩ := (List.mem_map.mp ha)
      refine and2 hq8 fun hk he9 => ?_
      clear hq8
      obtain rfl := he9
      trivial
    · obtain ⟨k, hq10⟩ := (List.mem_map.mp ha)
      refine and2 hq10 fun hk he11 => ?_
      clear hq10
      obtain rfl := he11
      rw [List.mem_range] at hk
      refine e_binop ?_
      refine e_binop ?_
      refine e_index ?_
      refine e_cell hf₂ (by kernel_rfl) (by kernel_rfl) (by assumption) ?_
      refine e_binop ?_
      refine e_int ?_
      refine e_loc hf₂ (by kernel_rfl) (by walk_at "lk") ?_
      refine o_mul_int (by mul_fits) ?_
      refine i_bytes (by first | (first | lia | omega) | (simp; done) | (simp; (first | lia | omega))) (by first | (first | lia | omega) | (simp; done) | (simp; (first | lia | omega))) (by first | (first | lia | omega) | (simp; done) | (simp; (first | lia | omega))) ?_
      refine e_int ?_
      refine o_mul_int (by mul_fits) ?_
      refine e_index ?_
      refine e_cell hf₂ (by kernel_rfl) (by kernel_rfl) (by assumption) ?_
      refine e_binop ?_
      refine e_binop ?_
      refine e_int ?_
      refine e_loc hf₂ (by kernel_rfl) (by walk_at "lk") ?_
      refine o_mul_int (by mul_fits) ?_
      refine e_int ?_
      refine o_add_int ?_
      refine i_bytes (by first | (first | lia | omega) | (simp; done) | (simp; (first | lia | omega))) (by first | (first | lia | omega) | (simp; done) | (simp; (first | lia | omega))) (by first | (first | lia | omega) | (simp; done) | (simp; (first | lia | omega))) ?_
      refine o_add_int ?_
      rfl
    have el : ((rangeL 0 1 8).filter (fun _ => true)).map (grpOf b) = (groupsOf b).map AV.int := by
      rw [List.filter_eq_self.mpr (fun _ _ => rfl)]; rfl
    rw [el]
    exact ⟨_, lk_same, la_new⟩
  rintro σ1 hq12
  obtain ⟨j1, hq13⟩ := hq12
  refine and2 hq13 fun k1 k2 => ?_
  clear hq13
  refine x_cut (fun σ' => ∃ j2, W8 b j1 j2 σ') ?_ ?_
  · refine x_assign_comp (cl := []) (fun _ => true) hexOf hf (by kernel_rfl) (by kernel_rfl) (by kernel_rfl) (by kernel_rfl) (by kernel_rfl) (by kernel_rfl) (by kernel_rfl) (h := ?_)
    refine it_list hf ?_
    refine e_loc hf (by kernel_rfl) (by walk_at "lk") ?_
    refine ⟨_, _, rfl, by walk_at "la", fun ob => ?_⟩
    refine ⟨⟨plain_int, by rw [List.length_map, groupsOf_len]; (first | lia | omega), fun a ha _ => ?_, fun a ha _ f₂ _ hf₂ => ?_, fun a ha f₂ _ hf₂ => rfl⟩, ?_⟩
    · obtain ⟨g, hq14⟩ := (List.mem_map.mp ha)
      refine and2 hq14 fun hg he15 => ?_
      clear hq14
      obtain rfl := he15
      trivial
    · obtain ⟨g, hq16⟩ := (List.mem_map.mp ha)
      refine and2 hq16 fun hg he17 => ?_
      clear hq16
      obtain rfl := he17
      have hb := groupsOf_bound b g hg
      obtain ⟨N, rfl⟩ : ∃ N : Nat, g = N := ⟨g.toNat, by (first | lia | omega)⟩
      refine e_callD hf₂ (by kernel_rfl) (by intro w; kernel_rfl) def103.look ?_
      refine a_cons ?_
      refine e_loc hf₂ (by kernel_rfl) (by walk_at "lk") ?_
      refine a_nil ?_
      refine o_call hf₂ (q103 (n := n) (N := N) (by (first | lia | omega))) (Nat.le_refl _) ⟨trivial, trivial⟩ ?_ (fun _ q => q)
      rintro r rfl
      rfl
    have el : (((groupsOf b).map AV.int).filter (fun _ => true)).map hexOf = (textsOf b).map AV.str := by
      rw [List.filter_eq_self.mpr (fun _ _ => rfl), textsOf, List.map_map, List.map_map]; rfl
    rw [el]
    exact ⟨_, by walk_at "lk", lk_same, la_set (la_keep (la_put k2)), la_new⟩
  clear k1 k2
  rintro σ2 hq18
  obtain ⟨j2, hq19⟩ := hq18
  refine and4 hq19 fun w1 w2 w3 w4 => ?_
  clear hq19
  refine x_cons ?_
  refine Tr.of_M (xM_for hf (by kernel_rfl) ?_ (by rw [hfe]))
  refine it_tup hf ?_
  refine e_tuple ?_
  refine a_cons ?_
  refine e_int ?_
  refine a_cons ?_
  refine e_int ?_
  refine a_cons ?_
  refine e_int ?_
  refine a_cons ?_
  refine e_int ?_
  refine a_cons ?_
  refine e_int ?_
  refine a_cons ?_
  refine e_int ?_
  refine a_cons ?_
  refine e_int ?_
  refine a_nil ?_
  refine ⟨by simp, ?_⟩
  refine ⟨_, _, rfl, ta_new, fun ob => ?_⟩
  have htp : ([AV.int 8, AV.int 7, AV.int 6, AV.int 5, AV.int 4, AV.int 3, AV.int 2] : List AV) = manysL.map fun m => AV.int (m : Nat) := rfl
  rw [htp]
  have jc := texts_join b
  have of := octS_facts b hsz
  let Iz2 : Nat → St → Prop := fun i σ' => W8 b j1 j2 σ' ∧ σ'.mem[σ2.mem.length]? = some (.fix ob true (manysL.map fun m => AV.int (m : Nat))) ∧ search (groupsOf b) manysL = search (groupsOf b) (manysL.drop i)
  refine ⟨Iz2, ⟨⟨by walk_at "lk", by walk_at "lk", la_put_other (la_keep w3) (Nat.ne_of_gt (la_lt w3)), la_put_other (la_keep w4) (Nat.ne_of_gt (la_lt w4))⟩, mem_put (by show _ < (σ2.mem ++ [_]).length; simp), rfl⟩, ?_, ?_, ?_⟩
  · intro j hj i σ' ⟨_, h2, _⟩
    simp only [List.mem_cons, List.not_mem_nil, or_false] at hj
    subst hj
    rw [h2, mem_put (by show _ < (σ2.mem ++ [_]).length; simp)]
  · rintro i σ' y hq20 hy f₁ hL hfe₁ hup hf₁
    refine and3 hq20 fun hq21 g5 g6 => ?_
    clear hq20
    refine and4 hq21 fun g1 g2 g3 g4 => ?_
    clear hq21
    obtain ⟨m, hq22⟩ := (item_of hy)
    refine and3 hq22 fun ho he23 hmem => ?_
    clear hq22
    obtain rfl := he23
    have hc₁ := hcell.up hup.2
    have hm8 : 2 ≤ m ∧ m ≤ 8 := by
      simp only [manysL, List.mem_cons, List.not_mem_nil, or_false] at hmem; (first | lia | omega)
    have hi7 : i < manysL.length := (List.getElem?_eq_some_iff.mp ho).1
    have hdrop : manysL.drop i = m :: manysL.drop (i + 1) := by
      rw [List.drop_eq_getElem_cons hi7, (List.getElem?_eq_some_iff.mp ho).2]
    have hsr : search (groupsOf b) manysL = match (List.range (9 - m)).find? (hitAt (groupsOf b) m) with
      | some s => some (m, s)
      | none => search (groupsOf b) (manysL.drop (i + 1)) := by rw [g6, hdrop]; rfl
    refine xM_cons (xM_for hf₁ (by kernel_rfl) ?_ (by rw [hfe₁, hfe]))
    refine it_range hf₁ ?_
    refine e_callT (T := "range") hf₁ (by kernel_rfl) (by intro w; kernel_rfl) (by kernel_rfl) ?_
    refine a_cons ?_
    refine e_binop ?_
    refine e_int ?_
    refine e_loc hf₁ (by kernel_rfl) (by walk_at "lk") ?_
    refine o_sub_int ?_
    refine a_nil ?_
    refine o_range1 ?_
    rw [show (9 : Int) - (m : Int) = ((9 - m : Nat) : Int) by (first | lia | omega)]
    obtain ⟨rf1, rf2⟩ := range_facts (9 - m) (by (first | lia | omega))
    refine ⟨_, _, _, _, 9 - m, rfl, mem_new, rf1, rf2, ?_⟩
    have rl : (rangeL 0 1 (9 - m)).length = 9 - m := by simp [rangeL]
    let Iz3 : Nat → St → Prop := fun k σ'' => W8 b j1 j2 σ'' ∧ σ''.mem[σ2.mem.length]? = some (.fix ob true (manysL.map fun m => AV.int (m : Nat))) ∧ σ''.loc.lookup ("many" : Str) = some (.int m) ∧ (List.range (9 - m)).find? (hitAt (groupsOf b) m) = ((List.range (9 - m)).drop k).find? (hitAt (groupsOf b) m)
    refine ⟨Iz3,
      ⟨⟨by walk_at "lk", by walk_at "lk", by walk_at "la", by walk_at "la"⟩, mem_keep g5, by walk_at "lk", rfl⟩, fun _ q => by simp at q, ?_, ?_⟩
    · rintro s σ'' y hq24 hy₂ f₂ hL₂ hfe₂ hup₂ hf₂
      refine and4 hq24 fun hq25 n5 n6 n7 => ?_
      clear hq24
      refine and4 hq25 fun n1 n2 n3 n4 => ?_
      clear hq25
      obtain ⟨rfl, hs⟩ := range_item hy₂
      have hc₂ := hc₁.up hup₂.2
      rw [find_step hs] at n7
      refine TrM.of ?_
      have hgl := groupsOf_len b
      have htl := textsOf_len b
      have hst : (σ''.set ("start" : Str) (.int s)).mem = σ''.mem := rfl
      refine x_cons ?_
      refine x_if ?_
      let Iz4 : St → Prop := fun q => W8 b j1 j2 q ∧ q.mem[σ2.mem.length]? = some (.fix ob true (manysL.map fun m => AV.int (m : Nat))) ∧ q.loc.lookup ("many" : Str) = some (.int m) ∧ q.loc.lookup ("start" : Str) = some (.int s)
      refine t_is (hitAt (groupsOf b) m s) Iz4 ?_ ?_
      · refine t_compare ?_
        refine e_slice ?_
        refine e_loc hf₂ (by kernel_rfl) (by walk_at "lk") ?_
        refine p_some ?_
        refine e_loc hf₂ (by kernel_rfl) (by walk_at "lk") ?_
        refine p_some ?_
        refine e_binop ?_
        refine e_loc hf₂ (by kernel_rfl) (by walk_at "lk") ?_
        refine e_loc hf₂ (by kernel_rfl) (by walk_at "lk") ?_
        refine o_add_int ?_
        refine s_list (by walk_at "la") (by first | (first | lia | omega) | (simp; done) | (simp; (first | lia | omega))) ?_
        rw [cut_map]
        refine e_binop ?_
        refine e_list ?_
        refine a_cons ?_
        refine e_int ?_
        refine a_nil ?_
        refine ⟨by simp, ?_⟩
        refine e_loc hf₂ (by kernel_rfl) (by walk_at "lk") ?_
        refine o_mul_list (by walk_at "la") (by first | (first | lia | omega) | (simp; done) | (simp; (first | lia | omega))) (by first | (first | lia | omega) | (simp; done) | (simp; (first | lia | omega))) ?_
        rw [Int.toNat_natCast, rep_zero]
        refine o_eq_ints hf₂ (la_keep (la_keep la_new)) la_new ?_
        refine ⟨?_, ⟨by walk_at "lk", by walk_at "lk", by walk_at "la", by walk_at "la"⟩, mem_keep (mem_keep (mem_keep n5)), by walk_at "lk", by walk_at "lk"⟩
        unfold hitAt
        rw [show ((s + m : Nat) : Int) = (s : Int) + (m : Int) by (first | lia | omega)]
      clear n1 n2 n3 n4 n5 n6 hst
      rintro q hq26
      refine and4 hq26 fun hq27 n5 n6 n6' => ?_
      clear hq26
      refine and4 hq27 fun n1 n2 n3 n4 => ?_
      clear hq27
      refine tite_of (fun c => ?_) (fun c => ?_)
      · rw [if_pos c] at n7
        rw [n7] at hsr
        have hw : wayF b = wayOut b m s := by unfold wayF; rw [hsr]
        unfold wayOut at hw
        have hc5 : ((groupsOf b).map AV.int)[(5 : Int).toNat]? = some (.int ((groupsOf b).getD 5 0)) := by
          simp [List.getElem?_map, List.getD_eq_getElem?_getD, List.getElem?_eq_getElem (show 5 < (groupsOf b).length by (first | lia | omega))]
        refine x_cons ?_
        refine x_if ?_
        refine t_is (s == 0 && (m == 6 || (m == 5 && (groupsOf b).getD 5 0 == 65535))) (fun z => z = q) ?_ ?_
        · refine t_bool ?_
          refine ta_and ?_
          refine t_compare ?_
          refine e_loc hf₂ (by kernel_rfl) (by walk_at "lk") ?_
          refine e_int ?_
          refine o_eq_int ?_
          rw [show ((s : Int) == 0) = (s == 0) from cast_beq s 0]
          refine tite_of (fun d1 => ?_) (fun d1 => ⟨by rw [d1]; rfl, rfl⟩)
          rw [d1]
          refine ta_and ?_
          refine t_is (m == 6 || (m == 5 && (groupsOf b).getD 5 0 == 65535)) (fun z => z = q) ?_ ?_
          · refine t_bool ?_
            refine ta_or ?_
            refine t_compare ?_
            refine e_loc hf₂ (by kernel_rfl) (by walk_at "lk") ?_
            refine e_int ?_
            refine o_eq_int ?_
            rw [show ((m : Int) == 6) = (m == 6) from cast_beq m 6]
            refine tite_of (fun d2 => ⟨by rw [d2]; rfl, rfl⟩) (fun d2 => ?_)
            rw [d2]
            refine ta_or ?_
            refine t_is (m == 5 && (groupsOf b).getD 5 0 == 65535) (fun z => z = q) ?_ ?_
            · refine t_bool ?_
              refine ta_and ?_
              refine t_compare ?_
              refine e_loc hf₂ (by kernel_rfl) (by walk_at "lk") ?_
              refine e_int ?_
              refine o_eq_int ?_
              rw [show ((m : Int) == 5) = (m == 5) from cast_beq m 5]
              refine tite_of (fun d3 => ?_) (fun d3 => ⟨by rw [d3]; rfl, rfl⟩)
              rw [d3]
              refine ta_and ?_
              refine t_compare ?_
              refine e_index ?_
              refine e_loc hf₂ (by kernel_rfl) (by walk_at "lk") ?_
              refine e_int ?_
              refine i_list (by walk_at "la") (by first | (first | lia | omega) | (simp; done) | (simp; (first | lia | omega))) (by first | (first | lia | omega) | (simp; done) | (simp; (first | lia | omega))) hc5 ?_
              refine e_int ?_
              refine o_eq_int ?_
              refine tite_of (fun d4 => ?_) (fun d4 => ⟨by rw [d4]; rfl, rfl⟩)
              exact ta_nil ⟨by rw [d4]; rfl, rfl⟩
            rintro z rfl
            refine tite_of (fun d3 => ⟨by rw [d3]; rfl, rfl⟩) (fun d3 => ?_)
            exact ta_nil ⟨by rw [d3]; rfl, rfl⟩
          rintro z rfl
          refine tite_of (fun d3 => ?_) (fun d3 => ⟨by rw [d3]; rfl, rfl⟩)
          exact ta_nil ⟨by rw [d3]; rfl, rfl⟩
        rintro z rfl
        refine tite_of (fun d => ?_) (fun d => ?_)
        · rw [if_pos d] at hw
          refine x_cons ?_
          refine x_return ?_
          refine e_binop ?_
          refine Tr.mono (Φ := fun a y => a = .str (if (m == 6) = true then colon2 else v4mapS) ∧ y = z) ?_ (fun a y hq => ?_) (fun _ q => q)
          · refine e_if ?_
            refine t_compare ?_
            refine e_loc hf₂ (by kernel_rfl) (by walk_at "lk") ?_
            refine e_int ?_
            refine o_eq_int ?_
            rw [show ((m : Int) == 6) = (m == 6) from cast_beq m 6]
            refine tite_of (fun d2 => ?_) (fun d2 => ?_)
            · rw [if_pos d2]
              refine e_str (l := [58, 58]) (by kernel_rfl) ?_
              exact ⟨rfl, rfl⟩
            · rw [if_neg (by rw [d2]; decide)]
              refine e_str (l := [58, 58, 102, 102, 102, 102, 58]) (by kernel_rfl) ?_
              exact ⟨rfl, rfl⟩
          obtain ⟨rfl, rfl⟩ := hq
          have pl : (if (m == 6) = true then colon2 else v4mapS).length ≤ 7 := by split <;> decide
          refine e_meth1 (id := "str.join") ?_
          refine e_str (l := [46]) (by kernel_rfl) ?_
          refine ⟨meth_str F.slot_str_join F.type_str_join, ?_⟩
          refine a_cons ?_
          refine e_comp (cl := []) (fun _ => true) strOf hf₂ (by kernel_rfl) (by kernel_rfl) (by kernel_rfl) (by kernel_rfl) (by kernel_rfl) (h := ?_)
          refine it_bytes hf₂ ?_
          refine e_slice ?_
          refine e_cell hf₂ (by kernel_rfl) (by kernel_rfl) (by assumption) ?_
          refine p_some ?_
          refine e_int ?_
          refine p_none ?_
          refine s_bytes (by first | (first | lia | omega) | (simp; done) | (simp; (first | lia | omega))) ?_
          have pb : ∀ a ∈ (cut b (some 12) none).map (fun c => AV.int (c.toNat : Int)), a.Plain := by
            intro a h; obtain ⟨x, _, rfl⟩ := List.mem_map.mp h; trivial
          have cbl := cut_len b (some 12) none
          refine ⟨⟨pb, by rw [List.length_map]; (first | lia | omega), fun a ha _ => ?_, fun a ha _ f₃ _ hf₃ => ?_, fun a ha f₃ _ hf₃ => rfl⟩, ?_⟩
          · obtain ⟨x, _, rfl⟩ := List.mem_map.mp ha; trivial
          · obtain ⟨x, hq28⟩ := (List.mem_map.mp ha)
            refine and2 hq28 fun _ he29 => ?_
            clear hq28
            obtain rfl := he29
            refine e_callT (T := "str") hf₃ (by kernel_rfl) (by intro w; kernel_rfl) (by kernel_rfl) ?_
            refine a_cons ?_
            refine e_loc hf₃ (by kernel_rfl) (by walk_at "lk") ?_
            refine a_nil ?_
            refine o_str_int (byte_log _) ?_
            rfl
          have el : (((cut b (some 12) none).map (fun c => AV.int (c.toNat : Int))).filter (fun _ => true)).map strOf = ((cut b (some 12) none).map fun x => decS (x.toNat : Int)).map AV.str := by
            rw [List.filter_eq_self.mpr (fun _ _ => rfl), List.map_map, List.map_map]; rfl
          rw [el]
          refine a_nil ?_
          refine o_join la_new of.1 ?_
          have ol : (joinL [46] ((cut b (some 12) none).map fun x => decS (x.toNat : Int))).length ≤ 100 := of.2
          refine o_add_str (by first | exact Nat.le_trans (by assumption) (by decide) | lia | omega) ?_
          show RV.flat _ = _
          rw [hw]; rfl
        · rw [if_neg (by rw [d]; decide)] at hw
          refine x_nil ?_
          refine x_cons ?_
          refine x_return ?_
          refine e_binop ?_
          refine e_binop ?_
          refine e_meth1 (id := "str.join") ?_
          refine e_str (l := [58]) (by kernel_rfl) ?_
          refine ⟨meth_str F.slot_str_join F.type_str_join, ?_⟩
          refine a_cons ?_
          refine e_slice ?_
          refine e_loc hf₂ (by kernel_rfl) (by walk_at "lk") ?_
          refine p_none ?_
          refine p_some ?_
          refine e_loc hf₂ (by kernel_rfl) (by walk_at "lk") ?_
          refine s_list (by walk_at "la") (by first | (first | lia | omega) | (simp; done) | (simp; (first | lia | omega))) ?_
          rw [cut_map]
          refine a_nil ?_
          refine o_join la_new (jc _ _).1 ?_
          refine e_str (l := [58, 58]) (by kernel_rfl) ?_
          refine o_add_str (by have := (jc none (some (s : Int))).2; simp only [List.length_cons, List.length_nil]; (first | lia | omega)) ?_
          refine e_meth1 (id := "str.join") ?_
          refine e_str (l := [58]) (by kernel_rfl) ?_
          refine ⟨meth_str F.slot_str_join F.type_str_join, ?_⟩
          refine a_cons ?_
          refine e_slice ?_
          refine e_loc hf₂ (by kernel_rfl) (by walk_at "lk") ?_
          refine p_some ?_
          refine e_binop ?_
          refine e_loc hf₂ (by kernel_rfl) (by walk_at "lk") ?_
          refine e_loc hf₂ (by kernel_rfl) (by walk_at "lk") ?_
          refine o_add_int ?_
          refine p_none ?_
          refine s_list (by walk_at "la") (by first | (first | lia | omega) | (simp; done) | (simp; (first | lia | omega))) ?_
          rw [cut_map, show (s : Int) + (m : Int) = ((s + m : Nat) : Int) by (first | lia | omega)]
          refine a_nil ?_
          refine o_join la_new (jc _ _).1 ?_
          refine o_add_str (by have := (jc none (some (s : Int))).2; have := (jc (some ((s + m : Nat) : Int)) none).2; simp only [List.length_append, List.length_cons, List.length_nil]; (first | lia | omega)) ?_
          show RV.flat _ = _
          rw [hw]; rfl
      · rw [if_neg (by rw [c]; decide)] at n7
        refine x_nil (x_nil ?_)
        exact ⟨⟨n1, n2, n3, n4⟩, n5, n6, n7⟩
    · rintro σ'' hq30
      refine and4 hq30 fun hq31 n5 n6 n7 => ?_
      clear hq30
      refine and4 hq31 fun n1 n2 n3 n4 => ?_
      clear hq31
      rw [rl, List.drop_eq_nil_of_le (by simp), List.find?_nil] at n7
      rw [n7] at hsr
      exact xM_nil ⟨⟨n1, n2, n3, n4⟩, n5, hsr⟩
  · rintro σ' hq32
    refine and3 hq32 fun hq33 g5 g6 => ?_
    clear hq32
    refine and4 hq33 fun g1 g2 g3 g4 => ?_
    clear hq33
    refine x_cons ?_
    refine x_return ?_
    refine e_meth1 (id := "str.join") ?_
    refine e_str (l := [58]) (by kernel_rfl) ?_
    refine ⟨meth_str F.slot_str_join F.type_str_join, ?_⟩
    refine a_cons ?_
    refine e_loc hf (by kernel_rfl) (by walk_at "lk") ?_
    refine a_nil ?_
    have e0 : cut (textsOf b) none none = textsOf b := by
      unfold cut; simp
    refine o_join (by walk_at "la") (by have := (jc none none).1; rwa [e0] at this) ?_
    show RV.flat _ = _
    unfold wayF
    rw [g6]; rfl
end

/- # F31 -/
section
open PySem PySem.Calls PyProof.Rows PySem.W

section
variable {m : Mod} {prog : Program} {w : World} {A : Around} {E : Value → Shared → Prop} {s : Shared} {env : Env}
theorem codeM_func {R : Result → Shared → Prop} {body : List Stmt}
    (h : wpM m (model prog w) (A.deeper env) (execs body env) (fun f s' => R (.ok (.ret (match f with | .ret v => v | _ => .none))) s')
      (fun e s' => wpAny (model prog w) (A.deeper env) (leaving env e) (fun _ s'' => R (.error e) s'') (fun e' s'' => R (.error e') s'') s') s) :
    codeM m (model prog w) A (.func body env) R s := by
  refine codeM_of_tree ?_
  show wpM _ _ (A.deeper env) (do point; match ← (execs body env).onRaise (leaving env) with | .ret v => ret v | _ => ret .none) _ _ s
  refine wpM_bindA (wpAny_point (wpM_bind (wpM_onRaise (wpM_mono h (fun f s' h' => ?_) fun e s' h' => ?_))))
  · cases f <;> exact wpM_pure h'
  · exact wpM_of h'
theorem codeM_call_def {R : Result → Shared → Prop} {a : Addr} {o : Obj} {fd : FuncData} {body : List Stmt} {args : Args} {binds : List (Str × Value)}
    (hroom : A.depth < recursionLimit) (ho : s.heap.get? a = some o) (hdata : o.data = .func fd) (hlim : s.heap.NoLimit) (hcd : s.heap.CodeRec fd.code fd.qualname)
    (hbody : fd.body = .stmts body) (hbind : BindsTo s fd args binds)
    (hcell : ∀ x ∈ fd.scope.names, x.2 ≠ .cell) (hloc : ∀ x ∈ binds, fd.scope.names.lookup x.1 = some .local)
    (h : ∀ h₀, h₀.Ns s.heap.objs.size (fun x => binds.reverse.lookup x) → (∀ b o, s.heap.get? b = some o → h₀.get? b = some o) →
      wpM m (model prog w) (A.deeper (callEnv fd s.heap.objs.size a)) (execs body (callEnv fd s.heap.objs.size a)) (fun f s' => R (.ok (.ret (match f with | .ret v => v | _ => .none))) s')
        (fun e s' => wpAny (model prog w) (A.deeper (callEnv fd s.heap.objs.size a)) (leaving (callEnv fd s.heap.objs.size a) e) (fun _ s'' => R (.error e) s'') (fun e' s'' => R (.error e') s'') s')
        { s with heap := h₀, toks := s.toks + binds.length })
    (hco : fd.scope.isCoroutine = false := by rfl) (hgen : fd.scope.isGenerator = false := by rfl) (hk : fd.scope.kind = .function := by rfl) :
    codeM m (model prog w) A (.call (.ref a) args) R s := by
  refine codeM_of_tree ?_
  show wpM _ _ A.in1 (callAny (.ref a) args) _ _ s
  simp only [callAny]
  refine wpM_bindA (wpAny_load ho ?_)
  obtain ⟨c, oc, vs, tq, hc, hoc, hdc, hq⟩ := hcd
  simp only [hdata, callFunction, hco, hgen, hbody, hc]
  refine wpM_bindA (m := m) (wpAny_field hoc hdc hq (wpM_bind (wpM_pure ?_)))
  refine wpM_bindA (hbind _ _ _ _ (wpM_bindA ?_))
  rw [← hc]
  refine wpAny_newFunctionEnv hcell hloc (fun h₀ hns₀ hsb₀ => wpM_bindA (wpAny_enterFrame (hlim.fresh _ hsb₀) hroom (wpM_pure ⟨rfl, trivial, codeM_func (h h₀ hns₀ fun b o e => ?_)⟩))) hk
  exact hsb₀.extBut b o (Nat.ne_of_lt (Heap.lt_size e)) (Heap.get?_push_of_some _ e)
end

/- ## contracts in both kinds of context -/
noncomputable def frs (l : List Env) : List Addr := l.filterMap (·.frame)
/- old objects: the frames' up to slots, the others exactly -/
structure KeepW (l : List Env) (h h' : Heap) : Prop where
  old : ∀ b o, b ∉ frs l → h.get? b = some o → h'.get? b = some o
  up : h.UpToSlots h'
noncomputable def FnM (m : Mod) (n : Nat) (p : Addr) (args : List AV) (Φ : RV → Prop) (Ψ : Value → Prop) : Prop :=
  ∀ w A H0 l s vs, Cal w A H0 l s n → VRs [] vs args → wpM m (model pw w) A (call (.ref p) vs)
    (FV Φ s) (FE H0 l Ψ s) s
noncomputable def FnC (m : Mod) (n : Nat) (p : Addr) (args : List AV) (Φ : AV → Prop) : Prop :=
  ∀ w A H0 l s vs, Cal w A H0 l s n → VRs [] vs args → wpM m (model pw w) A (call (.ref p) vs)
    (fun v s' => ∃ a, VR [] v a ∧ KeepW l s.heap s'.heap ∧ s'.gens = s.gens ∧ s'.drawn = s.drawn ∧ s'.os = s.os ∧ Φ a) (fun _ _ => False) s
theorem FnM.of {m : Mod} {n : Nat} {p : Addr} {args : List AV} {Φ : RV → Prop} {Ψ : Value → Prop} (h : Fn n p args Φ Ψ) : FnM m n p args Φ Ψ := fun w A H0 l s vs hc hv => wpM_of (h w A H0 l s vs hc hv)

theorem mem_frs {H0 h : Heap} : ∀ {l : List Env} {b : Addr}, h.FunFrames H0 l → b ∈ frs l → H0.get? b = none ∧ ∃ o, h.get? b = some o ∧ ∀ vs, o.data ≠ .fields vs
  | [], _, _, hb => by simp [frs] at hb
  | env :: r, b, ⟨_, ⟨L, o, hf, hn, ho, hd⟩, hr⟩, hb => by
    have hb' : b ∈ (env.frame.toList ++ frs r) := by
      unfold frs at hb ⊢
      rw [List.filterMap_cons] at hb
      rw [hf] at hb ⊢
      simpa using hb
    rw [hf] at hb'
    simp only [Option.toList, List.cons_append, List.nil_append, List.mem_cons] at hb'
    rcases hb' with rfl | hb'
    · exact ⟨hn, o, ho, hd⟩
    · exact mem_frs hr hb'
theorem G0.up {w : World} {H0 H1 : Heap} {mg mb : Str → Option Value} (g : G0 w H0 mg mb) (h : H0.StaysIn H1) : G0 w H1 mg mb :=
  ⟨g.kin.keeps h, let ⟨loose, mean, T⟩ := g.top; ⟨loose, mean, T.keeps h⟩⟩
/- the heap at the call as base, but for the frames -/
theorem Cal.less {w : World} {A : Around} {H0 : Heap} {l : List Env} {s : Shared} {n : Nat} (c : Cal w A H0 l s n) : Cal w A (PySem.W.less s.heap (frs l)) l s n := by
  have hst : H0.StaysIn (PySem.W.less s.heap (frs l)) := fun b o e => less_get (c.stays b o e) fun q => by rw [(mem_frs c.fun_ q).1] at e; (first | exact nn e | exact sn e | exact tf e | exact ft e | cases e)
  obtain ⟨mg, mb, g⟩ := c.g
  refine ⟨⟨mg, mb, g.up hst⟩, c.frames, c.handled, c.depth, c.units, fun b o e => of_less e, ?_, c.guards⟩
  have key : ∀ (r l' : List Env), frs r ⊆ frs l' → s.heap.FunFrames H0 r → s.heap.FunFrames (PySem.W.less s.heap (frs l')) r := by
    intro r
    induction r with
    | nil => intro _ _ _; trivial
    | cons env r ih =>
      rintro l' hsub ⟨hk, ⟨L, o, hf, hn, ho, hd⟩, hr⟩
      refine ⟨hk, ⟨L, o, hf, less_none (hsub ?_), ho, hd⟩, ih l' (fun b hb => hsub ?_) hr⟩
      · unfold frs; rw [List.filterMap_cons, hf]; exact .head _
      · unfold frs at hb ⊢; rw [List.filterMap_cons, hf]; exact .tail _ hb
  exact key l l (fun _ h => h) c.fun_
end

/- # F32 -/
section
open PySem PySem.Calls PyProof.Rows PySem.W

section
variable {m : Mod} {f : Fm} {env : Env} {n : Nat} {Ψ : Value → Prop} {ρ : List Addr} {σ : St} {s : Shared}
/- what is left of a frame behind a caught exception -/
structure Weak (f : Fm) (s : Shared) : Prop where
  stays : f.H0.StaysIn s.heap
  up : ∀ b o, f.he b = some o → (∀ vs, o.data ≠ .fields vs) → ∃ sl, s.heap.get? b = some { o with slots := sl }
  gens : s.gens = f.sg
  drawn : s.drawn = f.sd
  os : s.os = f.so
theorem Rep.weak (r : Rep f ρ σ s) (hf : FmOk f env n) : Weak f s := ⟨r.stays hf, fun b o e _ => ⟨o.slots, r.keep b o e⟩, r.gens, r.drawn, r.os⟩
/- what a suite that hands back a constant does -/
noncomputable def RetC (b : List Stmt) (env : Env) (a : AV) : Prop := ∀ (prog : Program) (w : World) (A : Around) (E : Value → Shared → Prop) (s : Shared), wpAny (model prog w) A (execs b env) (fun fl s' => ∃ v tk, fl = .ret v ∧ VR [] v a ∧ s' = { s with toks := tk }) E s
theorem retC_str {x : Str} {l : List Nat} {k : Nat} {p q : Pos} (hl : x = ⟨l.toArray⟩) : RetC [.Return (some (.Constant (.str x) k p)) q] env (.str l) := fun prog w A E s =>
  wpAny_execs_cons (wpAny_Return_some (Calls.Constant_str ⟨_, _, rfl, hl ▸ vr_str, rfl⟩))
theorem retC_bool {x : Bool} {k : Nat} {p q : Pos} : RetC [.Return (some (.Constant (.bool x) k p)) q] env (.bool x) := fun prog w A E s =>
  wpAny_execs_cons (wpAny_Return_some (wpAny_Constant_bool ⟨_, s.toks, rfl, vr_bool, rfl⟩))

theorem wpM_tryStmt_except {M : Model} {A : Around} {E : Value → Shared → Prop} {body orelse : Sem Flow} {h₀ : ExceptHandler} {hs : List ExceptHandler} {Q : Flow → Shared → Prop}
    (h : wpM m M A body (fun f s₁ => match f with | .next => wpM m M A orelse Q E s₁ | f => Q f s₁)
      (fun e s₁ => wpAny M A (noteFrame e env) (fun _ s₂ => wpAny M A (setFlight e none) (fun _ s₃ => wpAny M A (handleBy e env (h₀ :: hs)) Q E s₃) E s₂) E s₁) s) :
    wpM m M A (tryStmt false body (h₀ :: hs) orelse [] env) Q E s := by
  unfold tryStmt
  simp only [List.isEmpty_nil, if_true, List.isEmpty_cons, Bool.false_and, Bool.false_eq_true, if_false]
  refine wpM_bind (wpM_attempt (wpM_mono h (fun f s₁ h₁ => ?_) fun e s₁ h₁ => ?_))
  · cases f <;> first | exact h₁ | exact wpM_pure h₁
  · exact wpM_of (wpAny_bind (wpAny_mono h₁ (fun _ _ h₂ => wpAny_bind h₂) fun _ _ x => x))

/- landed: noted, and nothing in flight -/
theorem landed {A : Around} {E : Value → Shared → Prop} {e : Addr} {c : Value} {s₁ : Shared} {Q : Unit → Shared → Prop} (hf : FmOk f env n) (hfr : A.frames = f.A.frames) (hee : frameOf env = frameOf f.fenv) (x : Exn f (.ref e) c s₁)
    (k : ∀ s₃, Weak f s₃ → s₃.heap.FunFrames f.H0 (f.fenv :: f.outer) → (∃ a0, s₃.heap.TracedW f.H0 e c a0) → Q () s₃) :
    wpAny (model pw f.w) A (noteFrame (.ref e) env) (fun _ s₂ => wpAny (model pw f.w) A (setFlight (.ref e) none) Q E s₂) E s₁ := by
  refine exn_note x (hfr.trans hf.frames) hf.ff hf.efr hee fun s₂ x₂ qq1 => qq1.elim fun ea qq2 => qq2.elim fun a0 qq3 => qq3.elim fun q ht => ?_
  obtain rfl : e = ea := by injection q
  refine wpAny_setFlight_noneW x₂.stays x₂.frames ht fun h' k1 k2 k3 k4 => k _ ⟨k1, fun b o hb hd => ?_, x₂.gens, x₂.drawn, x₂.os⟩ k2 ⟨a0, k3⟩
  obtain ⟨sl, e1⟩ := x₂.up b o hb hd
  exact ⟨sl, k4 _ _ e1 hd⟩
theorem again_landed {M : Model} {A : Around} {E : Value → Shared → Prop} {e : Addr} {c a0 : Value} {s₁ : Shared} {Q : Unit → Shared → Prop} (w : Weak f s₁) (hfr : s₁.heap.FunFrames f.H0 (f.fenv :: f.outer)) (ht : s₁.heap.TracedW f.H0 e c a0)
    (k : ∀ s₃, Weak f s₃ → Q () s₃) : wpAny M A (setFlight (.ref e) none) Q E s₁ := by
  refine wpAny_setFlight_noneW w.stays hfr ht.at fun h' k1 k2 k3 k4 => k _ ⟨k1, fun b o hb hd => ?_, w.gens, w.drawn, w.os⟩
  obtain ⟨sl, e1⟩ := w.up b o hb hd
  exact ⟨sl, k4 _ _ e1 hd⟩

/- try, but for one built-in class; the handler hands back a constant -/
theorem xC_tryB {GG : Prop} {body : List Stmt} {T : Str} {X : String} {np hpos pos : Pos} {b₀ : Stmt} {suite : List Stmt} {a : AV} {Φ : AF → St → Prop} (hf : FmOk f env n) (hee : frameOf env = frameOf f.fenv)
    (hb : EsM m f body env σ Φ (fun c => GG ∧ c = .type X))
    (hT : env.kindOf T = some .globalImplicit) (hTn : ∀ w, nsIn (KK w) mainGlobals T = some none) (hTv : bootBuiltins T = some (.type X)) (hTne : T ≠ "__name__") (hTd : (T == ("__debug__" : Str)) = false)
    (hexc : isSubtype (.type X) (.type "BaseException") = pure true) (hnt : isSubtype (.type ((Manifest.find? X).elim "type" fun x => x.metatype)) (.type "tuple") = pure false) (hsub : isSubtype (.type X) (.type X) = pure true)
    (hret : RetC (b₀ :: suite) env a) :
    ∀ ρ s, Rep f ρ σ s → wpM m (model pw f.w) f.A (exec (.Try body [.ExceptHandler (some (.Name T np)) none (b₀ :: suite) hpos] [] [] pos) env)
      (fun fl s' => PV f ρ FR Φ fl s' ∨ (GG ∧ ∃ v, fl = .ret v ∧ VR [] v a ∧ Weak f s')) (fun _ _ => False) s := fun ρ s r => by
  rw [arm_exec_Try]
  refine wpM_bindA (wpAny_standAt (wpM_tryStmt_except (wpM_mono (hb ρ s r) (fun fl s₁ q => ?_) fun e s₁ q => ?_)))
  · cases fl <;> first | exact wpM_of (wpAny_execs_nil (.inl q)) | exact .inl q
  obtain ⟨c, x, hgg, rfl⟩ := q
  obtain ⟨ea, rfl, hen, _⟩ := x.exc
  obtain ⟨mg, mb, G⟩ := hf.g
  obtain ⟨loose, mean, Tp⟩ := G.top
  refine landed hf rfl hee x fun s₃ w₃ f₃ qq4 => qq4.elim fun a0 t₃ => ?_
  obtain ⟨oe3, he3, hc3⟩ := t₃.at.there
  refine wpAny_handleBy_builtin (X := X) (T := X) (b := true) hexc hnt hsub
    (Calls.Name_function_global hf.kind hT (Calls.loadGlobal_builtin (hf.glob ▸ Tp.g.keeps w₃.stays) (mg_none_of G.kin Tp.g (hTn _)) (hf.bui ▸ Tp.b.keeps w₃.stays) ((Tp.builtins T hTne).trans hTv) ⟨rfl, ⟨oe3, he3, hc3⟩, ?_⟩) hTd)
  show wpAny _ _ _ _ _ _
  refine again_landed w₃ f₃ t₃ fun s₄ w₄ => ?_
  refine wpAny_mono (hret _ _ _ _ _) (fun fl s' qq5 => qq5.elim fun v qq6 => qq6.elim fun tk qq7 => qq7.elim fun e1 qq8 => qq8.elim fun e2 e3 => .inr ⟨hgg, v, e1, e2, ?_⟩) fun _ _ q => q
  subst e3
  exact ⟨w₄.stays, w₄.up, w₄.gens, w₄.drawn, w₄.os⟩
/- and for one own class -/
theorem xC_tryO {GG : Prop} {body : List Stmt} {T : Str} {C : Addr} {bmB : List Value} {newId : String} {np hpos pos : Pos} {b₀ : Stmt} {suite : List Stmt} {a : AV} {Φ : AF → St → Prop} (hf : FmOk f env n) (hee : frameOf env = frameOf f.fenv)
    (hb : EsM m f body env σ Φ (fun c => GG ∧ c = .ref C))
    (hT : env.kindOf T = some .globalImplicit) (hTn : ∀ w, nsIn (KK w) mainGlobals T = some (some (.ref C))) (hTd : (T == ("__debug__" : Str)) = false)
    (hq : ∀ w, excIn (KK w) C bmB newId = true) (hbase : bmB.contains (.type "BaseException") = true)
    (hret : RetC (b₀ :: suite) env a) :
    ∀ ρ s, Rep f ρ σ s → wpM m (model pw f.w) f.A (exec (.Try body [.ExceptHandler (some (.Name T np)) none (b₀ :: suite) hpos] [] [] pos) env)
      (fun fl s' => PV f ρ FR Φ fl s' ∨ (GG ∧ ∃ v, fl = .ret v ∧ VR [] v a ∧ Weak f s')) (fun _ _ => False) s := fun ρ s r => by
  rw [arm_exec_Try]
  refine wpM_bindA (wpAny_standAt (wpM_tryStmt_except (wpM_mono (hb ρ s r) (fun fl s₁ q => ?_) fun e s₁ q => ?_)))
  · cases fl <;> first | exact wpM_of (wpAny_execs_nil (.inl q)) | exact .inl q
  obtain ⟨c, x, hgg, rfl⟩ := q
  obtain ⟨ea, rfl, hen, _⟩ := x.exc
  obtain ⟨mg, mb, G⟩ := hf.g
  obtain ⟨loose, mean, Tp⟩ := G.top
  refine landed hf rfl hee x fun s₃ w₃ f₃ qq9 => qq9.elim fun a0 t₃ => ?_
  obtain ⟨oe3, he3, hc3⟩ := t₃.at.there
  have O := own_of_in G.kin (topRead_of Tp) (hTn _) (hq _)
  obtain ⟨tl, N, nm, qn, bs, hdct, sn, sub, ab, col, dd, k0, k1, k2, k3, k5, mN, hC, hN, hni, TTl⟩ := O.obj
  have hst := w₃.stays
  refine wpAny_handleBy_cons (codeAny_handlers_test (Calls.Name_function_global hf.kind hT (Calls.loadGlobal_global (hf.glob ▸ Tp.g.keeps hst) (mg_of G.kin Tp.g (hTn _)) ?_) hTd)) (by intro q; cases q)
  obtain ⟨h3, g3, d3, tk3, os3⟩ := s₃
  refine wpAny_excMatches_sub_self (hst _ _ hC) he3 hc3 ((TTl.keeps hst).hasType hbase) (codeAny_handlers_suite ?_)
  refine again_landed w₃ f₃ t₃ fun s₄ w₄ => ?_
  refine wpAny_mono (hret _ _ _ _ _) (fun fl s' qq10 => qq10.elim fun v qq11 => qq11.elim fun tk qq12 => qq12.elim fun e1 qq13 => qq13.elim fun e2 e3 => .inr ⟨hgg, v, e1, e2, ?_⟩) fun _ _ q => q
  subst e3
  exact ⟨w₄.stays, w₄.up, w₄.gens, w₄.drawn, w₄.os⟩
end
end

/- # F33 -/
section
open PySem PySem.Calls PyProof.Rows PySem.W

section
variable {m : Mod} {M : Model} {A : Around} {E : Value → Shared → Prop} {s : Shared} {env : Env}
theorem wpM_Assign_Name {x pos' value pos} {Q : Flow → Shared → Prop}
    (h : wpM m M A (eval value env) (fun v s₁ => wpAny M A (storeName env x v) (fun _ => Q .next) E s₁) E s) (hs : swapsWith value (some (.Name x pos')) pos.line env = pure false) :
    wpM m M A (exec (.Assign [.Name x pos'] value pos) env) Q E s := fun Γ p hΓ hg => by
  simp only [exec_Assign_Name env x pos' value pos hs, Sem.wp_bind', Sem.wp_cmd_standAt, Sem.wp_bindName, Sem.wp_pure']
  exact Sem.wp_mono M Γ _ (fun v _ s₁ h₁ => h₁ Γ _ hΓ) (fun _ _ _ h' => h') _ _ (h Γ _ hΓ hg)
theorem wpM_Return_some {e pos} {Q : Flow → Shared → Prop} (h : wpM m M A (eval e env) (fun v => Q (.ret v)) E s) : wpM m M A (exec (.Return (some e) pos) env) Q E s := fun Γ p hΓ hg => by
  simp only [exec_Return_some, Sem.wp_bind', Sem.wp_cmd_standAt, Sem.wp_pure']; exact h Γ _ hΓ hg
theorem wpM_isTrue_Compare1 {l op r pos whole} {Q : Bool → Shared → Prop}
    (h : wpM m M A (eval l env) (fun a s₁ => wpM m M A (eval r env) (fun b s₂ => wpM m M A (compareOp op a b) (fun c s₃ => wpM m M A (truthy c) Q E s₃) E s₂) E s₁) E s)
    (hm : behindInMarks op r = false) : wpM m M A (isTrue (.Compare l [op] [r] pos) env whole) Q E s := fun Γ p hΓ hg => by
  simp only [isTrue_Compare1, markedBehindIn_of_false hm, Sem.wp_bind', Sem.wp_holding, Sem.wp_cmd_standAt, Sem.wp_operate]
  exact Sem.wp_mono M Γ _ (fun a p₁ s₁ h₁ => Sem.wp_mono M Γ _ (fun b _ s₂ h₂ => Sem.wp_mono M Γ _ (fun c p₃ s₃ h₃ => h₃ Γ p₃ hΓ hg)
    (fun _ _ _ h' => h') _ _ (h₂ Γ _ hΓ hg)) (fun _ _ _ h' => h') _ _ (h₁ Γ p₁ hΓ hg)) (fun _ _ _ h' => h') _ _ (h Γ p hΓ hg)
theorem wpM_keep {α : Type} {vs : List Value} {t : Sem α} {Q : α → Shared → Prop} (h : wpM m M A t Q E s) : wpM m M A (t.keep vs) Q E s :=
  fun Γ p hΓ hg => by rw [Sem.wp_keep]; exact h Γ p hΓ hg
theorem wpM_ite {α : Type} {c : Bool} {a b : Sem α} {Q : α → Shared → Prop} (ha : c = true → wpM m M A a Q E s) (hb : c = false → wpM m M A b Q E s) : wpM m M A (if c = true then a else b) Q E s := by
  cases c
  · exact hb rfl
  · exact ha rfl
theorem callWith_functionM {pos : Pos} {a : Addr} {o : Obj} {fd : FuncData} {e : Expr} {rest : List Expr} {Q : Value → Shared → Prop} (hdat : o.data = .func fd)
    (h : wpM m M A (spliced (backTo pos (starEach (e :: rest) env))) (fun vs s₁ => s₁.heap.get? a = some o ∧ wpM m M A (call (.ref a) vs) Q E s₁) E s)
    (he : starEach (e :: rest) env = (false, eval e env) :: starEach rest env) (hplain : (backTo pos (starEach rest env)).any (·.1) = false) :
    wpM m M A (callWith pos (.ref a) [] (backTo pos (starEach (e :: rest) env)) []) Q E s := by
  rw [he] at h ⊢
  unfold callWith
  refine wpM_bind (wpM_holding ?_)
  unfold evalArgs
  show wpM m M A (spliced ((false, _) :: _) >>= _) _ E s
  refine wpM_bind (wpM_mono h (fun vs s₁ h₁ => ?_) fun _ _ x => x)
  refine wpM_holding ?_
  refine wpM_bind (wpM_pure (wpM_bind (wpM_pure (wpM_pure ?_))))
  refine wpM_bindA (wpAny_standAt ?_)
  have tail : ∀ {t : Sem Value}, wpM m M A t Q E s₁ → wpM m M A (t >>= fun r => holding [r] point >>= fun _ => pure r) Q E s₁ :=
    fun ht => wpM_bind (wpM_mono ht (fun r s₂ hr => wpM_bindA (wpAny_holding (wpAny_point (wpM_pure hr)))) fun _ _ x => x)
  have hp : ((backTo pos ((false, eval e env) :: starEach rest env)).any fun x => x.1) = false := by
    show (false || (backTo pos (starEach rest env)).any (·.1)) = false; rw [hplain]; rfl
  simp only [hp, List.any_nil, Bool.or_false]
  refine wpM_bindA (t := keeperOf (.ref a)) ?_
  unfold keeperOf
  refine wpAny_bind (wpAny_load h₁.1 ?_)
  rw [hdat]
  refine wpAny_pure ?_
  dsimp only
  by_cases q : (backTo pos ((false, eval e env) :: starEach rest env)).length + 2 * ([] : List (Option Str × Sem Value)).length > 30
  · rw [if_pos q]; exact tail h₁.2
  · rw [if_neg q]; exact tail (t := callMarked plainCall (.ref a) vs []) (by unfold callMarked; exact wpM_keep h₁.2)
end
end

/- # F34 -/
section
open PySem PySem.Calls PyProof.Rows PySem.W

noncomputable def OpNM (m : Mod) {α β : Type} (f : Fm) (k : List Value → Sem α) (R : List Addr → α → β → Prop) (as : List AV) (σ : St) (Φ : β → St → Prop) (Ψ : Value → Prop) : Prop :=
  ∀ ρ vs, VRs ρ vs as → ∀ s, Rep f ρ σ s → wpM m (model pw f.w) f.A (k vs) (PV f ρ R Φ) (PE f Ψ) s
section
variable {m : Mod} {f : Fm} {env : Env} {n : Nat} {Ψ : Value → Prop} {ρ : List Addr} {σ : St} {s : Shared}
theorem o_callM {k : Nat} {p : Addr} {args : List AV} {Φr : RV → Prop} {Ψr : Value → Prop} {Φ : AV → St → Prop} (hf : FmOk f env n) (hF : FnM m k p args Φr Ψr) (hm : k ≤ n) (hfl : FlatL args)
    (hΦ : ∀ r, Φr r → RvOk Φ σ r) (hΨ : ∀ c, Ψr c → Ψ c) : OpNM m f (fun vs => call (.ref p) vs) VR args σ Φ Ψ := fun ρ vs hv s r => by
  refine wpM_mono (hF _ _ _ _ _ _ (r.cal hf hm) (VRs.flat hv hfl)) (fun v s' qq1 => qq1.elim fun rv h1 h2 h3 h4 h5 h6 => ?_) fun e s' qq2 => qq2.elim fun c h1 h2 => ⟨c, h1.exn r, hΨ c h2⟩
  cases rv with
  | flat a => exact ⟨ρ, a, σ, List.prefix_refl _, r.same h2 h3 h4 h5, VR.mono List.nil_prefix h1, hΦ _ h6⟩
  | obj o =>
    obtain ⟨a, ob, rfl, h7, h8, h9⟩ := h1
    refine ⟨ρ ++ [a], .ref σ.mem.length, σ.new o, List.prefix_append .., r.new h2 h3 h4 h5 h9 h7 (h8.mono List.nil_prefix), ⟨a, ?_, rfl⟩, hΦ _ h6⟩
    rw [← paired_length r.mem]; simp
/- a def that catches, called from the one frame on the stack -/
theorem o_callC {k : Nat} {p : Addr} {args : List AV} {Φr : AV → Prop} {Φ : AV → St → Prop} (hf : FmOk f env n) (ho : f.outer = []) (hFL : f.FL = f.L) (hF : FnC m k p args Φr) (hm : k ≤ n) (hfl : FlatL args)
    (hΦ : ∀ a, Φr a → Φ a σ) : OpNM m f (fun vs => call (.ref p) vs) VR args σ Φ Ψ := fun ρ vs hv s r => by
  refine wpM_mono (hF _ _ _ _ _ _ (r.cal hf hm) (VRs.flat hv hfl)) (fun v s' qq3 => qq3.elim fun a qq4 => qq4.elim fun h1 qq5 => qq5.elim fun h2 qq6 => qq6.elim fun h3 qq7 => qq7.elim fun h4 qq8 => qq8.elim fun h5 h6 => ?_) fun e s' q => q.elim
  have hfr : frs (f.fenv :: f.outer) = [f.L] := by unfold frs; rw [ho, List.filterMap_cons, hf.ff, hFL]; rfl
  have old : ∀ b o, b ≠ f.L → s.heap.get? b = some o → s'.heap.get? b = some o := fun b o hb e => h2.old b o (by rw [hfr]; simpa using hb) e
  refine ⟨ρ, a, σ, List.prefix_refl _, ⟨fun b o e => old b o (fun q => by rw [q, hf.lnew hFL] at e; (first | exact nn e | exact sn e | exact tf e | exact ft e | cases e)) (r.keep b o e), ?_, ?_, r.nodup, h3.trans r.gens, h4.trans r.drawn, h5.trans r.os⟩, h1.mono List.nil_prefix, hΦ a h6⟩
  · obtain ⟨mm, g1, g2⟩ := r.ns
    exact ⟨mm, h2.up.ns g1, g2⟩
  · exact paired_mono (fun b _ qq9 => qq9.elim fun ob qq10 => qq10.elim fun g1 qq11 => qq11.elim fun g2 qq12 => qq12.elim fun g3 g4 => ⟨ob, old _ _ g4 g1, g2, g3, g4⟩) r.mem
noncomputable abbrev KNM (m : Mod) (f : Fm) (Ψ : Value → Prop) (k : List Value → Sem Value) (Φ : AV → St → Prop) (as : List AV) (σ₁ : St) : Prop := OpNM m f k VR as σ₁ Φ Ψ
noncomputable abbrev KNM' (m : Mod) (f : Fm) (Ψ : Value → Prop) (k : List Value → Sem Value) (Φ : AV → St → Prop) (a : AV) (as : List AV) (σ₁ : St) : Prop := OpNM m f k VR (a :: as) σ₁ Φ Ψ
theorem e_callDM {x : Str} {np pos : Pos} {e : Expr} {rest : List Expr} {p : Addr} {oc : Value} {od : Option Addr} {osl : Array (Option Value)} {fd : FuncData} {Φ : AV → St → Prop} (hf : FmOk f env n) (hx : env.kindOf x = some .globalImplicit)
    (hn : ∀ w, nsIn (KK w) mainGlobals x = some (some (.ref p))) (hk : ∀ w, (KK w).lookup p = some ⟨oc, od, .func fd, osl⟩)
    (h : Ta f (e :: rest) env pos σ (KNM m f Ψ (fun vs => call (.ref p) vs) Φ) Ψ) (hd : (x == ("__debug__" : Str)) = false := by kernel_rfl)
    (he : starEach (e :: rest) env = (false, eval e env) :: starEach rest env := by rfl) (hplain : (backTo pos (starEach rest env)).any (·.1) = false := by rfl)
    (hc : eval (.Call (.Name x np) (e :: rest) [] pos) env = (do callWith pos (← eval (.Name x np) env) [] (backTo pos (starEach (e :: rest) env)) (backToKw pos (keywordEach [] env))) := by rfl) :
    EvM m f (.Call (.Name x np) (e :: rest) [] pos) env σ Φ Ψ := fun ρ s r => by
  rw [hc]
  refine wpM_bindA (wpAny_mono (e_glob (Φ := fun a σ' => a = .val (.ref p) ∧ σ' = σ) (Ψ := Ψ) (p := np) hf hx hn vr_val ⟨rfl, rfl⟩ hd ρ s r) (fun v s₁ qq13 => qq13.elim fun ρ₁ a σ₁ p1 r1 v1 qq14 => qq14.elim fun e1 e2 => ?_) fun _ _ q => q)
  subst e1 e2
  have q : v = .ref p := v1
  subst q
  refine callWith_functionM (fd := fd) (o := ⟨oc, od, .func fd, osl⟩) rfl (wpM_of (wpAny_mono (h ρ₁ _ r1) (fun vs s₂ qq15 => qq15.elim fun ρ₂ as σ₂ p2 r2 v2 h2 => ⟨?_, wpM_mono (h2 ρ₂ _ v2 _ r2) (fun _ _ q => q.mono (p1.trans p2)) fun _ _ q => q⟩) fun _ _ q => q)) he hplain
  obtain ⟨mg, mb, G⟩ := hf.g
  exact (G.kin.keeps (r2.stays hf)) _ _ (hk _)
noncomputable abbrev KIfM (m : Mod) (f : Fm) (env : Env) (Ψ : Value → Prop) (a b : Expr) (Φ : AV → St → Prop) (c : Bool) (σ₁ : St) : Prop := if c = true then EvM m f a env σ₁ Φ Ψ else EvM m f b env σ₁ Φ Ψ
theorem e_ifM {t a b : Expr} {p : Pos} {Φ : AV → St → Prop} (h : Tt f t env σ (KIfM m f env Ψ a b Φ) Ψ) : EvM m f (.IfExp t a b p) env σ Φ Ψ := fun ρ s rp => by
  rw [arm_eval_IfExp]
  refine wpM_bindA (wpAny_mono (h ρ s rp) (fun c _ qq16 => qq16.elim fun ρ₁ c' _ p1 r1 v1 h1 => ?_) fun _ _ q => q)
  obtain rfl : c = c' := v1
  cases c with
  | true => exact wpM_mono ((show EvM m f a env _ Φ Ψ from h1) ρ₁ _ r1) (fun _ _ q => q.mono p1) fun _ _ q => q
  | false => exact wpM_mono ((show EvM m f b env _ Φ Ψ from h1) ρ₁ _ r1) (fun _ _ q => q.mono p1) fun _ _ q => q
theorem x_assignM {x : Str} {xp p : Pos} {e : Expr} {Φ : AF → St → Prop} (hf : FmOk f env n) (hx : env.kindOf x = some .local)
    (h : EvM m f e env σ (Sto x Φ) Ψ) (hfr : env.frame = some env.locals := by rfl) (hs : swapsWith e (some (.Name x xp)) p.line env = pure false := by rfl) :
    ExM m f (.Assign [.Name x xp] e p) env σ Φ Ψ := fun ρ s r =>
  wpM_Assign_Name (wpM_mono (h ρ s r) (fun v s₁ qq17 => qq17.elim fun ρ₁ a σ₁ p1 r1 v1 h1 => rep_store hf hx hfr r1 v1 fun s' r' => ⟨ρ₁, .next, _, p1, r', fr_next, h1⟩) fun _ _ q => q) hs
theorem x_returnM {e : Expr} {p : Pos} {Φ : AF → St → Prop} (h : EvM m f e env σ (Rtn Φ) Ψ) : ExM m f (.Return (some e) p) env σ Φ Ψ := fun ρ s r =>
  wpM_Return_some (wpM_mono (h ρ s r) (fun v _ qq18 => qq18.elim fun ρ₁ a _ p1 r1 v1 h1 => ⟨ρ₁, .ret a, _, p1, r1, ⟨v, rfl, v1⟩, h1⟩) fun _ _ q => q)
noncomputable abbrev KRM (m : Mod) (f : Fm) (env : Env) (Ψ : Value → Prop) (k : Value → Value → Sem Value) (r : Expr) (Φ : AV → St → Prop) (a : AV) (σ₁ : St) : Prop := EvM m f r env σ₁ (K2 f Ψ k AV VR Φ a) Ψ
theorem t_compareM {l r : Expr} {op : CmpOp} {p : Pos} {Φ : Bool → St → Prop}
    (h : EvM m f l env σ (KRM m f env Ψ (compareOp op) r (KB Φ)) Ψ) (hm : behindInMarks op r = false := by with_unfolding_all rfl) : TtM m f (.Compare l [op] [r] p) env σ Φ Ψ := fun ρ s rp =>
  wpM_isTrue_Compare1 (wpM_mono (h ρ s rp) (fun _ _ qq19 => qq19.elim fun ρ₁ _ _ p1 r1 v1 h1 => wpM_mono (h1 ρ₁ _ r1) (fun _ _ qq20 => qq20.elim fun ρ₂ _ _ p2 r2 v2 h2 =>
    wpM_of (wpAny_mono (h2 ρ₂ _ _ (v1.mono p2) v2 _ r2) (fun _ _ qq21 => qq21.elim fun ρ₃ c _ p3 r3 v3 qq22 => qq22.elim fun t e h3 => by
      subst e
      obtain rfl : _ = Value.bool t := v3
      exact wpM_of (wpAny_truthy_bool ⟨ρ₃, t, _, (p1.trans p2).trans p3, r3, rfl, h3⟩)) fun _ _ q => q)) fun _ _ q => q) fun _ _ q => q) hm
noncomputable def TAllM (m : Mod) (f : Fm) (op : BoolOp) (es : List Expr) (env : Env) (σ : St) (Φ : Bool → St → Prop) (Ψ : Value → Prop) : Prop := TrM m f (allTrue op es env) BR σ Φ Ψ
theorem t_boolM {op : BoolOp} {es : List Expr} {p : Pos} {Φ : Bool → St → Prop} (h : TAllM m f op es env σ Φ Ψ) : TtM m f (.BoolOp op es p) env σ Φ Ψ := h
theorem taM_nil {op : BoolOp} {Φ : Bool → St → Prop} (h : Φ (op == .And) σ) : TAllM m f op [] env σ Φ Ψ := fun _ _ r => wpM_pure (pv r rfl h)
noncomputable abbrev KOrM (m : Mod) (f : Fm) (env : Env) (Ψ : Value → Prop) (es : List Expr) (Φ : Bool → St → Prop) (b : Bool) (σ₁ : St) : Prop := if b = true then Φ true σ₁ else TAllM m f .Or es env σ₁ Φ Ψ
theorem taM_or {e : Expr} {es : List Expr} {Φ : Bool → St → Prop} (h : TtM m f e env σ (KOrM m f env Ψ es Φ) Ψ) : TAllM m f .Or (e :: es) env σ Φ Ψ := fun ρ s rp => by
  rw [arm_allTrue_cons]
  refine wpM_bind (wpM_mono (h ρ s rp) (fun b _ qq24 => qq24.elim fun ρ₁ b' _ p1 r1 v1 h1 => ?_) fun _ _ q => q)
  obtain rfl : b = b' := v1
  cases b with
  | true => exact wpM_pure ⟨ρ₁, true, _, p1, r1, rfl, h1⟩
  | false => exact wpM_mono ((show TAllM m f .Or es env _ Φ Ψ from h1) ρ₁ _ r1) (fun _ _ q => q.mono p1) fun _ _ q => q
theorem t_valueM {e : Expr} {Φ : Bool → St → Prop} (h : EvM m f e env σ (K1 f Ψ truthy Bool BR Φ) Ψ)
    (he : ∀ whole, isTrue e env whole = (do let v ← whole; standAt e.pos; holding [v] (truthy v)) := by intro _; rfl) : TtM m f e env σ Φ Ψ := fun ρ s rp => by
  rw [he]
  exact wpM_bind (wpM_mono (h ρ s rp) (fun _ _ qq25 => qq25.elim fun ρ₁ _ _ p1 r1 v1 h1 => wpM_bindA (wpAny_standAt (wpM_holding (wpM_of (wpAny_mono (h1 ρ₁ _ v1 _ r1) (fun _ _ q => q.mono p1) fun _ _ q => q))))) fun _ _ q => q)
end
end

/- # F35 -/
section
open PySem PySem.Calls PyProof.Rows PySem.W

theorem fnM_intro {m : Mod} {n : Nat} {p : Addr} {oc : Value} {od : Option Addr} {osl : Array (Option Value)} {fd : FuncData} {body : List Stmt} {args full : List AV} {names : List Str} {Φ : RV → Prop} {Ψ : Value → Prop}
    (hk : ∀ w, (KK w).lookup p = some ⟨oc, od, .func fd, osl⟩) (hbody : fd.body = .stmts body) (hcode : ∀ w, codeIn (KK w) fd.code fd.qualname = true)
    (hbind : ∀ w (s : Shared) vs, VRs [] vs args → (KK w).In s.heap → ∃ binds, BindsTo s fd ⟨vs, []⟩ binds ∧ binds.map (·.1) = names ∧ VRs [] (binds.map (·.2)) full)
    (hloc : (names.all fun x => decide (fd.scope.names.lookup x = some .local)) = true)
    (hcell : (fd.scope.names.all fun x => decide (x.2 ≠ .cell)) = true)
    (hglob : fd.globals = mainGlobals) (hbui : fd.builtins = builtinsNs)
    (h : ∀ f : Fm, FmOk f (callEnv fd f.L p) n → f.fenv = callEnv fd f.L p → EsM m f body (callEnv fd f.L p) ⟨(names.zip full).reverse, []⟩ (RetOk Φ) Ψ)
    (hco : fd.scope.isCoroutine = false := by rfl) (hgen : fd.scope.isGenerator = false := by rfl) (hkind : fd.scope.kind = .function := by rfl) : FnM m (n + 1) p args Φ Ψ := by
  intro w A H0 l s vs hc hv
  obtain ⟨mg, mb, G⟩ := hc.g
  obtain ⟨loose, mean, T⟩ := G.top
  have hin : (KK w).In s.heap := G.kin.keeps hc.stays
  obtain ⟨binds, hb, hbn, hbv⟩ := hbind w s vs hv hin
  refine wpM_call (codeM_call_def (fd := fd) (body := body) (binds := binds) ?_ (hin _ _ (hk w)) rfl (T.nolimit.keeps hc.stays) (codeRec_of hin (hcode w)) hbody hb ?_ ?_ (fun h₁ hns hkp => ?_) hco hgen hkind)
  · have := hc.depth
    show A.depth < 1000
    (first | lia | omega)
  · intro x hx
    exact of_decide_eq_true (List.all_eq_true.mp hcell x hx)
  · intro x hx
    refine of_decide_eq_true (List.all_eq_true.mp hloc x.1 ?_)
    rw [← hbn]
    exact List.mem_map_of_mem hx
  · let f : Fm := { w := w, A := A.deeper (callEnv fd s.heap.objs.size p), L := s.heap.objs.size, he := s.heap.get?, H0 := H0, outer := l, fenv := callEnv fd s.heap.objs.size p, FL := s.heap.objs.size, sg := s.gens, sd := s.drawn, so := s.os }
    have hno : s.heap.get? s.heap.objs.size = none := by
      cases q : s.heap.get? s.heap.objs.size with
      | none => rfl
      | some o => exact absurd (Heap.lt_size q) (Nat.lt_irrefl _)
    have hf : FmOk f (callEnv fd f.L p) n := by
      refine ⟨⟨mg, mb, G⟩, Around.frames_deeper hc.frames, hc.handled, ?_, ?_, hc.stays, ?_, rfl, ?_, .inl rfl, hc.stays.fresh, rfl, hglob, hbui, hkind, rfl, fun _ => hno, hc.guards, hgen, hco, hbui, hglob⟩
      · have := hc.depth
        show A.depth + 1 + n ≤ 900
        (first | lia | omega)
      · have := hc.units
        show A.units + 3 + 8 * n ≤ 9000
        (first | lia | omega)
      · intro h' hh
        exact hc.fun_.of_keeps fun b o hb hd => let ⟨sl, e⟩ := hh b o hb hd; ⟨_, e, rfl⟩
      · show fd.scope.kind ≠ .module
        rw [hkind]; decide
    have hr : Rep f [] ⟨(names.zip full).reverse, []⟩ { s with heap := h₁, toks := s.toks + binds.length } :=
      ⟨fun b o e => hkp b o e, ⟨_, hns, loc_of_binds hbv hbn⟩, .nil, .nil, rfl, rfl, rfl⟩
    refine wpM_mono (h f hf rfl [] _ hr) (fun fl s' qq1 => qq1.elim fun ρ' b σ' _ r' hb' hΦ' => ?_) fun e s' qq2 => qq2.elim fun c hx hΨ => ?_
    · have keep : ∀ b o, s.heap.get? b = some o → s'.heap.get? b = some o := r'.keep
      cases b with
      | next => have q : fl = .next := hb'; subst q; exact ⟨.flat .none, vr_none (ρ := []), keep, r'.gens, r'.drawn, r'.os, hΦ'⟩
      | brk => have q : fl = .brk := hb'; subst q; exact ⟨.flat .none, vr_none (ρ := []), keep, r'.gens, r'.drawn, r'.os, hΦ'⟩
      | cont => have q : fl = .cont := hb'; subst q; exact ⟨.flat .none, vr_none (ρ := []), keep, r'.gens, r'.drawn, r'.os, hΦ'⟩
      | ret a =>
        obtain ⟨v, rfl, hva⟩ := hb'
        cases a with
        | ref i =>
          obtain ⟨o, ho, hfl, hq⟩ := hΦ'
          obtain ⟨ad, had, rfl⟩ := hva
          obtain ⟨o', ho', ob, h1, h2, h3, h4⟩ := paired_get r'.mem had
          obtain rfl : o' = o := by rw [ho] at ho'; exact (Option.some.inj ho').symm
          exact ⟨.obj o', ⟨ad, ob, rfl, h1, h2.flat hfl, h3⟩, keep, r'.gens, r'.drawn, r'.os, hq⟩
        | _ => exact ⟨.flat _, VR.flat hva trivial, keep, r'.gens, r'.drawn, r'.os, hΦ'⟩
    · refine exn_leave hx (Around.frames_deeper hc.frames) rfl fun h' k1 k2 k3 k4 s'' e1 e2 e3 e4 => ?_
      subst e1
      exact ⟨c, ⟨k1, fun b o hb hd => k3 b o hb hd, k2, e2, e3, e4, k4⟩, hΨ⟩
theorem fnC_intro {m : Mod} {n : Nat} {p : Addr} {oc : Value} {od : Option Addr} {osl : Array (Option Value)} {fd : FuncData} {body : List Stmt} {args full : List AV} {names : List Str} {Φ : AV → Prop}
    (hk : ∀ w, (KK w).lookup p = some ⟨oc, od, .func fd, osl⟩) (hbody : fd.body = .stmts body) (hcode : ∀ w, codeIn (KK w) fd.code fd.qualname = true)
    (hbind : ∀ w (s : Shared) vs, VRs [] vs args → (KK w).In s.heap → ∃ binds, BindsTo s fd ⟨vs, []⟩ binds ∧ binds.map (·.1) = names ∧ VRs [] (binds.map (·.2)) full)
    (hloc : (names.all fun x => decide (fd.scope.names.lookup x = some .local)) = true)
    (hcell : (fd.scope.names.all fun x => decide (x.2 ≠ .cell)) = true)
    (hglob : fd.globals = mainGlobals) (hbui : fd.builtins = builtinsNs)
    (h : ∀ f : Fm, FmOk f (callEnv fd f.L p) n → f.fenv = callEnv fd f.L p → ∀ ρ s, Rep f ρ ⟨(names.zip full).reverse, []⟩ s → wpM m (model pw f.w) f.A (execs body (callEnv fd f.L p)) (fun fl s' => ∃ v a, fl = .ret v ∧ VR [] v a ∧ Weak f s' ∧ Φ a) (fun _ _ => False) s)
    (hco : fd.scope.isCoroutine = false := by rfl) (hgen : fd.scope.isGenerator = false := by rfl) (hkind : fd.scope.kind = .function := by rfl) : FnC m (n + 1) p args Φ := by
  intro w A H00 l s vs hc0 hv
  have hc := hc0.less
  generalize hH : PySem.W.less s.heap (frs l) = H0 at hc
  obtain ⟨mg, mb, G⟩ := hc.g
  obtain ⟨loose, mean, T⟩ := G.top
  have hin : (KK w).In s.heap := G.kin.keeps hc.stays
  obtain ⟨binds, hb, hbn, hbv⟩ := hbind w s vs hv hin
  refine wpM_call (codeM_call_def (fd := fd) (body := body) (binds := binds) ?_ (hin _ _ (hk w)) rfl (T.nolimit.keeps hc.stays) (codeRec_of hin (hcode w)) hbody hb ?_ ?_ (fun h₁ hns hkp => ?_) hco hgen hkind)
  · have := hc.depth
    show A.depth < 1000
    (first | lia | omega)
  · intro x hx
    exact of_decide_eq_true (List.all_eq_true.mp hcell x hx)
  · intro x hx
    refine of_decide_eq_true (List.all_eq_true.mp hloc x.1 ?_)
    rw [← hbn]
    exact List.mem_map_of_mem hx
  · let f : Fm := { w := w, A := A.deeper (callEnv fd s.heap.objs.size p), L := s.heap.objs.size, he := s.heap.get?, H0 := H0, outer := l, fenv := callEnv fd s.heap.objs.size p, FL := s.heap.objs.size, sg := s.gens, sd := s.drawn, so := s.os }
    have hno : s.heap.get? s.heap.objs.size = none := by
      cases q : s.heap.get? s.heap.objs.size with
      | none => rfl
      | some o => exact absurd (Heap.lt_size q) (Nat.lt_irrefl _)
    have hf : FmOk f (callEnv fd f.L p) n := by
      refine ⟨⟨mg, mb, G⟩, Around.frames_deeper hc.frames, hc.handled, ?_, ?_, hc.stays, ?_, rfl, ?_, .inl rfl, hc.stays.fresh, rfl, hglob, hbui, hkind, rfl, fun _ => hno, hc.guards, hgen, hco, hbui, hglob⟩
      · have := hc.depth
        show A.depth + 1 + n ≤ 900
        (first | lia | omega)
      · have := hc.units
        show A.units + 3 + 8 * n ≤ 9000
        (first | lia | omega)
      · intro h' hh
        exact hc.fun_.of_keeps fun b o hb hd => let ⟨sl, e⟩ := hh b o hb hd; ⟨_, e, rfl⟩
      · show fd.scope.kind ≠ .module
        rw [hkind]; decide
    have hr : Rep f [] ⟨(names.zip full).reverse, []⟩ { s with heap := h₁, toks := s.toks + binds.length } :=
      ⟨fun b o e => hkp b o e, ⟨_, hns, loc_of_binds hbv hbn⟩, .nil, .nil, rfl, rfl, rfl⟩
    refine wpM_mono (h f hf rfl [] _ hr) (fun fl s' qq3 => qq3.elim fun v qq4 => qq4.elim fun a qq5 => qq5.elim fun e1 qq6 => qq6.elim fun e2 qq7 => qq7.elim fun w' hΦ => ?_) fun e s' q => q.elim
    subst e1
    refine ⟨a, e2, ⟨fun b o hb e => ?_, fun b o e hd => w'.up b o e hd⟩, w'.gens, w'.drawn, w'.os, hΦ⟩
    refine w'.stays b o ?_
    show H0.get? b = some o
    rw [← hH]
    exact less_get e hb

theorem fnM_of {m : Mod} {n : Nat} {p : Addr} {args full : List AV} {names : List Str} {Φ : RV → Prop} {Ψ : Value → Prop} (D : Def p)
    (hbind : ∀ w (s : Shared) vs, VRs [] vs args → (KK w).In s.heap → ∃ binds, BindsTo s (fdAt p) ⟨vs, []⟩ binds ∧ binds.map (·.1) = names ∧ VRs [] (binds.map (·.2)) full)
    (hloc : (names.all fun x => decide ((fdAt p).scope.names.lookup x = some .local)) = true)
    (h : ∀ f : Fm, FmOk f (envAt p f.L) n → f.fenv = envAt p f.L → EsM m f (bodyAt p) (envAt p f.L) ⟨(names.zip full).reverse, []⟩ (RetOk Φ) Ψ) : FnM m (n + 1) p args Φ Ψ :=
  fnM_intro D.look D.body D.code hbind hloc D.cell D.glob D.bui h D.co D.gen D.kind
theorem fnC_of {m : Mod} {n : Nat} {p : Addr} {args full : List AV} {names : List Str} {Φ : AV → Prop} (D : Def p)
    (hbind : ∀ w (s : Shared) vs, VRs [] vs args → (KK w).In s.heap → ∃ binds, BindsTo s (fdAt p) ⟨vs, []⟩ binds ∧ binds.map (·.1) = names ∧ VRs [] (binds.map (·.2)) full)
    (hloc : (names.all fun x => decide ((fdAt p).scope.names.lookup x = some .local)) = true)
    (h : ∀ f : Fm, FmOk f (envAt p f.L) n → f.fenv = envAt p f.L → ∀ ρ s, Rep f ρ ⟨(names.zip full).reverse, []⟩ s → wpM m (model pw f.w) f.A (execs (bodyAt p) (envAt p f.L)) (fun fl s' => ∃ v a, fl = .ret v ∧ VR [] v a ∧ Weak f s' ∧ Φ a) (fun _ _ => False) s) : FnC m (n + 1) p args Φ :=
  fnC_intro D.look D.body D.code hbind hloc D.cell D.glob D.bui h D.co D.gen D.kind
end

/- # W136 -/
section
open PySem PySem.Calls PyProof.Rows PySem.W


section
variable {m : Mod} {f : Fm} {ρ : List Addr} {σ : St} {s : Shared} {env : Env} {n : Nat}
noncomputable def RetF (Φ : AV → Prop) : AF → St → Prop := fun fl _ => ∃ a, fl = .ret a ∧ a.Flat ∧ Φ a
theorem retF_done {Φ : AV → Prop} (hf : FmOk f env n) {fl : Flow} {s' : Shared} (h : PV f ρ FR (RetF Φ) fl s') : ∃ v a, fl = .ret v ∧ VR [] v a ∧ Weak f s' ∧ Φ a := by
  obtain ⟨ρ', b, σ', _, r, hb, a, rfl, hfl, hΦ⟩ := h
  obtain ⟨v, rfl, hv⟩ := hb
  exact ⟨v, a, rfl, hv.flat hfl, r.weak hf, hΦ⟩
theorem xC_seq {GG : Prop} {st : Stmt} {rest : List Stmt} {a : AV} {Φ : AV → Prop} (hf : FmOk f env n)
    (h : wpM m (model pw f.w) f.A (exec st env) (fun fl s' => PV f ρ FR (fun fl σ' => match fl with | .next => EsM m f rest env σ' (RetF Φ) (fun _ => False) | fl => RetF Φ fl σ') fl s' ∨ (GG ∧ ∃ v, fl = .ret v ∧ VR [] v a ∧ Weak f s')) (fun _ _ => False) s) (ha : GG → Φ a) :
    wpM m (model pw f.w) f.A (execs (st :: rest) env) (fun fl s' => ∃ v a, fl = .ret v ∧ VR [] v a ∧ Weak f s' ∧ Φ a) (fun _ _ => False) s := by
  rw [execs_cons]
  refine wpM_bind (wpM_mono h (fun fl s₁ q => ?_) fun _ _ q => q)
  rcases q with ⟨ρ', b, σ', _, r, hb, hq⟩ | ⟨hgg, v, rfl, hv, hw⟩
  · cases b with
    | next =>
      obtain rfl : fl = .next := hb
      exact wpM_mono ((show EsM m f rest env σ' (RetF Φ) _ from hq) ρ' _ r) (fun _ _ q => retF_done hf q) fun _ _ qq1 => qq1.elim fun _ _ q => q.elim
    | brk => obtain ⟨a, e, _⟩ := hq; cases e
    | cont => obtain ⟨a, e, _⟩ := hq; cases e
    | ret c =>
      obtain ⟨a, e, hfl, hΦ⟩ := hq
      obtain rfl : c = a := by injection e
      obtain ⟨v, rfl, hv⟩ := hb
      exact wpM_pure ⟨v, c, rfl, hv.flat hfl, r.weak hf, hΦ⟩
  · exact wpM_pure ⟨v, a, rfl, hv, hw, ha hgg⟩
end
theorem q136 {m : Mod} {b : List UInt8} {n : Nat} (hsz : b.length ≤ 1000) : FnC m (n + 3) 136 [.bytes b] (fun a => a = .bool (decide (b.length = 16))) := by
  refine fnC_of def136 (bind1 peek136) (by kernel_rfl) fun f hf hfe ρ s r => ?_
  have k0 : (⟨([("octets" : Str)].zip [AV.bytes b]).reverse, []⟩ : St).loc.lookup ("octets" : Str) = some (.bytes b) := by
    show List.lookup _ [(_, _)] = _
    rw [List.lookup_cons]; simp
  generalize (⟨([("octets" : Str)].zip [AV.bytes b]).reverse, []⟩ : St) = σ at r k0
  refine xC_seq (ρ := ρ) (GG := b.length ≠ 16) (a := .bool false) hf (xC_tryB (a := .bool false) (X := "ValueError") hf (by rw [hfe]) ?_ (by kernel_rfl) (by intro w; kernel_rfl) (by kernel_rfl) (by decide +kernel) (by kernel_rfl)
      (by rw [isSubtype_type]; kernel_rfl) (by rw [isSubtype_type]; kernel_rfl) (by rw [isSubtype_type]; kernel_rfl) retC_bool ρ s r) (fun h => by simp [h])
  refine xM_cons (TrM.of ?_)
  refine x_assign hf (by kernel_rfl) ?_ (by rfl) (by kernel_rfl)
  refine e_callD hf (by kernel_rfl) (by intro w; kernel_rfl) def56.look ?_
  refine a_cons ?_
  refine e_loc hf (by kernel_rfl) (by walk_at "lk") ?_
  refine a_nil ?_
  refine o_call hf (q56 (n := n) hsz) (by (first | lia | omega)) ⟨trivial, trivial⟩ ?_ (fun _ q => q)
  rintro r ⟨h16, rfl⟩
  refine xM_nil ?_
  refine TrM.of ?_
  refine x_cons ?_
  refine x_return ?_
  refine e_bool ?_
  exact ⟨_, rfl, trivial, by simp [h16]⟩
end

/- # F36 -/
section
open PySem PySem.Calls PyProof.Rows PySem.W

/- ## calls of built-ins in M form -/
section
variable {m : Mod} {prog : Program} {w : World} {A : Around} {E : Value → Shared → Prop} {s : Shared}
theorem wpM_call_entry {T : String} {name : Str} {id : String} {b : Builtin} {self : Value} {rest : List Value} {Q : Value → Shared → Prop} (h : Slot T name id) (hT : s.TypeIs self T)
    (hb : entryFor table id = some b) (hok : OkC (.builtin id ⟨self :: rest, []⟩))
    (hc : wpM m (model prog w) A.in1 (b ⟨self :: rest, []⟩) (fun fin s' => ∃ v, fin = .done (.ret v) ∧ Q v s') E s)
    (ha : argsOk id ⟨self :: rest, []⟩) : wpM m (model prog w) A (call (.builtin id) (self :: rest)) Q E s := by
  refine wpM_call (codeM_of_tree ?_)
  show wpM _ _ A.in1 (do checkBuiltinCall id ⟨self :: rest, []⟩; again (.builtin id ⟨self :: rest, []⟩)) _ _ s
  refine wpM_bindA (h.check _ _ _ _ _ _ _ _ hT ha (wpM_pure ⟨plainId_quiet h.plain _, hok, codeM_of_tree ?_⟩))
  show wpM _ _ _ (match entryFor table id with | some b => b ⟨self :: rest, []⟩ | none => unsupported ((withoutEnding? id "#data").getD id)) _ _ s
  rw [hb, Around.under_plainId h.plain]
  refine wpM_mono hc (fun fin s' qq1 => qq1.elim fun v qq2 => qq2.elim fun e hq => ?_) fun _ _ q => q
  subst e
  exact hq
theorem codeM_builtin {id : String} {args : Args} {b : Builtin} {R : Result → Shared → Prop} (hb : entryFor table id = some b)
    (h : wpM m (model prog w) (A.under (.builtin id args)) (b args) (fun fin s' => match fin with | .done f => R (.ok f) s' | .again c' => c'.quiet = true ∧ OkC c' ∧ codeM m (model prog w) A c' R s') (fun e s' => R (.error e) s') s) :
    codeM m (model prog w) A (.builtin id args) R s := by
  refine codeM_of_tree ?_
  show wpM _ _ _ (match entryFor table id with | some b => b args | none => unsupported ((withoutEnding? id "#data").getD id)) _ _ s
  rw [hb]; exact h
theorem bmM_if_false {α : Type} {M : Model} {c : Bool} {a b : Sem α} {Q : α → Shared → Prop} (hc : c = false) (h : wpM m M A b Q E s) : wpM m M A (if c = true then a else b) Q E s := by
  subst hc; exact h
theorem bmM_if_true {α : Type} {M : Model} {c : Bool} {a b : Sem α} {Q : α → Shared → Prop} (hc : c = true) (h : wpM m M A a Q E s) : wpM m M A (if c = true then a else b) Q E s := by
  subst hc; exact h
end

/- an entry under its other name -/
theorem entryFor_alias {tab : String → Option Builtin} {id c : String} {b : Builtin} (h0 : tab id = none) (hcut : id.cutAt '#' = [id]) (hm : (id.map fun c => if c.isAlphanum || c == '_' || c == '.' then c else '_') = id)
    (hc : Manifest.canonical id = c) (hb : tab c = some b) : entryFor tab id = some b := by
  unfold entryFor
  rw [h0]
  dsimp only
  rw [hcut]
  dsimp only
  rw [hm, hc, String.append_empty, hb]
namespace BF
theorem plainAttrs_bytearray : PlainAttrs "bytearray" :=
  ⟨⟨"bytearray.__getattribute__", by rw [typeLookup_type, builtinLookup_eq_fast]; kernel_rfl, by decide +kernel⟩, by rw [typeLookup_type, builtinLookup_eq_fast]; kernel_rfl⟩
theorem ba_mro : mroOf (.type "bytearray") = pure [.type "bytearray", .type "object"] := by rw [mroOf_type]; kernel_rfl
theorem ba_lookup_new : typeLookup (.type "bytearray") "__new__" = pure (some (.builtin "bytearray.__new__")) := by rw [typeLookup_type, builtinLookup_eq_fast]; kernel_rfl
theorem ba_slot_init : Slot "bytearray" "__init__" "bytearray.__init__" :=
  .of (owner := "bytearray") (n := "__init__") (by rw [typeLookup_type, builtinLookup_eq_fast]; kernel_rfl) (by decide +kernel) (by decide +kernel) (by decide +kernel)
    (by first | exact .inl (by decide +kernel) | exact .inr (by decide +kernel)) (by rw [isSubtype_type]; kernel_rfl)
theorem ba_called : TypeCalled "bytearray" "bytearray.__new__" "bytearray.__init__" :=
  ⟨by decide +kernel, by decide +kernel, ⟨_, _, ba_mro⟩, madeBy_type ba_mro ba_lookup_new (by decide +kernel), by decide +kernel, by rw [isSubtype_type]; kernel_rfl, ba_slot_init⟩
theorem ba_typeCall : checkTypeCall "bytearray" ⟨[], []⟩ = pure () := by kernel_rfl
theorem ba_newCall : checkBuiltinCall "bytearray.__new__" ⟨[.type "bytearray"], []⟩ = pure () := by kernel_rfl
theorem ba_c : Manifest.canonical "bytearray.__new__" = "list.__new__" := by decide +kernel
theorem ba_n : fastTable "bytearray.__new__" = none := by rw [fastTable_eq_tree]; kernel_rfl
theorem ba_l : fastTable "list.__new__" = some Builtin.«list.__new__» := by rw [fastTable_eq_tree]; kernel_rfl
theorem ba_cut : ("bytearray.__new__" : String).cutAt '#' = ["bytearray.__new__"] := by decide +kernel
theorem ba_mm : (("bytearray.__new__" : String).map fun c => if c.isAlphanum || c == '_' || c == '.' then c else '_') = "bytearray.__new__" := by decide +kernel
theorem ba_entry_new : entryFor table "bytearray.__new__" = some Builtin.«list.__new__» := entryFor_alias (by rw [table_eq_fast]; exact ba_n) ba_cut ba_mm ba_c (by rw [table_eq_fast]; exact ba_l)
theorem ba_entry_init : entryFor table "bytearray.__init__" = some Builtin.«bytearray.__init__» := by first | exact entryFor_of_fast (by kernel_rfl) | exact entryFor_of_tree (by kernel_rfl)
theorem ba_plain_new : plainId "bytearray.__new__" = true := by decide +kernel
theorem ba_plain_init : plainId "bytearray.__init__" = true := by decide +kernel
theorem ba_sub_self : isSubtype (.type "bytearray") (.type "bytearray") = pure true := by rw [isSubtype_type]; kernel_rfl
theorem ba_bind0 : Builtin.Bytes.bindOptional "bytearray.__init__" "bytearray" ["source", "encoding", "errors"] [] [] = pure [none, none, none] := by kernel_rfl
theorem ba_release : typeLookup (.type "bytearray") "__release_buffer__" = pure (some (.builtin "bytearray.__release_buffer__")) := by rw [typeLookup_type, builtinLookup_eq_fast]; kernel_rfl
theorem ba_buffer : typeLookup (.type "bytearray") "__buffer__" = pure (some (.builtin "bytearray.__buffer__")) := by rw [typeLookup_type, builtinLookup_eq_fast]; kernel_rfl
theorem ba_no_bytes : typeLookup (.type "bytearray") "__bytes__" = pure none := by rw [typeLookup_type, builtinLookup_eq_fast]; kernel_rfl
theorem ba_no_index : typeLookup (.type "bytearray") "__index__" = pure none := by rw [typeLookup_type, builtinLookup_eq_fast]; kernel_rfl
theorem ba_init_args (v : Value) : argsOk "bytearray.__init__" ⟨[v], []⟩ := by
  unfold argsOk; rw [signature?_of (id := "bytearray.__init__") (n := ['_', '_', 't', 'i', 'n', 'i', '_', '_']) (o := ['y', 'a', 'r', 'r', 'a', 'e', 't', 'y', 'b']) (by kernel_rfl) owner_bytearray]; kernel_rfl
end BF
set_option maxRecDepth 1000000 in
set_option maxHeartbeats 4000000 in
theorem owner_ba_new : ("bytearray.__new__".splitOn ".__new__").headD "" = "bytearray" := by simp +decide [String.splitOn, String.splitOnAux]
set_option maxRecDepth 1000000 in
set_option maxHeartbeats 4000000 in
theorem rel_ends : "bytearray.__release_buffer__".endsWith ("." ++ "__release_buffer__") = true := by decide +kernel
set_option maxRecDepth 1000000 in
set_option maxHeartbeats 4000000 in
theorem rel_drop : "bytearray.__release_buffer__".dropRight ("__release_buffer__".length + 1) = "bytearray" := by decide +kernel
set_option maxRecDepth 1000000 in
set_option maxHeartbeats 4000000 in
theorem buf_ends : "bytearray.__buffer__".endsWith ("." ++ "__buffer__") = true := by decide +kernel
set_option maxRecDepth 1000000 in
set_option maxHeartbeats 4000000 in
theorem buf_drop : "bytearray.__buffer__".dropRight ("__buffer__".length + 1) = "bytearray" := by decide +kernel
end

/- # F37 -/
section
open PySem PySem.Calls PyProof.Rows PySem.W

section
variable {prog : Program} {w : World} {A : Around} {E : Value → Shared → Prop} {s : Shared}
theorem ba_check {S : Addr} {arr : Array UInt8} {Q : Unit → Shared → Prop} (hg : A.guards = some []) (hS : s.heap.get? S = some { cls := .type "bytearray", data := .bytearray arr }) (h : Q () s) :
    wpM Gm (model prog w) A (Builtin.Bytes.checkResize (.ref S)) Q E s := by
  unfold Builtin.Bytes.checkResize
  refine wpM_bind (wpM_bind (exported_no hg ?_))
  show wpM Gm _ _ (Builtin.Bytes.exportsOf (.ref S) >>= fun r => pure (decide (r > 0))) _ _ _
  refine wpM_bindA ?_
  unfold Builtin.Bytes.exportsOf
  refine wpAny_bind (wpAny_load hS ?_)
  exact wpAny_pure (wpM_pure (wpM_pure h))
theorem ba_write {S : Addr} {arr : Array UInt8} {g : Array UInt8 → Array UInt8} {Q : Unit → Shared → Prop} (hS : s.heap.get? S = some { cls := .type "bytearray", data := .bytearray arr }) (hsz : (g arr).size ≤ sizeLine)
    (h : ∀ h', Heap.SameBut S s.heap h' → h'.get? S = some { cls := .type "bytearray", data := .bytearray (g arr) } → Q () { s with heap := h' }) :
    wpAny (model prog w) A (Builtin.Bytes.write (.ref S) g) Q E s := by
  show wpAny _ _ (updateBytearray S g) _ _ _
  unfold updateBytearray
  refine wpAny_bind (wpAny_load hS ?_)
  show wpAny _ _ (update S (Obj.mapBytearray g) >>= fun _ => lookBehind S) _ _ _
  refine wpAny_bind (wpAny_update hS ?_)
  have hS₂ : (s.heap.update S (Obj.mapBytearray g)).get? S = some { cls := .type "bytearray", data := .bytearray (g arr) } :=
    Heap.get?_update_self (Obj.mapBytearray g) hS rfl
  refine wpAny_lookBehind hS₂ ?_ ?_
  · show (if (g arr).size > sizeLine then some "bytearray:memory" else none) = none
    rw [if_neg]; (first | lia | omega)
  · exact h _ (Heap.SameBut.update ..) hS₂
theorem ba_append {S : Addr} {arr : Array UInt8} {k : Int} {t : Tok} {Q : Value → Shared → Prop} (hg : A.guards = some []) (hS : s.heap.get? S = some { cls := .type "bytearray", data := .bytearray arr }) (hk : 0 ≤ k ∧ k < 256) (hsz : arr.size < sizeLine)
    (h : ∀ h', Heap.SameBut S s.heap h' → h'.get? S = some { cls := .type "bytearray", data := .bytearray (arr.push k.toNat.toUInt8) } → Q .none { s with heap := h' }) :
    wpM Gm (model prog w) A (call (.builtin "bytearray.append") [.ref S, .int k t]) Q E s := by
  refine wpM_call_entry BF.slot_bytearray_append ⟨_, hS, rfl⟩ BF.entry_bytearray_append (show Builtin.Bytes.decodersThatHold.contains "bytearray.append" = false by decide +kernel) ?_ (BF.args_bytearray_append_2 _ _)
  unfold Builtin.«bytearray.append»
  refine wpM_bindA (wpAny_of_eq (a := (Value.ref S, Value.int k t)) rfl ?_)
  refine wpM_bindA ?_
  unfold Builtin.Bytes.byteValue
  refine wpAny_bind (wpAny_of_eq (rfl : asIndex (.int k t) = pure k) ?_)
  refine bm_if_false (by simp only [Bool.or_eq_false_iff, decide_eq_false_iff_not]; (first | lia | omega)) ?_
  refine wpAny_pure ?_
  refine wpM_bind (ba_check (A := A.in1) hg hS ?_)
  refine wpM_bindA (ba_write hS (by rw [Array.size_push]; (first | lia | omega)) fun h' hs' ho => ?_)
  exact wpM_pure ⟨_, rfl, h h' hs' ho⟩
theorem code_ba_new {Q₁ : Value → Shared → Prop} (h : Q₁ (.ref s.heap.objs.size) { s with heap := s.heap.push { cls := .type "bytearray", data := .bytearray #[] } }) :
    codeAny (model prog w) A (.call (.builtin "bytearray.__new__") ⟨[.type "bytearray"], []⟩) (wants Q₁ E) s := by
  refine codeAny_of_tree ?_
  show wpAny _ A.in1 (do checkBuiltinCall "bytearray.__new__" ⟨[.type "bytearray"], []⟩; again (.builtin "bytearray.__new__" ⟨[.type "bytearray"], []⟩)) _ _ s
  refine wpAny_bind (wpAny_of_eq BF.ba_newCall (wpAny_pure ⟨plainId_quiet BF.ba_plain_new _, codeAny_builtin_stack BF.ba_entry_new rfl fun p st => ?_⟩))
  rw [Around.under_plainId BF.ba_plain_new _]
  have hsub := BF.ba_sub_self
  have hown := owner_ba_new
  obtain ⟨hp, g, d, tk, os⟩ := s
  simp only [hown]
  wp_walk
  exact h
theorem ba_own {S : Addr} {arr : Array UInt8} {Q : Bool → Shared → Prop} (hS : s.heap.get? S = some { cls := .type "bytearray", data := .bytearray arr }) (h : Q false s) :
    wpAny (model prog w) A (Builtin.Bytes.ownRelease (.ref S)) Q E s := by
  have hT : s.TypeIs (.ref S) "bytearray" := ⟨_, hS, rfl⟩
  unfold Builtin.Bytes.ownRelease
  refine wpAny_bind ?_
  unfold Builtin.Bytes.slotIsOwn
  refine wpAny_bind (wpAny_specialOf hT BF.ba_release ?_)
  dsimp only
  rw [rel_ends, rel_drop]
  refine bm_if_false rfl ?_
  refine wpAny_isInstance hT BF.ba_sub_self ?_
  exact wpAny_pure h
theorem ba_init {S : Addr} {arr : Array UInt8} {Q : Fin → Shared → Prop} (hg : A.guards = some []) (hS : s.heap.get? S = some { cls := .type "bytearray", data := .bytearray arr })
    (h : ∀ h', Heap.SameBut S s.heap h' → h'.get? S = some { cls := .type "bytearray", data := .bytearray #[] } → Q (.done (.ret .none)) { s with heap := h' }) :
    wpM Gm (model prog w) A (Builtin.«bytearray.__init__» ⟨[.ref S], []⟩) Q E s := by
  unfold Builtin.«bytearray.__init__»
  refine wpM_bindA (ba_own hS ?_)
  refine bmM_if_false rfl ?_
  refine wpM_bindA (wpAny_of_eq BF.ba_bind0 ?_)
  dsimp only
  refine wpM_bindA (wpAny_of_eq (a := ()) rfl ?_)
  refine wpM_bindA (wpAny_of_eq (a := ()) rfl ?_)
  refine wpM_bind (wpM_bind (exported_no hg ?_))
  show wpM Gm _ _ (Builtin.Bytes.exportsOf (.ref S) >>= fun r => pure (decide (r > 0))) _ _ _
  refine wpM_bindA ?_
  unfold Builtin.Bytes.exportsOf
  refine wpAny_bind (wpAny_load hS ?_)
  refine wpAny_pure (wpM_pure ?_)
  refine bmM_if_false rfl ?_
  refine wpM_bindA (ba_write (g := fun _ => #[]) hS (Nat.zero_le _) fun h' hs' ho => ?_)
  refine wpM_bind ?_
  show wpM Gm _ _ (pure ()) _ _ _
  exact wpM_pure (wpM_pure (h h' hs' ho))
theorem call_bytearray {Q : Value → Shared → Prop} (hg : A.guards = some [])
    (h : ∀ h', (∀ b o, s.heap.get? b = some o → h'.get? b = some o) → h'.get? s.heap.objs.size = some { cls := .type "bytearray", data := .bytearray #[] } → Q (.ref s.heap.objs.size) { s with heap := h' }) :
    wpM Gm (model prog w) A (call (.type "bytearray") []) Q E s := by
  obtain ⟨c, tl, hmro⟩ := BF.ba_called.mro
  have hmade := BF.ba_called.made
  have hsub := BF.ba_called.sub
  have h1 := BF.ba_called.notType
  have h2 := BF.ba_called.canCreate
  refine wpM_call (codeM_of_tree ?_)
  show wpM _ _ _ (callAny (.type "bytearray") _) _ _ _
  refine wpM_pure ⟨Code.quiet_builtin _ (by decide +kernel), trivial, codeM_builtin F.entry_type_call ?_⟩
  rw [Around.under_plain (weight_type_call_type "bytearray" [] []) rfl]
  unfold Builtin.«type.__call__»
  refine bmM_if_false rfl ?_
  dsimp only
  refine bmM_if_false h2 ?_
  refine wpM_bindA (wpAny_of_eq BF.ba_typeCall ?_)
  refine wpM_bindA (wpAny_of_eq hmro ?_)
  refine bmM_if_false rfl ?_
  refine wpM_bindA (wpAny_of_eq hmade ?_)
  dsimp only
  refine wpM_bindA (wpAny_pure ?_)
  refine wpM_bindA (wpAny_holding (wpAny_call (codeAny_mono (code_ba_new (Q₁ := fun v s' => v = .ref s.heap.objs.size ∧ s' = { s with heap := s.heap.push { cls := .type "bytearray", data := .bytearray #[] } }) (E := fun _ _ => False) ⟨rfl, rfl⟩) fun r s₁ hr => ?_)))
  cases r with
  | error e => exact hr.elim
  | ok fl =>
    cases fl with
    | ret obj =>
      obtain ⟨rfl, rfl⟩ := hr
      have hS : (s.heap.push { cls := .type "bytearray", data := .bytearray #[] }).get? s.heap.objs.size = some { cls := .type "bytearray", data := .bytearray #[] } := Heap.get?_push_size _ rfl
      have hT : ({ s with heap := s.heap.push { cls := .type "bytearray", data := .bytearray #[] } } : Shared).TypeIs (.ref s.heap.objs.size) "bytearray" := ⟨_, hS, rfl⟩
      refine wpM_bindA (wpAny_isInstance hT BF.ba_sub_self ?_)
      refine bmM_if_false rfl ?_
      refine wpM_bind (wpM_holding ?_)
      unfold callSpecial?
      refine wpM_bindA (wpAny_specialOf hT BF.ba_slot_init.lookup ?_)
      dsimp only
      refine wpM_holding ?_
      refine wpM_bindA (wpAny_of_eq (BF.ba_slot_init.bind _) ?_)
      dsimp only
      refine wpM_bind ?_
      show wpM _ _ _ (call (.builtin "bytearray.__init__") [.ref s.heap.objs.size]) _ _ _
      refine wpM_call_entry BF.ba_slot_init hT BF.ba_entry_init (show Builtin.Bytes.decodersThatHold.contains "bytearray.__init__" = false by decide +kernel) ?_ (BF.ba_init_args _)
      refine ba_init (A := A.in1.in1) hg hS fun h' hs' ho => ⟨_, rfl, wpM_pure ?_⟩
      dsimp only
      refine bmM_if_false rfl ?_
      refine wpM_pure ?_
      refine h h' (fun b o e => ?_) ho
      exact (hs'.2 b (Nat.ne_of_lt (Heap.lt_size e))).trans (Heap.get?_push_of_some _ e)
    | _ => exact hr.elim
/- ## bytes(a bytearray) -/
theorem made_bytes {α : Type} {x : Array UInt8} {Q : Value → Shared → Prop} (hz : x.size ≤ sizeLine) (h : ∀ t k, Q (.bytes x t) { s with toks := k }) : wpAny (model prog w) A (mkBytes x) Q E s := wpAny_mkBytes (h _ _) hz
theorem bn_ba {S : Addr} {arr : Array UInt8} {Q : Value → Shared → Prop} (hS : s.heap.get? S = some { cls := .type "bytearray", data := .bytearray arr }) (hz : arr.size ≤ sizeLine)
    (h : ∀ t k, Q (.bytes arr t) { s with toks := k }) :
    codeAny (model prog w) A (.call (.builtin "bytes.__new__") ⟨[.type "bytes", .ref S], []⟩) (wants Q E) s := by
  have hT : s.TypeIs (.ref S) "bytearray" := ⟨_, hS, rfl⟩
  refine codeAny_of_tree ?_
  show wpAny _ A.in1 (do checkBuiltinCall "bytes.__new__" ⟨[.type "bytes", .ref S], []⟩; again (.builtin "bytes.__new__" ⟨[.type "bytes", .ref S], []⟩)) _ _ s
  refine wpAny_bind (wpAny_of_eq (F.bm_newCall _) (wpAny_pure ⟨plainId_quiet F.bm_plain _, codeAny_builtin F.bm_entry ?_⟩))
  rw [Around.under_plainId F.bm_plain _]
  unfold Builtin.«bytes.__new__»
  refine wpAny_bind (wpAny_of_eq (a := true) rfl (bm_if_false rfl (wpAny_bind (wpAny_of_eq F.bm_sub (bm_if_false rfl ?_)))))
  refine wpAny_bind (wpAny_of_eq (F.bm_bind _) (wpAny_bind (wpAny_of_eq (a := ()) rfl (wpAny_bind (wpAny_of_eq (a := ()) rfl (bm_if_false rfl ?_))))))
  refine wpAny_bind (wpAny_specialOf hT BF.ba_no_bytes (wpAny_bind (wpAny_bind ?_)))
  show wpAny _ _ (load S >>= _) _ _ _
  refine wpAny_bind (wpAny_load hS ?_)
  dsimp only
  refine wpAny_pure (wpAny_pure (bm_if_false rfl (wpAny_bind (wpAny_specialOf hT BF.ba_no_index (bm_if_true rfl ?_)))))
  first
    | show wpAny _ _ (Builtin.Bytes.buffer? "bytes.__new__" (.ref S) true >>= _) _ _ _
    | (refine wpAny_bind ?_; show wpAny _ _ (Builtin.Bytes.buffer? "bytes.__new__" (.ref S) true >>= _) _ _ _)
  refine wpAny_bind ?_
  unfold Builtin.Bytes.buffer?
  refine wpAny_bind (wpAny_specialOf hT BF.ba_buffer ?_)
  dsimp only
  refine wpAny_bind ?_
  unfold Builtin.Bytes.slotIsOwn
  refine wpAny_bind (wpAny_specialOf hT BF.ba_buffer ?_)
  dsimp only
  rw [buf_ends, buf_drop]
  refine bm_if_false rfl ?_
  refine wpAny_isInstance hT BF.ba_sub_self ?_
  refine bm_if_false rfl ?_
  refine wpAny_bind (wpAny_specialOf hT BF.ba_buffer ?_)
  try dsimp only
  refine wpAny_bind (ba_own hS ?_)
  refine bm_if_false rfl ?_
  refine wpAny_bind ?_
  unfold Builtin.Bytes.payload Builtin.Bytes.payload?
  refine wpAny_bind (wpAny_bind (wpAny_load hS ?_))
  refine wpAny_pure (wpAny_pure (wpAny_pure ?_))
  dsimp only
  refine wpAny_bind (wpAny_rule (wpAny_bind (wpAny_mkBytes ?_ hz)))
  show wpAny _ _ (if (Value.type "bytes" == Value.type "bytes") = true then _ else _) _ _ _
  refine bm_if_true (by decide) ?_
  first
    | exact wpAny_pure (h _ _)
    | exact wpAny_bind (wpAny_pure (wpAny_pure (h _ _)))
theorem call_bytes_ba {S : Addr} {arr : Array UInt8} {Q : Value → Shared → Prop} (hS : s.heap.get? S = some { cls := .type "bytearray", data := .bytearray arr }) (hz : arr.size ≤ sizeLine)
    (h : ∀ t k, Q (.bytes arr t) { s with toks := k }) : wpAny (model prog w) A (call (.type "bytes") [.ref S]) Q E s := by
  refine callType_codes (Q₁ := fun obj s₁ => s₁.TypeIs obj "bytes" ∧ Q obj s₁) F.bm_called (F.bm_typeCall _) F.entry_object_init
    (bn_ba hS hz fun t k => ⟨PySem.W.typeIs_bytes _ _ _, h t k⟩) fun obj s₁ h₁ => ?_
  exact ⟨h₁.1, F.args_object_init_2 obj _, object_init_meets F.bm_called.init.lookup F.bm_called.made (by decide) prog w A.in1 _ s₁ ⟨h₁.1, rfl, h₁.2⟩⟩
end

/- ## the operations -/
section
variable {m : Mod} {f : Fm} {env : Env} {n : Nat} {Ψ : Value → Prop} {ρ : List Addr} {σ : St} {s : Shared} {Φ : AV → St → Prop}
theorem Rep.baAt (r : Rep f ρ σ s) {j : Nat} {b : List UInt8} (hj : σ.mem[j]? = some (.ba b)) {v : Value} (hv : VR ρ v (.ref j)) :
    ∃ a, v = .ref a ∧ ρ[j]? = some a ∧ s.heap.get? a = some { cls := .type "bytearray", data := .bytearray b.toArray } := by
  obtain ⟨a, ha, rfl⟩ := hv
  obtain ⟨o, ho, ob, h1, h2, _⟩ := paired_get r.mem ha
  rw [hj] at ho
  obtain rfl := Option.some.inj ho
  obtain rfl : ob = _ := h2
  exact ⟨a, rfl, ha, h1⟩
theorem meth_baappend {j : Nat} {b : List UInt8} (hj : σ.mem[j]? = some (.ba b)) : MethOk f (.ref j) "append" "bytearray.append" σ := by
  intro M A pl E Q ρ v s hv r h
  obtain ⟨a, rfl, ha, hh⟩ := r.baAt hj hv
  exact getMethod_builtin ⟨_, hh, rfl⟩ BF.plainAttrs_bytearray BF.slot_bytearray_append BF.type_bytearray_append (fun _ e => by
    injection e with e; subst e; rw [hh]; exact ⟨_, rfl, rfl⟩) h
theorem o_baappend {j : Nat} {b : List UInt8} {k : Int} (hf : FmOk f env n) (hj : σ.mem[j]? = some (.ba b)) (hk : 0 ≤ k ∧ k < 256) (hsz : b.length ≤ 1000000) (h : Φ .none (σ.put j (.ba (b ++ [k.toNat.toUInt8])))) :
    OpNM Gm f (fun vs => call (.builtin "bytearray.append") vs) VR [.ref j, .int k] σ Φ Ψ := by
  intro ρ vs hv s r
  obtain ⟨v, u, rfl, h1, ⟨t, rfl⟩⟩ := vrs2 hv
  obtain ⟨a, rfl, ha, hh⟩ := r.baAt hj h1
  refine ba_append hf.guards hh hk (by rw [sizeLine_eq]; simp; (first | lia | omega)) fun h' hs ho => ?_
  refine ⟨ρ, .none, σ.put j (.ba (b ++ [k.toNat.toUInt8])), List.prefix_refl _, r.put (tk := s.toks) ha (fun b o hb e => (hs.2 b hb).trans e) ho ?_, vr_none, h⟩
  show _ = _
  simp
theorem o_bytearray (hf : FmOk f env n) (h : Φ (.ref σ.mem.length) (σ.new (.ba []))) : OpNM Gm f (fun vs => call (.type "bytearray") vs) VR [] σ Φ Ψ := by
  intro ρ vs hv s r
  cases hv
  refine call_bytearray hf.guards fun h' hk ho => ?_
  refine ⟨ρ ++ [s.heap.objs.size], .ref σ.mem.length, σ.new (.ba []), List.prefix_append .., r.new (s' := { s with heap := h' }) hk rfl rfl rfl (Heap.get?_none_of_le (Nat.le_refl _)) ho rfl, ⟨s.heap.objs.size, ?_, rfl⟩, h⟩
  rw [← paired_length r.mem]; simp
theorem o_bytes_ba {j : Nat} {b : List UInt8} (hj : σ.mem[j]? = some (.ba b)) (hsz : b.length ≤ 1000000) (h : Φ (.bytes b) σ) : OpN f (fun vs => call (.type "bytes") vs) VR [.ref j] σ Φ Ψ := by
  intro ρ vs hv s r
  obtain ⟨v, rfl, hv'⟩ := vrs1 hv
  obtain ⟨a, rfl, ha, hh⟩ := r.baAt hj hv'
  exact call_bytes_ba hh (by rw [sizeLine_eq]; simp; (first | lia | omega)) fun t k => pv r.tk vr_bytes h
end
end

/- # F38 -/
section
open PySem PySem.Calls PyProof.Rows PySem.W

section
variable {m : Mod} {f : Fm} {env : Env} {n : Nat} {Ψ : Value → Prop} {ρ : List Addr} {σ : St} {s : Shared}
theorem callWith_builtinM {A : Around} {M : Model} {E : Value → Shared → Prop} {pos : Pos} {id : String} {first : List Value} {args : List (Bool × Sem Value)} {Q : Value → Shared → Prop} (hplain : args.any (·.1) = false)
    (h : wpAny M A (evalArgs (.builtin id) true args []) (fun a s₁ => wpM m M A (call (.builtin id) (first ++ a.pos) a.kw) Q E s₁) E s) :
    wpM m M A (callWith pos (.builtin id) first args []) Q E s := by
  unfold callWith
  refine wpM_bindA (wpAny_holding (wpAny_mono h (fun a s₁ h₁ => wpM_bindA (wpAny_standAt ?_)) fun _ _ x => x))
  simp only [hplain, List.any_nil, Bool.or_false]
  refine wpM_bindA (wpAny_pure ?_)
  exact wpM_bind (wpM_mono h₁ (fun r s₂ hr => wpM_bindA (wpAny_holding (wpAny_point (wpM_pure hr)))) fun _ _ x => x)
theorem callWith_typeM {A : Around} {M : Model} {E : Value → Shared → Prop} {pos : Pos} {T : String} {first : List Value} {args : List (Bool × Sem Value)} {Q : Value → Shared → Prop} (hplain : args.any (·.1) = false)
    (h : wpAny M A (evalArgs (.type T) true args []) (fun a s₁ => wpM m M A (call (.type T) (first ++ a.pos) a.kw) Q E s₁) E s) :
    wpM m M A (callWith pos (.type T) first args []) Q E s := by
  unfold callWith
  refine wpM_bindA (wpAny_holding (wpAny_mono h (fun a s₁ h₁ => wpM_bindA (wpAny_standAt ?_)) fun _ _ x => x))
  simp only [hplain, List.any_nil, Bool.or_false]
  refine wpM_bindA (wpAny_pure ?_)
  exact wpM_bind (wpM_mono h₁ (fun r s₂ hr => wpM_bindA (wpAny_holding (wpAny_point (wpM_pure hr)))) fun _ _ x => x)
noncomputable abbrev KM1M (m : Mod) (f : Fm) (env : Env) (Ψ : Value → Prop) (name : Str) (id : String) (pos : Pos) (es : List Expr) (Φ : AV → St → Prop) (a : AV) (σ₁ : St) : Prop := MethOk f a name id σ₁ ∧ Ta f es env pos σ₁ (KNM' m f Ψ (fun vs => call (.builtin id) vs) Φ a) Ψ
theorem e_meth1M {o : Expr} {name : Str} {apos pos : Pos} {e : Expr} {rest : List Expr} {id : String} {pl : Sem Bool} {Φ : AV → St → Prop}
    (h : Ev f o env σ (KM1M m f env Ψ name id pos (e :: rest) Φ) Ψ)
    (he : starEach (e :: rest) env = (false, eval e env) :: starEach rest env := by rfl) (hplain : (backTo pos (starEach rest env)).any (·.1) = false := by rfl)
    (hm : eval (.Call (.Attribute o name apos) (e :: rest) [] pos) env = (do
      let ov ← eval o env
      standAt apos.atName
      let (f, first) ← holding [ov] (getMethod ov name pl)
      callWith pos f first (backTo pos (starEach (e :: rest) env)) []) := by rfl) :
    EvM m f (.Call (.Attribute o name apos) (e :: rest) [] pos) env σ Φ Ψ := fun ρ s r => by
  rw [hm]
  refine wpM_bindA (wpAny_mono (h ρ s r) (fun v s₁ qq1 => qq1.elim fun ρ₁ a σ₁ p1 r1 v1 qq2 => qq2.elim fun hme h1 => wpM_bindA (wpAny_standAt (wpM_bindA (wpAny_holding (hme _ _ _ _ _ _ _ _ v1 r1 ?_))))) fun _ _ q => q)
  rw [he]
  refine callWith_builtinM (by show (false || (backTo pos (starEach rest env)).any (·.1)) = false; rw [hplain]; rfl) (evalArgs_plain ?_)
  have h1' := h1 ρ₁ _ r1
  rw [he] at h1'
  exact wpAny_mono h1' (fun vs s₂ qq3 => qq3.elim fun ρ₂ as σ₂ p2 r2 v2 h2 => wpM_mono (h2 ρ₂ (v :: vs) (.cons (v1.mono p2) v2) _ r2) (fun _ _ q => q.mono (p1.trans p2)) fun _ _ q => q) fun _ _ q => q
theorem e_callT0M {x : Str} {np pos : Pos} {T : String} {Φ : AV → St → Prop} (hf : FmOk f env n) (hx : env.kindOf x = some .globalImplicit) (hn : ∀ w, nsIn (KK w) mainGlobals x = some none)
    (hv : bootBuiltins x = some (.type T)) (h : OpNM m f (fun vs => call (.type T) vs) VR [] σ Φ Ψ)
    (hne : x ≠ "__name__" := by decide +kernel) (hd : (x == ("__debug__" : Str)) = false := by kernel_rfl)
    (hc : eval (.Call (.Name x np) [] [] pos) env = (do callWith pos (← eval (.Name x np) env) [] (backTo pos (starEach [] env)) (backToKw pos (keywordEach [] env))) := by rfl) :
    EvM m f (.Call (.Name x np) [] [] pos) env σ Φ Ψ := fun ρ s r => by
  rw [hc]
  refine wpM_bindA (wpAny_mono (e_bi (Φ := fun a σ' => a = .val (.type T) ∧ σ' = σ) (Ψ := Ψ) (p := np) hf hx hn hv ⟨rfl, rfl⟩ hne hd ρ s r) (fun v s₁ qq4 => qq4.elim fun ρ₁ a σ₁ p1 r1 v1 qq5 => qq5.elim fun e1 e2 => ?_) fun _ _ q => q)
  subst e1 e2
  have q : v = .type T := v1
  subst q
  exact callWith_typeM rfl (PyProof.Rows.evalArgs_nil3 (wpM_mono (h ρ₁ [] .nil _ r1) (fun _ _ q => q.mono p1) fun _ _ q => q))
theorem x_exprM {e : Expr} {p : Pos} {Φ : AF → St → Prop} (h : EvM m f e env σ (Nxt Φ) Ψ) (hi : interactive env = false := by rfl) (hs : swapsWith e none p.line env = pure false := by rfl) :
    ExM m f (.Expr e p) env σ Φ Ψ := fun ρ s r => by
  rw [exec_Expr env e p hi hs]
  exact wpM_bindA (wpAny_standAt (wpM_bind (wpM_mono (h ρ s r) (fun v s₁ qq6 => qq6.elim fun ρ₁ _ _ p1 r1 _ h1 => wpM_of (wpAny_dropValue ⟨ρ₁, .next, _, p1, r1, fr_next, h1⟩)) fun _ _ q => q)))
theorem x_assignMA {x : Str} {xp p : Pos} {e : Expr} {Φ : AF → St → Prop} (hf : FmOk f env n) (hx : env.kindOf x = some .local)
    (h : Ev f e env σ (Sto x Φ) Ψ) (hfr : env.frame = some env.locals := by rfl) (hs : swapsWith e (some (.Name x xp)) p.line env = pure false := by rfl) :
    ExM m f (.Assign [.Name x xp] e p) env σ Φ Ψ := x_assignM hf hx (TrM.of h) hfr hs
theorem xM_cut {st : Stmt} {rest : List Stmt} {Φ : AF → St → Prop} (mid : St → Prop) (h : ExM m f st env σ (Mid mid Φ) Ψ)
    (k : ∀ σ₁, mid σ₁ → EsM m f rest env σ₁ Φ Ψ) : EsM m f (st :: rest) env σ Φ Ψ :=
  xM_cons (h.mono (fun b σ' q => by cases b <;> first | exact k _ q | exact q) fun _ q => q)
theorem xM_cutA {st : Stmt} {rest : List Stmt} {Φ : AF → St → Prop} (mid : St → Prop) (h : Ex f st env σ (Mid mid Φ) Ψ)
    (k : ∀ σ₁, mid σ₁ → EsM m f rest env σ₁ Φ Ψ) : EsM m f (st :: rest) env σ Φ Ψ := xM_cut mid (TrM.of h) k

theorem o_range3 {Φ : AV → St → Prop} {a k c : Int} (hc : c ≠ 0) (hp : Builtin.divisionGoesByPylong (k - a) c = false) (h : Φ (.ref σ.mem.length) (σ.new (.rng a k c))) : OpN f (fun vs => call (.type "range") vs) VR [.int a, .int k, .int c] σ Φ Ψ := by
  intro ρ vs hv s r
  cases hv with
  | cons h1 hv => cases hv with
    | cons h2 hv => cases hv with
      | cons h3 hv =>
        cases hv
        obtain ⟨t, rfl⟩ := h1
        obtain ⟨u, rfl⟩ := h2
        obtain ⟨v, rfl⟩ := h3
        exact call_range_3 hc (pv_new (o := .rng a k c) r ⟨_, _, _, rfl⟩ h) (.inl hp)
theorem size_by2 (k : Nat) : Builtin.Range.rangeSize 0 ((2 * k : Nat) : Int) 2 = (k : Nat) := by
  unfold Builtin.Range.rangeSize
  rw [if_pos (by decide)]
  split <;> (first | lia | omega)
theorem small_by2 {k : Nat} (h : k ≤ 100000) : Builtin.Range.small 0 ((2 * k : Nat) : Int) 2 = true := by
  unfold Builtin.Range.small
  rw [size_by2]
  have key : ∀ i : Int, 0 ≤ i → i < 1000000 → Builtin.Range.rangeFitsLong i = true := fun i h1 h2 => by
    unfold Builtin.Range.rangeFitsLong
    rw [Bool.and_eq_true, decide_eq_true_eq, decide_eq_true_eq]
    (first | lia | omega)
  rw [key 0 (by (first | lia | omega)) (by (first | lia | omega)), key ((2 * k : Nat) : Int) (by (first | lia | omega)) (by (first | lia | omega)), key 2 (by (first | lia | omega)) (by (first | lia | omega)), key (k : Int) (by (first | lia | omega)) (by (first | lia | omega)), if_pos (by decide), key _ (by (first | lia | omega)) (by (first | lia | omega))]
  simp
end
end

/- # P2 -/
section
open PySem PySem.Calls PyProof.Rows PySem.W

/- ## slices, plainly -/
theorem min_cast (k n : Nat) : (min (k : Int) (n : Int)).toNat = min k n := by
  rcases Nat.le_total k n with h | h
  · rw [Int.min_eq_left (Int.ofNat_le.mpr h), Nat.min_eq_left h]; rfl
  · rw [Int.min_eq_right (Int.ofNat_le.mpr h), Nat.min_eq_right h]; rfl
theorem clip_nat (n k : Nat) : clipAt n (k : Int) = min k n := by
  unfold clipAt
  rw [if_neg (Int.not_lt.mpr (Int.natCast_nonneg k)), Int.max_eq_right (Int.le_min.mpr ⟨Int.natCast_nonneg k, Int.natCast_nonneg n⟩)]
  exact min_cast k n
theorem clip_neg1 (n : Nat) : clipAt n (-1) = n - 1 := by
  cases n with
  | zero => rfl
  | succ m =>
    have e : (-1 : Int) + ((m + 1 : Nat) : Int) = (m : Int) := (Int.add_comm _ _).trans (Int.add_neg_cancel_right (m : Int) 1)
    unfold clipAt
    rw [if_pos (by decide), e, Int.max_eq_right (Int.le_min.mpr ⟨Int.natCast_nonneg m, Int.natCast_nonneg _⟩)]
    exact (min_cast m (m + 1)).trans (Nat.min_eq_left (Nat.le_succ m))
theorem cut_take {α : Type} (xs : List α) (k : Nat) : cut xs none (some (k : Int)) = xs.take k := by
  unfold cut
  simp only [Option.elim_none, Option.elim_some, List.drop_zero, Nat.sub_zero, clip_nat]
  rw [List.take_eq_take_iff]; simp
theorem cut_drop {α : Type} (xs : List α) (k : Nat) : cut xs (some (k : Int)) none = xs.drop k := by
  unfold cut
  simp only [Option.elim_none, Option.elim_some, clip_nat]
  by_cases h : k ≤ xs.length
  · rw [Nat.min_eq_left h, List.take_of_length_le (by simp)]
  · rw [Nat.min_eq_right (by (first | lia | omega)), List.drop_eq_nil_of_le (Nat.le_refl _), List.drop_eq_nil_of_le (by (first | lia | omega))]; simp
theorem cut_last {α : Type} (xs : List α) : cut xs none (some (-1)) = xs.dropLast := by
  unfold cut
  simp only [Option.elim_none, Option.elim_some, List.drop_zero, Nat.sub_zero, clip_neg1]
  rw [List.dropLast_eq_take]
theorem cut_mid {α : Type} (xs : List α) (a b : Nat) (h : b ≤ xs.length) : cut xs (some (a : Int)) (some (b : Int)) = (xs.drop a).take (b - a) := by
  unfold cut
  simp only [Option.elim_some, clip_nat]
  by_cases h2 : a ≤ xs.length
  · rw [Nat.min_eq_left h2, Nat.min_eq_left h]
  · rw [show min a xs.length = xs.length from Nat.min_eq_right (by (first | lia | omega)), List.drop_eq_nil_of_le (Nat.le_refl _), List.drop_eq_nil_of_le (show xs.length ≤ a by (first | lia | omega))]; simp
theorem cut_cut {α : Type} (xs : List α) (a b : Nat) (h : b ≤ xs.length) : cut xs (some (a : Int)) (some (b : Int)) = (xs.take b).drop a := by
  rw [cut_mid xs a b h, List.drop_take]

/- ## finding -/
theorem lastAt (p : Nat → Bool) : ∀ n, ((List.range n).reverse.find? p = none ∧ ∀ j, j < n → p j = false) ∨ ∃ k, k < n ∧ (List.range n).reverse.find? p = some k ∧ p k = true ∧ ∀ j, k < j → j < n → p j = false
  | 0 => .inl ⟨rfl, fun j h => absurd h (Nat.not_lt_zero j)⟩
  | n + 1 => by
    rw [List.range_succ, List.reverse_append]
    show (List.find? p (n :: (List.range n).reverse) = none ∧ _) ∨ ∃ k, k < n + 1 ∧ List.find? p (n :: (List.range n).reverse) = some k ∧ _
    rw [List.find?_cons]
    cases hp : p n with
    | true => exact .inr ⟨n, Nat.lt_succ_self _, rfl, hp, fun j h1 h2 => by (first | lia | omega)⟩
    | false =>
      rcases lastAt p n with ⟨h1, h2⟩ | ⟨k, h1, h2, h3, h4⟩
      · refine .inl ⟨h1, fun j hj => ?_⟩
        rcases Nat.lt_or_eq_of_le (Nat.le_of_lt_succ hj) with q | q
        · exact h2 j q
        · rw [q]; exact hp
      · refine .inr ⟨k, by (first | lia | omega), h2, h3, fun j h5 hj => ?_⟩
        rcases Nat.lt_or_eq_of_le (Nat.le_of_lt_succ hj) with q | q
        · exact h4 j h5 q
        · rw [q]; exact hp
theorem firstAt (p : Nat → Bool) : ∀ n, ((List.range n).find? p = none ∧ ∀ j, j < n → p j = false) ∨ ∃ k, k < n ∧ (List.range n).find? p = some k ∧ p k = true ∧ ∀ j, j < k → p j = false
  | 0 => .inl ⟨rfl, fun j h => absurd h (Nat.not_lt_zero j)⟩
  | n + 1 => by
    rw [List.range_succ, List.find?_append]
    rcases firstAt p n with ⟨h1, h2⟩ | ⟨k, h1, h2, h3, h4⟩
    · rw [h1]
      show (List.find? p [n] = none ∧ _) ∨ ∃ k, k < n + 1 ∧ List.find? p [n] = some k ∧ _
      rw [List.find?_cons]
      cases hp : p n with
      | true => exact .inr ⟨n, Nat.lt_succ_self _, rfl, hp, h2⟩
      | false =>
        refine .inl ⟨rfl, fun j hj => ?_⟩
        rcases Nat.lt_or_eq_of_le (Nat.le_of_lt_succ hj) with q | q
        · exact h2 j q
        · rw [q]; exact hp
    · rw [h2]
      exact .inr ⟨k, by (first | lia | omega), rfl, h3, h4⟩
theorem drop_cons_of {α : Type} {l : List α} {k : Nat} {c : α} (h : l[k]? = some c) : l = l.take k ++ c :: l.drop (k + 1) := by
  obtain ⟨h1, h2⟩ := List.getElem?_eq_some_iff.mp h
  rw [← h2, List.getElem_cons_drop, List.take_append_drop]
theorem rfindL_spec (b : List UInt8) (c : UInt8) : (c ∉ b ∧ rfindL b [c] = -1) ∨ ∃ x y, b = x ++ c :: y ∧ c ∉ y ∧ rfindL b [c] = (x.length : Int) := by
  by_cases hb : b = []
  · subst hb
    exact .inl ⟨by simp, rfl⟩
  have hpos : 0 < b.length := by cases b <;> simp_all
  have e : rfindL b [c] = BM.optInt ((List.range b.length).reverse.find? fun i => decide (b[i]? = some c)) := by
    unfold rfindL BM.rawRfind Builtin.Bytes.rfind?
    rw [if_neg (by simp; (first | lia | omega))]
    congr 1
    have e1 : ((List.range (b.toArray.size + 1 - (0 + [c].toArray.size))).map fun x => x + 0) = List.range b.length := by simp
    rw [e1]
    congr 1
    funext i
    have := ext1 b.toArray c i
    simpa using this
  rw [e]
  rcases lastAt (fun i => decide (b[i]? = some c)) b.length with ⟨h1, h2⟩ | ⟨k, h1, h2, h3, h4⟩
  · refine .inl ⟨fun hm => ?_, by rw [h1]; rfl⟩
    obtain ⟨j, hj, hjc⟩ := List.getElem_of_mem hm
    have := h2 j hj
    simp [hj, hjc] at this
  · refine .inr ⟨b.take k, b.drop (k + 1), drop_cons_of (by simpa using h3), fun hm => ?_, by rw [h2]; simp [BM.optInt]; (first | lia | omega)⟩
    obtain ⟨j, hj, hjc⟩ := List.getElem_of_mem hm
    simp only [List.length_drop] at hj
    have := h4 (k + 1 + j) (by (first | lia | omega)) (by (first | lia | omega))
    simp at this hjc
    have h6 : k + 1 + j < b.length := by (first | lia | omega)
    exact this (by rw [List.getElem?_eq_getElem h6, hjc])
theorem inL_one (b : List UInt8) (c : UInt8) : inL b [c] = decide (c ∈ b) := by
  unfold inL Builtin.Bytes.find?
  have e1 : ((List.range (b.length + 1 - (0 + [c].toArray.size))).map fun x => x + 0) = List.range b.length := by simp
  rw [e1]
  have e2 : (fun i => b.toArray.extract i (i + [c].toArray.size) == [c].toArray) = fun i => decide (b[i]? = some c) := by
    funext i
    have := ext1 b.toArray c i
    simpa using this
  rw [e2]
  rcases firstAt (fun i => decide (b[i]? = some c)) b.length with ⟨h1, h2⟩ | ⟨k, h1, h2, h3, h4⟩
  · rw [h1]
    symm
    simp only [Option.isSome_none, decide_eq_false_iff_not]
    intro hm
    obtain ⟨j, hj, hjc⟩ := List.getElem_of_mem hm
    have := h2 j hj
    simp [hj, hjc] at this
  · rw [h2]
    symm
    simp only [Option.isSome_some, decide_eq_true_eq]
    exact List.mem_of_getElem? (by simpa using h3)
theorem startsL_eq (b c : List UInt8) : startsL b c = c.isPrefixOf b := by
  unfold startsL BM.rawStarts
  by_cases h : b.length < c.length
  · rw [if_pos (by simpa using h)]
    symm
    rw [Bool.eq_false_iff]
    intro q
    have := (List.isPrefixOf_iff_prefix.mp q).length_le
    (first | lia | omega)
  · rw [if_neg (by simpa using h)]
    rw [Bool.eq_iff_iff, List.isPrefixOf_iff_prefix, List.prefix_iff_eq_take]
    simp only [List.size_toArray, Nat.zero_add, beq_iff_eq]
    constructor
    · intro e
      have := congrArg Array.toList e
      simp at this
      exact this.symm
    · intro e
      apply Array.toList_inj.mp
      simp
      exact e.symm
theorem endsL_eq (b c : List UInt8) : endsL b c = c.isSuffixOf b := by
  unfold endsL BM.rawEnds
  by_cases h : b.length < c.length
  · rw [if_pos (by simpa using h)]
    symm
    rw [Bool.eq_false_iff]
    intro q
    have := (List.isSuffixOf_iff_suffix.mp q).length_le
    (first | lia | omega)
  · rw [if_neg (by simpa using h)]
    rw [Bool.eq_iff_iff, List.isSuffixOf_iff_suffix, List.suffix_iff_eq_drop]
    simp only [List.size_toArray, beq_iff_eq]
    constructor
    · intro e
      have := congrArg Array.toList e
      simp at this
      rw [List.take_of_length_le (by simp)] at this
      exact this.symm
    · intro e
      apply Array.toList_inj.mp
      simp
      rw [List.take_of_length_le (by simp)]
      exact e.symm

/- ## encoding, at a plain sign -/
theorem utf8_free {c d : Nat} (hc : Sgn c) (hd : d < 128) (hne : c ≠ d) : d.toUInt8 ∉ Str.utf8Of c := by
  rcases hc with h | rfl
  · rw [utf8Of_low h]
    intro q
    have q' : d.toUInt8 = c.toUInt8 := by simpa using q
    have := congrArg UInt8.toNat q'
    simp [Nat.toUInt8] at this
    (first | lia | omega)
  · rw [utf8Of_e]
    intro q
    have h2 : (d.toUInt8).toNat = d := by simp [Nat.toUInt8]; (first | lia | omega)
    simp only [List.mem_cons, List.not_mem_nil, or_false] at q
    rcases q with q | q <;> (rw [q] at h2; simp at h2; (first | lia | omega))
theorem enc_mem {l : List Nat} (hl : ∀ c ∈ l, Sgn c) {d : Nat} (hd : d < 128) : d.toUInt8 ∈ enc l ↔ d ∈ l := by
  unfold enc
  rw [List.mem_flatMap]
  constructor
  · rintro ⟨c, hc, hm⟩
    by_cases q : c = d
    · rw [← q]; exact hc
    · exact absurd hm (utf8_free (hl c hc) hd q)
  · intro h
    exact ⟨d, h, by rw [utf8Of_low hd]; simp⟩
theorem enc_split : ∀ {l : List Nat} (_ : ∀ c ∈ l, Sgn c) {d : Nat} (_ : d < 128) {x y : List UInt8}, enc l = x ++ d.toUInt8 :: y → ∃ l1 l2, l = l1 ++ d :: l2 ∧ x = enc l1 ∧ y = enc l2
  | [], _, d, _, x, y, h => by simp [enc] at h
  | c :: r, hl, d, hd, x, y, h => by
    rw [enc_cons] at h
    have hr := fun a ha => hl a (List.mem_cons_of_mem _ ha)
    by_cases q : c = d
    · subst q
      rw [utf8Of_low hd] at h
      cases x with
      | nil =>
        have : enc r = y := by simpa using h
        exact ⟨[], r, rfl, rfl, this.symm⟩
      | cons x0 x' =>
        have h' : c.toUInt8 = x0 ∧ enc r = x' ++ c.toUInt8 :: y := by simpa using h
        obtain ⟨l1, l2, e1, e2, e3⟩ := enc_split hr hd h'.2
        exact ⟨c :: l1, l2, by rw [e1]; rfl, by rw [enc_cons, utf8Of_low hd, ← h'.1, e2]; rfl, e3⟩
    · have hf := utf8_free (hl c (by simp)) hd q
      rcases List.append_eq_append_iff.mp h with ⟨a, h1, h2⟩ | ⟨a, h1, h2⟩
      · obtain ⟨l1, l2, e1, e2, e3⟩ := enc_split hr hd h2
        exact ⟨c :: l1, l2, by rw [e1]; rfl, by rw [enc_cons, h1, e2], e3⟩
      · cases a with
        | nil =>
          have h2' : enc r = [] ++ d.toUInt8 :: y := by simpa using h2.symm
          obtain ⟨l1, l2, e1, e2, e3⟩ := enc_split hr hd h2'
          refine ⟨c :: l1, l2, by rw [e1]; rfl, ?_, e3⟩
          rw [enc_cons, h1, ← e2]; simp
        | cons a0 a' =>
          have : a0 = d.toUInt8 := by
            have := congrArg List.head? h2
            simpa using this.symm
          exact absurd (by rw [h1, this]; simp) hf
theorem enc_spl {l : List Nat} (hl : ∀ c ∈ l, Sgn c) {d : Nat} (hd : d < 128) : spl d.toUInt8 (enc l) = (spl d l).map enc := by
  induction l with
  | nil => rfl
  | cons c r ih =>
    have hr := fun a ha => hl a (List.mem_cons_of_mem _ ha)
    have ih := ih hr
    rw [enc_cons]
    by_cases q : c = d
    · subst q
      rw [utf8Of_low hd]
      show spl _ (c.toUInt8 :: enc r) = _
      rw [spl, if_pos rfl, spl, if_pos rfl, ih]; rfl
    · have hf := utf8_free (hl c (by simp)) hd q
      rw [show spl d (c :: r) = match spl d r with | [] => [[c]] | p :: ps => (c :: p) :: ps from by rw [spl, if_neg q]; cases spl d r <;> rfl]
      have key : ∀ (u v : List UInt8), d.toUInt8 ∉ u → spl d.toUInt8 (u ++ v) = match spl d.toUInt8 v with | [] => [u] | p :: ps => (u ++ p) :: ps := by
        intro u v hu
        induction u with
        | nil =>
          cases h : spl d.toUInt8 v with
          | nil => exact absurd h (spl_ne _ _)
          | cons p ps => simp [h]
        | cons a u ihu =>
          have h1 : a ≠ d.toUInt8 := fun e => hu (by rw [e]; simp)
          have h2 := ihu fun e => hu (List.mem_cons_of_mem _ e)
          rw [List.cons_append, spl, if_neg h1, h2]
          cases h : spl d.toUInt8 v with
          | nil => exact absurd h (spl_ne _ _)
          | cons p ps => rfl
      rw [key _ _ hf, ih]
      cases h : spl d r with
      | nil => exact absurd h (spl_ne _ _)
      | cons p ps => simp [enc_cons]
end

/- # S71 -/
section
open PySem PySem.Calls PyProof.Rows PySem.W

/- ## what ipv6's inet_aton tells -/
noncomputable def scopeF (b : List UInt8) (ig : Bool) : Option (List UInt8) :=
  if ig = true then (if (spl 37 b).length = 2 then some ((spl 37 b).getD 0 []) else if 2 < (spl 37 b).length then none else some b) else some b
noncomputable def edgeF (b : List UInt8) : Option (List UInt8) :=
  if b = [] then none else
  if (endsL b [58] && !endsL b [58, 58]) = true then none else
  if (startsL b [58] && !startsL b [58, 58]) = true then none else
  if b = [58, 58] then some [48, 58, 58] else some b
noncomputable def hx4 (q : List UInt8) : List UInt8 := enc (hex2 (q.getD 0 0).toNat ++ hex2 (q.getD 1 0).toNat ++ [58] ++ hex2 (q.getD 2 0).toNat ++ hex2 (q.getD 3 0).toNat)
noncomputable def v4F (b : List UInt8) : Option (List UInt8) := match v4endF b with
  | none => some b
  | some (x, y) => (aton4F y).map fun q => x ++ [58] ++ hx4 q
noncomputable def trimF (b : List UInt8) : List UInt8 :=
  if startsL b [58, 58] = true then cut b (some 1) none else if endsL b [58, 58] = true then cut b none (some (-1)) else b
noncomputable def zero4 : List UInt8 := [48, 48, 48, 48]
noncomputable def canStep (l : Nat) (s : Bool × List (List UInt8)) (c : List UInt8) : Option (Bool × List (List UInt8)) :=
  if c = [] then (if s.1 = true then none else some (true, s.2 ++ List.replicate (9 - l) zero4)) else
  if 4 < c.length then none else some (s.1, s.2 ++ [List.replicate (4 - c.length) 48 ++ c])
noncomputable def canRun (l : Nat) (cs : List (List UInt8)) : Nat → Option (Bool × List (List UInt8))
  | 0 => some (false, [])
  | i + 1 => (canRun l cs i).bind fun s => canStep l s (cs.getD i [])
noncomputable def chunksOk (b : List UInt8) : Option (List (List UInt8)) :=
  if 8 < (spl 58 b).length then none else
  (canRun (spl 58 b).length (spl 58 b) (spl 58 b).length).bind fun s => if (decide ((spl 58 b).length < 8) && !s.1) = true then none else some s.2
noncomputable def hexAt (b : List UInt8) (i : Nat) : Int := findL hexB ((cut b (some (i : Int)) (some ((i + 1 : Nat) : Int))).map Builtin.Bytes.toLower)
noncomputable def pairAt (b : List UInt8) (k : Nat) : Option UInt8 :=
  if (decide (hexAt b (2 * k) < 0) || decide (hexAt b (2 * k + 1) < 0)) = true then none else some (hexAt b (2 * k) * 16 + hexAt b (2 * k + 1)).toNat.toUInt8
noncomputable def pairsTo (b : List UInt8) : Nat → Option (List UInt8)
  | 0 => some []
  | i + 1 => (pairsTo b i).bind fun ys => (pairAt b i).map fun y => ys ++ [y]
noncomputable def aton6F (b : List UInt8) (ig : Bool) : Option (List UInt8) :=
  (scopeF b ig).bind fun b1 => (edgeF b1).bind fun b2 => (v4F b2).bind fun b3 => (chunksOk (trimF b3)).bind fun cs => pairsTo cs.flatten 16

theorem canRun_none {l : Nat} {cs : List (List UInt8)} {i : Nat} (h : canRun l cs i = none) : ∀ n, i ≤ n → canRun l cs n = none := by
  intro n hn
  induction hn with
  | refl => exact h
  | step _ ih => rw [canRun, ih]; rfl
theorem canRun_in {l : Nat} (hl : l ≤ 8) {cs : List (List UInt8)} : ∀ {i : Nat} {s : Bool × List (List UInt8)}, canRun l cs i = some s →
    s.2.length = i + (if s.1 = true then 8 - l else 0) ∧ ∀ x ∈ s.2, x.length = 4
  | 0, s, h => by
    obtain rfl : (false, []) = s := by simpa [canRun] using h
    exact ⟨rfl, fun x hx => absurd hx (by simp)⟩
  | i + 1, s, h => by
    rw [canRun] at h
    cases q : canRun l cs i with
    | none => rw [q] at h; cases h
    | some s' =>
      rw [q] at h
      obtain ⟨h1, h2⟩ := canRun_in hl q
      obtain ⟨t, ys⟩ := s'
      simp only [Option.bind_some, canStep] at h
      split at h
      · split at h
        · (first | exact nn h | exact sn h | exact tf h | exact ft h | cases h)
        · rename_i ht
          obtain rfl := Option.some.inj h
          have ht' : t = false := by simpa using ht
          subst ht'
          refine ⟨?_, fun x hx => ?_⟩
          · simp only [List.length_append, List.length_replicate, if_true] at h1 ⊢
            simp at h1
            (first | lia | omega)
          · rcases List.mem_append.mp hx with hx | hx
            · exact h2 x hx
            · rw [(List.mem_replicate.mp hx).2]; rfl
      · split at h
        · (first | exact nn h | exact sn h | exact tf h | exact ft h | cases h)
        · rename_i hc
          obtain rfl := Option.some.inj h
          refine ⟨?_, fun x hx => ?_⟩
          · simp only [List.length_append, List.length_cons, List.length_nil] at h1 ⊢
            rw [h1]
            (first | lia | omega)
          · rcases List.mem_append.mp hx with hx | hx
            · exact h2 x hx
            · rw [List.mem_singleton.mp hx]
              simp only [List.length_append, List.length_replicate]
              (first | lia | omega)
theorem flat4 : ∀ {cs : List (List UInt8)}, (∀ x ∈ cs, x.length = 4) → cs.flatten.length = 4 * cs.length
  | [], _ => rfl
  | c :: r, h => by
    have := flat4 (cs := r) fun x hx => h x (by simp [hx])
    rw [List.flatten_cons, List.length_append, this, h c (by simp), List.length_cons]; (first | lia | omega)
theorem chunksOk_in {b : List UInt8} {cs : List (List UInt8)} (h : chunksOk b = some cs) : cs.length = 8 ∧ cs.flatten.length = 32 := by
  unfold chunksOk at h
  split at h
  · (first | exact nn h | exact sn h | exact tf h | exact ft h | cases h)
  rename_i hle
  cases q : canRun (spl 58 b).length (spl 58 b) (spl 58 b).length with
  | none => rw [q] at h; cases h
  | some s =>
    rw [q] at h
    simp only [Option.bind_some] at h
    split at h
    · (first | exact nn h | exact sn h | exact tf h | exact ft h | cases h)
    rename_i hc
    obtain rfl := Option.some.inj h
    obtain ⟨h1, h2⟩ := canRun_in (by (first | lia | omega)) q
    have h8 : s.2.length = 8 := by
      rw [h1]
      cases hs : s.1 with
      | true => simp; (first | lia | omega)
      | false => rw [hs] at hc; simp at hc; simp; (first | lia | omega)
    exact ⟨h8, by rw [flat4 h2, h8]⟩
theorem pairsTo_none {b : List UInt8} {i : Nat} (h : pairsTo b i = none) : ∀ n, i ≤ n → pairsTo b n = none := by
  intro n hn
  induction hn with
  | refl => exact h
  | step _ ih => rw [pairsTo, ih]; rfl
theorem findL_hex (c : List UInt8) : findL hexB c < 16 + 1 := by
  unfold findL BM.rawFind BM.optInt
  split
  · rename_i k hk
    split at hk
    · (first | exact nn hk | exact sn hk | exact tf hk | exact ft hk | cases hk)
    · unfold Builtin.Bytes.find? at hk
      have := List.mem_of_find?_eq_some hk
      simp at this
      have h16 : hexB.length = 16 := rfl
      (first | lia | omega)
  · (first | lia | omega)
theorem hexAt_lt {b : List UInt8} {i : Nat} (h : i < b.length) : hexAt b i < 16 := by
  unfold hexAt findL BM.rawFind BM.optInt
  split
  · rename_i k hk
    split at hk
    · (first | exact nn hk | exact sn hk | exact tf hk | exact ft hk | cases hk)
    · unfold Builtin.Bytes.find? at hk
      have := List.mem_of_find?_eq_some hk
      rw [cut_mid _ _ _ (by (first | lia | omega))] at this
      have h1 : (((b.drop i).take (i + 1 - i)).map Builtin.Bytes.toLower).length = 1 := by simp; (first | lia | omega)
      have h16 : hexB.length = 16 := rfl
      simp only [List.mem_map, List.mem_range, List.size_toArray, h1, h16] at this
      obtain ⟨a, ha, rfl⟩ := this
      (first | lia | omega)
  · (first | lia | omega)
end

/- # W71 -/
section
open PySem PySem.Calls PyProof.Rows PySem.W


theorem N1 {b : List UInt8} {ig : Bool} (h : scopeF b ig = none) : aton6F b ig = none := by unfold aton6F; rw [h]; rfl
theorem N2 {b b1 : List UInt8} {ig : Bool} (h1 : scopeF b ig = some b1) (h2 : edgeF b1 = none) : aton6F b ig = none := by unfold aton6F; rw [h1]; simp only [Option.bind_some]; rw [h2]; rfl
theorem N3 {b b1 b2 : List UInt8} {ig : Bool} (h1 : scopeF b ig = some b1) (h2 : edgeF b1 = some b2) (h3 : v4F b2 = none) : aton6F b ig = none := by unfold aton6F; rw [h1]; simp only [Option.bind_some]; rw [h2]; simp only [Option.bind_some]; rw [h3]; rfl
theorem N4 {b b1 b2 b3 : List UInt8} {ig : Bool} (h1 : scopeF b ig = some b1) (h2 : edgeF b1 = some b2) (h3 : v4F b2 = some b3) : aton6F b ig = (chunksOk (trimF b3)).bind fun cs => pairsTo cs.flatten 16 := by
  unfold aton6F; rw [h1]; simp only [Option.bind_some]; rw [h2]; simp only [Option.bind_some]; rw [h3]; rfl
theorem noNl_of {b : List UInt8} (h : 10 ∉ b) : noNl b = b := by
  unfold noNl
  rw [endsL_eq, if_neg]
  intro q
  have := List.isSuffixOf_iff_suffix.mp q
  exact h (this.subset (by simp))
/- what the ending tells -/
theorem v4endF_spec {b : List UInt8} (h : 10 ∉ b) {x y : List UInt8} (e : v4endF b = some (x, y)) : b = x ++ 58 :: y ∧ 58 ∉ y ∧ (spl 46 y).length = 4 ∧ ∀ p ∈ spl 46 y, digitsL p = true := by
  unfold v4endF at e
  rw [noNl_of h] at e
  rcases rfindL_spec b 58 with ⟨h1, h2⟩ | ⟨x', y', h1, h2, h3⟩
  · rw [h2] at e; simp at e
  · rw [h3] at e
    rw [show ((x'.length : Int) + 1) = ((x'.length + 1 : Nat) : Int) from rfl, cut_drop, cut_take] at e
    have d1 : b.drop (x'.length + 1) = y' := by rw [h1]; simp [← List.drop_drop]
    have d2 : b.take x'.length = x' := by rw [h1]; simp
    rw [d1, d2] at e
    split at e
    · (first | exact nn e | exact sn e | exact tf e | exact ft e | cases e)
    rename_i c1
    split at e
    · (first | exact nn e | exact sn e | exact tf e | exact ft e | cases e)
    rename_i c2
    injection e with e
    obtain ⟨rfl, rfl⟩ := Prod.mk.inj e
    simp only [Bool.or_eq_true, decide_eq_true_eq, not_or, ne_eq, Decidable.not_not] at c1
    refine ⟨h1, h2, c1.2, fun p hp => ?_⟩
    simp only [List.any_eq_true, not_exists, not_and] at c2
    have := c2 p hp
    simpa using this
theorem starts1 {b : List UInt8} {c : UInt8} {y : List UInt8} : startsL (c :: y) [c] = true := by rw [startsL_eq]; simp [List.isPrefixOf]
theorem edge_x {b1 b2 x y : List UInt8} (h : edgeF b1 = some b2) (e : b2 = x ++ 58 :: y) (hy : 58 ∉ y) : x ≠ [] := by
  intro q
  subst q
  rw [List.nil_append] at e
  unfold edgeF at h
  split at h
  · (first | exact nn h | exact sn h | exact tf h | exact ft h | cases h)
  split at h
  · (first | exact nn h | exact sn h | exact tf h | exact ft h | cases h)
  split at h
  · (first | exact nn h | exact sn h | exact tf h | exact ft h | cases h)
  rename_i c2
  split at h
  · obtain rfl := Option.some.inj h; (first | exact nn e | exact sn e | exact tf e | exact ft e | cases e)
  · obtain rfl := Option.some.inj h
    subst e
    refine c2 ?_
    rw [startsL_eq, startsL_eq]
    cases y with
    | nil => rfl
    | cons a y =>
      have : a ≠ 58 := fun q => hy (by simp [q])
      simp [List.isPrefixOf]
      exact fun q => this q.symm
theorem aton4_len {y q : List UInt8} (h : aton4F y = some q) : q.length = 4 := by
  have hun : aton4F y = if (spl 46 y).length ≠ 4 then none else if (spl 46 y).any badPart then none else
    if ((spl 46 y).map partV4).all (fun x => decide (0 ≤ x ∧ x < 256)) then some (((spl 46 y).map partV4).map fun x => x.toNat.toUInt8) else none := rfl
  rw [hun] at h
  split at h
  · (first | exact nn h | exact sn h | exact tf h | exact ft h | cases h)
  rename_i c
  split at h
  · (first | exact nn h | exact sn h | exact tf h | exact ft h | cases h)
  split at h
  · obtain rfl := Option.some.inj h
    simp only [List.length_map]; simpa using c
  · (first | exact nn h | exact sn h | exact tf h | exact ft h | cases h)
theorem hex2_sgn {k : Nat} (hk : k < 256) : ∀ c ∈ hex2 k, Sgn c := by
  intro c hc
  unfold hex2 at hc
  simp only [List.mem_cons, List.not_mem_nil, or_false] at hc
  refine .inl ?_
  rcases hc with rfl | rfl <;> (unfold hx; split <;> (first | lia | omega))
theorem hex2_len (k : Nat) : (hex2 k).length = 2 := rfl
theorem encs_of {l : List Nat} (hl : ∀ c ∈ l, Sgn c) {b1 : List UInt8} {ig : Bool} (h : scopeF (enc l) ig = some b1) : ∃ l1, b1 = enc l1 ∧ (∀ c ∈ l1, c ∈ l) := by
  unfold scopeF at h
  split at h
  · split at h
    · obtain rfl := Option.some.inj h
      have e := enc_spl hl (d := 37) (by decide)
      rw [show (37 : Nat).toUInt8 = (37 : UInt8) from rfl] at e
      rw [e]
      cases q : spl 37 l with
      | nil => exact absurd q (spl_ne _ _)
      | cons p ps =>
        refine ⟨p, by simp, fun c hc => ?_⟩
        have h2 := glue_spl 37 l
        rw [q] at h2
        rw [← h2]
        cases ps with
        | nil => exact hc
        | cons p2 ps => rw [glue]; simp [hc]
    · split at h
      · (first | exact nn h | exact sn h | exact tf h | exact ft h | cases h)
      · obtain rfl := Option.some.inj h; exact ⟨l, rfl, fun _ h => h⟩
  · obtain rfl := Option.some.inj h; exact ⟨l, rfl, fun _ h => h⟩
theorem edge_enc {l1 : List Nat} {b2 : List UInt8} (h : edgeF (enc l1) = some b2) : ∃ l2, b2 = enc l2 ∧ (∀ c ∈ l2, c ∈ l1 ∨ c = 48 ∨ c = 58) ∧ b2.length ≤ (enc l1).length + 1 := by
  unfold edgeF at h
  split at h
  · (first | exact nn h | exact sn h | exact tf h | exact ft h | cases h)
  split at h
  · (first | exact nn h | exact sn h | exact tf h | exact ft h | cases h)
  split at h
  · (first | exact nn h | exact sn h | exact tf h | exact ft h | cases h)
  split at h
  · rename_i c
    obtain rfl := Option.some.inj h
    exact ⟨[48, 58, 58], by decide, by simp, by rw [c]; simp⟩
  · obtain rfl := Option.some.inj h
    exact ⟨l1, rfl, fun c h => .inl h, by (first | lia | omega)⟩
theorem scope_len {b b1 : List UInt8} {ig : Bool} (h : scopeF b ig = some b1) : b1.length ≤ b.length := by
  unfold scopeF at h
  split at h
  · split at h
    · obtain rfl := Option.some.inj h
      cases q : spl 37 b with
      | nil => exact absurd q (spl_ne _ _)
      | cons p ps => exact spl_mem_le 37 b p (by rw [q]; simp)
    · split at h
      · (first | exact nn h | exact sn h | exact tf h | exact ft h | cases h)
      · obtain rfl := Option.some.inj h; exact Nat.le_refl _
  · obtain rfl := Option.some.inj h; exact Nat.le_refl _
theorem range_item2 {k i : Nat} {y : AV} (h : (rangeL 0 2 k)[i]? = some y) : y = .int ((2 * i : Nat) : Int) ∧ i < k := by
  unfold rangeL at h
  obtain ⟨a, hq1⟩ := (item_of h)
  refine and3 hq1 fun h1 h2 h3 => ?_
  clear hq1
  obtain ⟨h4, h5⟩ := List.getElem?_eq_some_iff.mp h1
  have h6 : i < k := by simpa using h4
  obtain rfl : i = a := by simpa using h5
  exact ⟨by rw [h2]; congr 1; (first | lia | omega), h6⟩
noncomputable def TxtAV (l : List Nat) (a : AV) : Prop := a = .str l ∨ a = .bytes (enc l)


noncomputable abbrev R71 (l : List Nat) (ig : Bool) : AF → St → Prop := RetOk (fun r => ∃ x, aton6F (enc l) ig = some x ∧ r = .flat (.bytes x))
noncomputable abbrev E71 (l : List Nat) (ig : Bool) (c : Value) : Prop := aton6F (enc l) ig = none ∧ c = .ref 37
set_option maxHeartbeats 8000000 in
theorem b71 {f : Fm} {n : Nat} {σ : St} {l : List Nat} {ig : Bool} {a : AV} (hf : FmOk f (envAt 71 f.L) (n + 1)) (hfe : f.fenv = envAt 71 f.L) (hl : ∀ c ∈ l, Sgn c) (hnl : 10 ∉ l) (hsz : l.length ≤ 250) (ha : TxtAV l a)
    (h1 : σ.loc.lookup ("text" : Str) = some a) (h2 : σ.loc.lookup ("ignore_scope" : Str) = some (.bool ig)) :
    EsM Gm f (bodyAt 71) (envAt 71 f.L) σ (R71 l ig) (E71 l ig) := by
  have hel := enc_len hl
  let Iz1 : St → Prop := fun σ' => σ'.loc.lookup ("btext" : Str) = some (.bytes (enc l)) ∧ σ'.loc.lookup ("ignore_scope" : Str) = some (.bool ig)
  refine xM_cutA Iz1 ?_ ?_
  · rcases ha with rfl | rfl
    · refine x_if ?_
      refine t_not ?_
      refine t_value ?_
      refine e_callB (id := "isinstance") hf (by kernel_rfl) (by intro w; kernel_rfl) (by kernel_rfl) ?_
      refine a_cons ?_
      refine e_loc hf (by kernel_rfl) (by walk_at "lk") ?_
      refine a_cons ?_
      refine e_bi (v := .type "bytes") hf (by kernel_rfl) (by intro w; kernel_rfl) (by kernel_rfl) ?_
      refine a_nil ?_
      refine o_isbytes_str ?_
      refine o_truthy_bool ?_
      show Es _ _ _ _ _ _
      refine x_cons ?_
      refine x_assign hf (by kernel_rfl) ?_ (by rfl) (by kernel_rfl)
      refine e_meth0 (id := "str.encode") ?_
      refine e_loc hf (by kernel_rfl) (by walk_at "lk") ?_
      refine ⟨meth_str F.slot_str_encode F.type_str_encode, ?_⟩
      refine o_encode hl (by first | exact Nat.le_trans (by assumption) (by decide) | lia | omega) ?_
      refine x_nil ?_
      exact ⟨lk_same, by walk_at "lk"⟩
    · refine x_if ?_
      refine t_not ?_
      refine t_value ?_
      refine e_callB (id := "isinstance") hf (by kernel_rfl) (by intro w; kernel_rfl) (by kernel_rfl) ?_
      refine a_cons ?_
      refine e_loc hf (by kernel_rfl) (by walk_at "lk") ?_
      refine a_cons ?_
      refine e_bi (v := .type "bytes") hf (by kernel_rfl) (by intro w; kernel_rfl) (by kernel_rfl) ?_
      refine a_nil ?_
      refine o_isbytes_bytes ?_
      refine o_truthy_bool ?_
      show Es _ _ _ _ _ _
      refine x_cons ?_
      refine x_assign hf (by kernel_rfl) ?_ (by rfl) (by kernel_rfl)
      refine e_loc hf (by kernel_rfl) (by walk_at "lk") ?_
      refine x_nil ?_
      exact ⟨lk_same, by walk_at "lk"⟩
  clear h1 h2 ha
  rintro σ1 ⟨k1, k2⟩
  let Iz2 : St → Prop := fun σ' => ∃ b1, scopeF (enc l) ig = some b1 ∧ σ'.loc.lookup ("btext" : Str) = some (.bytes b1)
  refine xM_cutA Iz2 ?_ ?_
  · refine x_if ?_
    refine t_value ?_
    refine e_loc hf (by kernel_rfl) (by walk_at "lk") ?_
    refine o_truthy_bool ?_
    refine tite_of (fun c => ?_) (fun c => x_nil ⟨enc l, by unfold scopeF; rw [c]; rfl, k1⟩)
    subst c
    refine x_cons ?_
    refine x_assign hf (by kernel_rfl) ?_ (by rfl) (by kernel_rfl)
    refine e_meth1 (id := "bytes.split") ?_
    refine e_loc hf (by kernel_rfl) (by walk_at "lk") ?_
    refine ⟨meth_bytes BF.slot_bytes_split BF.type_bytes_split, ?_⟩
    refine a_cons ?_
    refine e_bytes ?_
    refine a_nil ?_
    refine o_split_bytes (by first | exact Nat.le_trans (by assumption) (by decide) | lia | omega) ?_
    have hun : scopeF (enc l) true = if (spl 37 (enc l)).length = 2 then some ((spl 37 (enc l)).getD 0 []) else if 2 < (spl 37 (enc l)).length then none else some (enc l) := rfl
    have hsp := spl_length_le 37 (enc l)
    generalize spl 37 (enc l) = ps at hun hsp ⊢
    have nl : (ps.map AV.bytes).length = ps.length := by simp
    refine x_cons ?_
    refine x_assign hf (by kernel_rfl) ?_ (by rfl) (by kernel_rfl)
    refine e_callB (id := "len") hf (by kernel_rfl) (by intro w; kernel_rfl) (by kernel_rfl) ?_
    refine a_cons ?_
    refine e_loc hf (by kernel_rfl) (by walk_at "lk") ?_
    refine a_nil ?_
    refine o_len_list (by walk_at "la") (by first | exact Nat.le_trans (by assumption) (by decide) | lia | omega) ?_
    rw [nl]
    refine x_cons ?_
    refine x_if ?_
    refine t_compare ?_
    refine e_loc hf (by kernel_rfl) (by walk_at "lk") ?_
    refine e_int ?_
    refine o_eq_int ?_
    refine tite_of (fun c => ?_) (fun c => ?_)
    · have c' : ps.length = 2 := by simp at c; (first | lia | omega)
      clear c
      rw [if_pos c'] at hun
      refine x_cons ?_
      refine x_assign hf (by kernel_rfl) ?_ (by rfl) (by kernel_rfl)
      refine e_index ?_
      refine e_loc hf (by kernel_rfl) (by walk_at "lk") ?_
      refine e_int ?_
      refine i_list (y := .bytes (ps.getD 0 [])) (by walk_at "la") (by decide) (by decide) (by cases ps with | nil => simp at c' | cons p q => rfl) ?_
      refine x_nil ?_
      refine x_nil ?_
      exact ⟨_, hun, lk_same⟩
    · have c' : ¬ ps.length = 2 := by intro q; rw [q] at c; simp at c
      rw [if_neg c'] at hun
      refine x_cons ?_
      refine x_if ?_
      refine t_compare ?_
      refine e_loc hf (by kernel_rfl) (by walk_at "lk") ?_
      refine e_int ?_
      refine o_gt_int ?_
      refine tite_of (fun d => ?_) (fun d => ?_)
      · have d' : 2 < ps.length := by simp at d; (first | lia | omega)
        clear d
        rw [if_pos d'] at hun
        refine x_cons ?_
        refine x_raise (C := 37) hf (by kernel_rfl) (by intro w; kernel_rfl) (by intro w; kernel_rfl) F.excBase_Exception ?_
        exact ⟨N1 hun, rfl⟩
      · have d' : ¬ 2 < ps.length := by simp at d; (first | lia | omega)
        clear d
        rw [if_neg d'] at hun
        refine x_nil ?_
        refine x_nil ?_
        refine x_nil ?_
        exact ⟨_, hun, by walk_at "lk"⟩
  clear k1 k2
  rintro σ1 hq2
  obtain ⟨b1, hq3⟩ := hq2
  refine and2 hq3 fun g1 k1 => ?_
  clear hq3
  have hz1 := scope_len g1
  obtain ⟨l1, hq4⟩ := (encs_of hl g1)
  refine and2 hq4 fun e1 m1 => ?_
  clear hq4
  let Iz3 : St → Prop := fun σ' => ∃ b2, edgeF b1 = some b2 ∧ σ'.loc.lookup ("btext" : Str) = some (.bytes b2)
  refine xM_cutA Iz3 ?_ ?_
  · have hun : edgeF b1 = if b1 = [] then none else if (endsL b1 [58] && !endsL b1 [58, 58]) = true then none else if (startsL b1 [58] && !startsL b1 [58, 58]) = true then none else if b1 = [58, 58] then some [48, 58, 58] else some b1 := rfl
    refine x_if ?_
    refine t_compare ?_
    refine e_loc hf (by kernel_rfl) (by walk_at "lk") ?_
    refine e_bytes ?_
    refine o_eq_bytes ?_
    refine tite_of (fun c => ?_) (fun c => ?_)
    · rw [if_pos (by simpa using c)] at hun
      refine x_cons ?_
      refine x_raise (C := 37) hf (by kernel_rfl) (by intro w; kernel_rfl) (by intro w; kernel_rfl) F.excBase_Exception ?_
      exact ⟨N2 g1 hun, rfl⟩
    rw [if_neg (by simpa using c)] at hun
    refine x_cons ?_
    refine x_if ?_
    refine t_is (endsL b1 [58] && !endsL b1 [58, 58]) (fun s => σ1 = s) ?_ ?_
    · refine t_bool ?_
      refine ta_and ?_
      refine t_value ?_
      refine e_meth1 (id := "bytes.endswith") ?_
      refine e_loc hf (by kernel_rfl) (by walk_at "lk") ?_
      refine ⟨meth_bytes FB.slot_bytes_endswith FB.type_bytes_endswith, ?_⟩
      refine a_cons ?_
      refine e_bytes ?_
      refine a_nil ?_
      refine o_ends ?_
      refine o_truthy_bool ?_
      refine tite_of (fun c => ?_) (fun c => ⟨by rw [c]; rfl, rfl⟩)
      rw [c]
      refine ta_and ?_
      refine t_not ?_
      refine t_value ?_
      refine e_meth1 (id := "bytes.endswith") ?_
      refine e_loc hf (by kernel_rfl) (by walk_at "lk") ?_
      refine ⟨meth_bytes FB.slot_bytes_endswith FB.type_bytes_endswith, ?_⟩
      refine a_cons ?_
      refine e_bytes ?_
      refine a_nil ?_
      refine o_ends ?_
      refine o_truthy_bool ?_
      refine tite_of (fun c => ?_) (fun c => ⟨by rw [c]; rfl, rfl⟩)
      exact ta_nil ⟨by rw [c]; rfl, rfl⟩
    rintro s rfl
    refine tite_of (fun c => ?_) (fun c => ?_)
    · rw [if_pos c] at hun
      refine x_cons ?_
      refine x_raise (C := 37) hf (by kernel_rfl) (by intro w; kernel_rfl) (by intro w; kernel_rfl) F.excBase_Exception ?_
      exact ⟨N2 g1 hun, rfl⟩
    rw [if_neg (by rw [c]; decide)] at hun
    refine x_cons ?_
    refine x_if ?_
    refine t_is (startsL b1 [58] && !startsL b1 [58, 58]) (fun s => σ1 = s) ?_ ?_
    · refine t_bool ?_
      refine ta_and ?_
      refine t_value ?_
      refine e_meth1 (id := "bytes.startswith") ?_
      refine e_loc hf (by kernel_rfl) (by walk_at "lk") ?_
      refine ⟨meth_bytes FB.slot_bytes_startswith FB.type_bytes_startswith, ?_⟩
      refine a_cons ?_
      refine e_bytes ?_
      refine a_nil ?_
      refine o_starts ?_
      refine o_truthy_bool ?_
      refine tite_of (fun c => ?_) (fun c => ⟨by rw [c]; rfl, rfl⟩)
      rw [c]
      refine ta_and ?_
      refine t_not ?_
      refine t_value ?_
      refine e_meth1 (id := "bytes.startswith") ?_
      refine e_loc hf (by kernel_rfl) (by walk_at "lk") ?_
      refine ⟨meth_bytes FB.slot_bytes_startswith FB.type_bytes_startswith, ?_⟩
      refine a_cons ?_
      refine e_bytes ?_
      refine a_nil ?_
      refine o_starts ?_
      refine o_truthy_bool ?_
      refine tite_of (fun c => ?_) (fun c => ⟨by rw [c]; rfl, rfl⟩)
      exact ta_nil ⟨by rw [c]; rfl, rfl⟩
    rintro s rfl
    refine tite_of (fun c => ?_) (fun c => ?_)
    · rw [if_pos c] at hun
      refine x_cons ?_
      refine x_raise (C := 37) hf (by kernel_rfl) (by intro w; kernel_rfl) (by intro w; kernel_rfl) F.excBase_Exception ?_
      exact ⟨N2 g1 hun, rfl⟩
    rw [if_neg (by rw [c]; decide)] at hun
    refine x_cons ?_
    refine x_if ?_
    refine t_compare ?_
    refine e_loc hf (by kernel_rfl) (by walk_at "lk") ?_
    refine e_bytes ?_
    refine o_eq_bytes ?_
    refine tite_of (fun c => ?_) (fun c => ?_)
    · rw [if_pos (by simpa using c)] at hun
      refine x_cons ?_
      refine x_assign hf (by kernel_rfl) ?_ (by rfl) (by kernel_rfl)
      refine e_bytes ?_
      refine x_nil ?_
      refine x_nil ?_
      refine x_nil ?_
      refine x_nil ?_
      exact ⟨_, hun, lk_same⟩
    · rw [if_neg (by simpa using c)] at hun
      refine x_nil ?_
      refine x_nil ?_
      refine x_nil ?_
      refine x_nil ?_
      exact ⟨_, hun, k1⟩
  clear k1
  rintro σ1 hq5
  obtain ⟨b2, hq6⟩ := hq5
  refine and2 hq6 fun g2 k1 => ?_
  clear hq6
  subst e1
  obtain ⟨l2, hq7⟩ := (edge_enc g2)
  refine and3 hq7 fun e2 m2 hz2 => ?_
  clear hq7
  have hl2 : ∀ c ∈ l2, Sgn c := fun c hc => by
    rcases m2 c hc with h | rfl | rfl
    · exact hl c (m1 c h)
    · exact .inl (by (first | lia | omega))
    · exact .inl (by (first | lia | omega))
  have hn2 : 10 ∉ b2 := by
    rw [e2]
    intro q
    have := (enc_mem hl2 (d := 10) (by decide)).mp q
    rcases m2 10 this with h | h | h
    · exact hnl (m1 10 h)
    · (first | lia | omega)
    · (first | lia | omega)
  have hz : (enc l2).length ≤ 502 := by rw [← e2]; (first | lia | omega)
  refine xM_cutA (fun σ' => σ'.loc.lookup ("btext" : Str) = some (.bytes b2) ∧ match v4endF b2 with
    | none => σ'.loc.lookup ("m" : Str) = some .none
    | some (x, y) => ∃ j, σ'.loc.lookup ("m" : Str) = some (.ref j) ∧ TupAt σ' j [.bytes x, .bytes y]) ?_ ?_
  · refine x_assign hf (by kernel_rfl) ?_ (by rfl) (by kernel_rfl)
    refine e_callD hf (by kernel_rfl) (by intro w; kernel_rfl) def63.look ?_
    refine a_cons ?_
    refine e_loc hf (by kernel_rfl) (by walk_at "lk") ?_
    refine a_nil ?_
    refine o_call hf (q63 (n := n) (by rw [e2]; (first | lia | omega))) (by first | exact Nat.le_trans (by assumption) (by decide) | lia | omega) ⟨trivial, trivial⟩ ?_ (fun _ q => q.elim)
    rintro r rfl
    cases v4endF b2 with
    | none => exact ⟨by walk_at "lk", lk_same⟩
    | some p => exact ⟨by walk_at "lk", _, lk_same, ta_new⟩
  clear k1
  rintro σ1 ⟨k1, k2⟩
  let Iz5 : St → Prop := fun σ' => ∃ b3, v4F b2 = some b3 ∧ b3.length ≤ 600 ∧ σ'.loc.lookup ("btext" : Str) = some (.bytes b3)
  refine xM_cutA Iz5 ?_ ?_
  · refine x_if ?_
    cases hv : v4endF b2 with
    | none =>
      rw [hv] at k2
      refine t_compare ?_
      refine e_loc hf (by kernel_rfl) (by walk_at "lk") ?_
      refine e_none ?_
      refine o_isnot_none ?_
      show Es _ _ _ _ _ _
      refine x_nil ?_
      exact ⟨b2, by unfold v4F; rw [hv], by rw [e2]; (first | lia | omega), k1⟩
    | some p =>
      obtain ⟨x, y⟩ := p
      rw [hv] at k2
      obtain ⟨j, hq8⟩ := k2
      refine and2 hq8 fun k2 k3 => ?_
      clear hq8
      refine and4 (v4endF_spec hn2 hv) fun s1 s2 s3 s4 => ?_
      have hxne := edge_x g2 s1 s2
      obtain ⟨lx, ly, hq9⟩ := (enc_split hl2 (d := 58) (by decide) (show enc l2 = x ++ (58 : Nat).toUInt8 :: y from e2 ▸ s1))
      refine and3 hq9 fun t1 t2 t3 => ?_
      clear hq9
      have hlx : ∀ c ∈ lx, Sgn c := fun c hc => hl2 c (by rw [t1]; simp [hc])
      have hlxne : lx ≠ [] := fun q => hxne (by rw [t2, q]; rfl)
      have hlen : b2.length = x.length + (y.length + 1) := by rw [s1]; simp
      rw [e2] at hlen
      have hlx2 : lx.length ≤ 502 := by
        have := enc_len_ge lx
        rw [← t2] at this
        (first | lia | omega)
      refine t_compare ?_
      refine e_loc hf (by kernel_rfl) (by walk_at "lk") ?_
      refine e_none ?_
      refine o_isnot_none ?_
      show Es _ _ _ _ _ _
      refine x_cons ?_
      refine x_assign hf (by kernel_rfl) ?_ (by rfl) (by kernel_rfl)
      refine e_callD hf (by kernel_rfl) (by intro w; kernel_rfl) def51.look ?_
      refine a_cons ?_
      refine e_index ?_
      refine e_loc hf (by kernel_rfl) (by walk_at "lk") ?_
      refine e_int ?_
      refine i_tup (by assumption) (by decide) (by decide) (show _ = some (AV.bytes y) from rfl) ?_
      refine a_nil ?_
      refine o_call hf (q51 (n := n) (show y.length ≤ 600 by (first | lia | omega))) (by first | exact Nat.le_trans (by assumption) (by decide) | lia | omega) ⟨trivial, trivial⟩ ?_ ?_
      rotate_left
      · rintro c ⟨q, rfl⟩
        exact ⟨N3 g1 g2 (by unfold v4F; rw [hv]; show Option.map _ (aton4F y) = none; rw [q]; rfl), rfl⟩
      rintro r hq10
      obtain ⟨q, hq11⟩ := hq10
      refine and2 hq11 fun hq he12 => ?_
      clear hq11
      obtain rfl := he12
      have hq4 := aton4_len hq
      have h3 : v4F b2 = some (x ++ [58] ++ hx4 q) := by unfold v4F; rw [hv]; show Option.map _ (aton4F y) = _; rw [hq]; rfl
      show Es _ _ _ _ _ _
      refine x_cons ?_
      refine x_assign hf (by kernel_rfl) ?_ (by rfl) (by kernel_rfl)
      refine e_meth0 (id := "str.encode") ?_
      refine e_fstr ?_
      refine tj_cons ?_
      refine e_field ?_
      refine e_meth0 (id := "bytes.decode") ?_
      refine e_index ?_
      refine e_loc hf (by kernel_rfl) (by walk_at "lk") ?_
      refine e_int ?_
      refine i_tup (by assumption) (by decide) (by decide) (show _ = some (AV.bytes x) from rfl) ?_
      refine ⟨meth_bytes FB.slot_bytes_decode FB.type_bytes_decode, ?_⟩
      refine o_decode t2 hlxne hlx (by first | exact Nat.le_trans (by assumption) (by decide) | lia | omega) ?_
      refine o_field_str (by first | exact Nat.le_trans (by assumption) (by decide) | lia | omega) ?_
      refine ⟨_, rfl, by (simp only [List.length_append, List.length_cons, List.length_nil, hex2_len]; (first | lia | omega)), ?_⟩
      refine tj_cons ?_
      refine e_str (l := [58]) (by kernel_rfl) ?_
      refine ⟨_, rfl, by (simp only [List.length_append, List.length_cons, List.length_nil, hex2_len]; (first | lia | omega)), ?_⟩
      refine tj_cons ?_
      refine e_fieldS ?_
      refine e_index ?_
      refine e_loc hf (by kernel_rfl) (by walk_at "lk") ?_
      refine e_int ?_
      refine i_bytes (by first | exact Nat.le_trans (by assumption) (by decide) | lia | omega) (by first | exact Nat.le_trans (by assumption) (by decide) | lia | omega) (by first | exact Nat.le_trans (by assumption) (by decide) | lia | omega) ?_
      refine e_fstr1 ?_
      refine e_str (l := [48, 50, 120]) (by kernel_rfl) ?_
      refine o_field_02x (UInt8.toNat_lt _) ?_
      refine ⟨_, rfl, by (simp only [List.length_append, List.length_cons, List.length_nil, hex2_len]; (first | lia | omega)), ?_⟩
      refine tj_cons ?_
      refine e_fieldS ?_
      refine e_index ?_
      refine e_loc hf (by kernel_rfl) (by walk_at "lk") ?_
      refine e_int ?_
      refine i_bytes (by first | exact Nat.le_trans (by assumption) (by decide) | lia | omega) (by first | exact Nat.le_trans (by assumption) (by decide) | lia | omega) (by first | exact Nat.le_trans (by assumption) (by decide) | lia | omega) ?_
      refine e_fstr1 ?_
      refine e_str (l := [48, 50, 120]) (by kernel_rfl) ?_
      refine o_field_02x (UInt8.toNat_lt _) ?_
      refine ⟨_, rfl, by (simp only [List.length_append, List.length_cons, List.length_nil, hex2_len]; (first | lia | omega)), ?_⟩
      refine tj_cons ?_
      refine e_str (l := [58]) (by kernel_rfl) ?_
      refine ⟨_, rfl, by (simp only [List.length_append, List.length_cons, List.length_nil, hex2_len]; (first | lia | omega)), ?_⟩
      refine tj_cons ?_
      refine e_fieldS ?_
      refine e_index ?_
      refine e_loc hf (by kernel_rfl) (by walk_at "lk") ?_
      refine e_int ?_
      refine i_bytes (by first | exact Nat.le_trans (by assumption) (by decide) | lia | omega) (by first | exact Nat.le_trans (by assumption) (by decide) | lia | omega) (by first | exact Nat.le_trans (by assumption) (by decide) | lia | omega) ?_
      refine e_fstr1 ?_
      refine e_str (l := [48, 50, 120]) (by kernel_rfl) ?_
      refine o_field_02x (UInt8.toNat_lt _) ?_
      refine ⟨_, rfl, by (simp only [List.length_append, List.length_cons, List.length_nil, hex2_len]; (first | lia | omega)), ?_⟩
      refine tj_cons ?_
      refine e_fieldS ?_
      refine e_index ?_
      refine e_loc hf (by kernel_rfl) (by walk_at "lk") ?_
      refine e_int ?_
      refine i_bytes (by first | exact Nat.le_trans (by assumption) (by decide) | lia | omega) (by first | exact Nat.le_trans (by assumption) (by decide) | lia | omega) (by first | exact Nat.le_trans (by assumption) (by decide) | lia | omega) ?_
      refine e_fstr1 ?_
      refine e_str (l := [48, 50, 120]) (by kernel_rfl) ?_
      refine o_field_02x (UInt8.toNat_lt _) ?_
      refine ⟨_, rfl, by (simp only [List.length_append, List.length_cons, List.length_nil, hex2_len]; (first | lia | omega)), ?_⟩
      refine tj_nil (by (simp only [List.length_append, List.length_cons, List.length_nil, hex2_len]; (first | lia | omega))) ?_
      refine ⟨meth_str F.slot_str_encode F.type_str_encode, ?_⟩
      have hz3 := hex2_len (q.getD 0 0).toNat
      refine o_encode (l := [] ++ lx ++ [58] ++ hex2 (q.getD 0 0).toNat ++ hex2 (q.getD 1 0).toNat ++ [58] ++ hex2 (q.getD 2 0).toNat ++ hex2 (q.getD 3 0).toNat) ?_ ?_ ?_
      · intro c hc
        simp only [List.mem_append, List.not_mem_nil, false_or, List.mem_cons, or_false] at hc
        rcases hc with ((((((hc | hc) | hc) | hc) | hc) | hc) | hc)
        · exact hlx c hc
        · exact .inl (by (first | lia | omega))
        · exact hex2_sgn (UInt8.toNat_lt _) c hc
        · exact hex2_sgn (UInt8.toNat_lt _) c hc
        · exact .inl (by (first | lia | omega))
        · exact hex2_sgn (UInt8.toNat_lt _) c hc
        · exact hex2_sgn (UInt8.toNat_lt _) c hc
      · simp only [List.length_append, List.length_cons, List.length_nil, hex2_len]; (first | lia | omega)
      refine x_nil ?_
      have he : enc ([] ++ lx ++ [58] ++ hex2 (q.getD 0 0).toNat ++ hex2 (q.getD 1 0).toNat ++ [58] ++ hex2 (q.getD 2 0).toNat ++ hex2 (q.getD 3 0).toNat) = x ++ [58] ++ hx4 q := by
        rw [t2, hx4]
        simp only [enc_append, List.append_assoc, List.nil_append]
        rfl
      refine ⟨_, h3, ?_, by rw [← he]; exact lk_same⟩
      have : (hx4 q).length = 9 := by
        unfold hx4
        simp only [enc_append, List.length_append]
        have h2 : ∀ k : Nat, k < 256 → (enc (hex2 k)).length = 2 := by
          intro k hk
          have h1 := enc_len_ge (hex2 k)
          have : enc (hex2 k) = [(hx (k / 16)).toUInt8, (hx (k % 16)).toUInt8] := by
            unfold hex2
            rw [enc_cons, enc_cons, utf8Of_low (by unfold hx; split <;> (first | lia | omega)), utf8Of_low (by unfold hx; split <;> (first | lia | omega))]; rfl
          rw [this]; rfl
        rw [h2 _ (UInt8.toNat_lt _), h2 _ (UInt8.toNat_lt _), h2 _ (UInt8.toNat_lt _), h2 _ (UInt8.toNat_lt _)]
        rfl
      simp only [List.length_append, List.length_cons, List.length_nil, this]
      (first | lia | omega)
  clear k1 k2
  rintro σ1 hq13
  obtain ⟨b3, hq14⟩ := hq13
  refine and3 hq14 fun g3 hz3 k1 => ?_
  clear hq14
  have N4' := N4 g1 g2 g3
  refine xM_cutA (fun σ' => σ'.loc.lookup ("btext" : Str) = some (.bytes (trimF b3))) ?_ ?_
  · unfold trimF
    refine x_if ?_
    refine t_value ?_
    refine e_meth1 (id := "bytes.startswith") ?_
    refine e_loc hf (by kernel_rfl) (by walk_at "lk") ?_
    refine ⟨meth_bytes FB.slot_bytes_startswith FB.type_bytes_startswith, ?_⟩
    refine a_cons ?_
    refine e_bytes ?_
    refine a_nil ?_
    refine o_starts ?_
    refine o_truthy_bool ?_
    refine tite_of (fun c => ?_) (fun c => ?_)
    · rw [if_pos c]
      refine x_cons ?_
      refine x_assign hf (by kernel_rfl) ?_ (by rfl) (by kernel_rfl)
      refine e_slice ?_
      refine e_loc hf (by kernel_rfl) (by walk_at "lk") ?_
      refine p_some ?_
      refine e_int ?_
      refine p_none ?_
      refine s_bytes (by first | (first | lia | omega) | (simp; done) | (simp; (first | lia | omega))) ?_
      refine x_nil ?_
      exact lk_same
    · rw [if_neg (by rw [c]; decide)]
      refine x_cons ?_
      refine x_if ?_
      refine t_value ?_
      refine e_meth1 (id := "bytes.endswith") ?_
      refine e_loc hf (by kernel_rfl) (by walk_at "lk") ?_
      refine ⟨meth_bytes FB.slot_bytes_endswith FB.type_bytes_endswith, ?_⟩
      refine a_cons ?_
      refine e_bytes ?_
      refine a_nil ?_
      refine o_ends ?_
      refine o_truthy_bool ?_
      refine tite_of (fun d => ?_) (fun d => ?_)
      · rw [if_pos d]
        refine x_cons ?_
        refine x_assign hf (by kernel_rfl) ?_ (by rfl) (by kernel_rfl)
        refine e_slice ?_
        refine e_loc hf (by kernel_rfl) (by walk_at "lk") ?_
        refine p_none ?_
        refine p_some ?_
        refine e_unary ?_
        refine e_int ?_
        refine o_neg_int ?_
        refine s_bytes (by first | (first | lia | omega) | (simp; done) | (simp; (first | lia | omega))) ?_
        refine x_nil ?_
        refine x_nil ?_
        exact lk_same
      · rw [if_neg (by rw [d]; decide)]
        refine x_nil ?_
        refine x_nil ?_
        exact k1
  clear k1
  rintro σ1 k1
  have hz4 : (trimF b3).length ≤ 600 := by
    unfold trimF; split
    · exact Nat.le_trans (cut_len _ _ _) hz3
    · split
      · exact Nat.le_trans (cut_len _ _ _) hz3
      · exact hz3
  generalize trimF b3 = bt at k1 hz4 N4'
  refine xM_consA ?_
  refine x_assign hf (by kernel_rfl) ?_ (by rfl) (by kernel_rfl)
  refine e_meth1 (id := "bytes.split") ?_
  refine e_loc hf (by kernel_rfl) (by walk_at "lk") ?_
  refine ⟨meth_bytes BF.slot_bytes_split BF.type_bytes_split, ?_⟩
  refine a_cons ?_
  refine e_bytes ?_
  refine a_nil ?_
  refine o_split_bytes (by first | exact Nat.le_trans (by assumption) (by decide) | lia | omega) ?_
  have hun : chunksOk bt = if 8 < (spl 58 bt).length then none else (canRun (spl 58 bt).length (spl 58 bt) (spl 58 bt).length).bind fun s => if (decide ((spl 58 bt).length < 8) && !s.1) = true then none else some s.2 := rfl
  have hin := @chunksOk_in bt
  have hsp := spl_length_le 58 bt
  have hpl : ∀ p ∈ spl 58 bt, p.length ≤ bt.length := fun p hp => spl_mem_le 58 bt p hp
  generalize spl 58 bt = cs at hun hsp hpl ⊢
  have nl : (cs.map AV.bytes).length = cs.length := by simp
  refine xM_consA ?_
  refine x_assign hf (by kernel_rfl) ?_ (by rfl) (by kernel_rfl)
  refine e_callB (id := "len") hf (by kernel_rfl) (by intro w; kernel_rfl) (by kernel_rfl) ?_
  refine a_cons ?_
  refine e_loc hf (by kernel_rfl) (by walk_at "lk") ?_
  refine a_nil ?_
  refine o_len_list (by walk_at "la") (by first | exact Nat.le_trans (by assumption) (by decide) | lia | omega) ?_
  rw [nl]
  refine xM_consA ?_
  refine x_if ?_
  refine t_compare ?_
  refine e_loc hf (by kernel_rfl) (by walk_at "lk") ?_
  refine e_int ?_
  refine o_gt_int ?_
  refine tite_of (fun c => ?_) (fun c => ?_)
  · have c' : 8 < cs.length := by simp at c; (first | lia | omega)
    clear c
    rw [if_pos c'] at hun
    refine x_cons ?_
    refine x_raise (C := 37) hf (by kernel_rfl) (by intro w; kernel_rfl) (by intro w; kernel_rfl) F.excBase_Exception ?_
    exact ⟨by rw [N4', hun]; rfl, rfl⟩
  have c8 : ¬ 8 < cs.length := by simp at c; (first | lia | omega)
  clear c
  rw [if_neg c8] at hun
  refine x_nil ?_
  generalize hσ : ((σ1.new (AO.list (cs.map .bytes))).set ("chunks" : Str) (.ref σ1.mem.length)).set ("l" : Str) (.int cs.length) = σ2
  have z1 : σ2.loc.lookup ("chunks" : Str) = some (.ref σ1.mem.length) := by subst hσ; walk_at "lk"
  have z2 : ListAt σ2 σ1.mem.length (cs.map .bytes) := by subst hσ; walk_at "la"
  have z3 : σ2.loc.lookup ("l" : Str) = some (.int cs.length) := by subst hσ; walk_at "lk"
  have z4 := la_lt z2
  generalize σ1.mem.length = jc at z1 z2 z4
  clear hσ k1
  let Iz7 : St → Prop := fun σ' => σ'.loc.lookup ("chunks" : Str) = some (.ref jc) ∧ ListAt σ' jc (cs.map .bytes) ∧ σ'.loc.lookup ("l" : Str) = some (.int cs.length) ∧ σ'.loc.lookup ("seen_empty" : Str) = some (.bool false)
  refine xM_cutA Iz7 ?_ ?_
  · refine x_assign hf (by kernel_rfl) ?_ (by rfl) (by kernel_rfl)
    refine e_bool ?_
    exact ⟨by walk_at "lk", z2, by walk_at "lk", lk_same⟩
  clear z1 z2 z3 z4
  rintro σ2 hq15
  refine and4 hq15 fun z1 z2 z3 z5 => ?_
  clear hq15
  have z4 := la_lt z2
  refine xM_cutA (fun σ' => σ'.loc.lookup ("chunks" : Str) = some (.ref jc) ∧ ListAt σ' jc (cs.map .bytes) ∧ σ'.loc.lookup ("l" : Str) = some (.int cs.length) ∧ σ'.loc.lookup ("seen_empty" : Str) = some (.bool false) ∧
      σ'.loc.lookup ("canonical" : Str) = some (.ref σ2.mem.length) ∧ ListAt σ' σ2.mem.length []) ?_ ?_
  · refine x_assign hf (by kernel_rfl) ?_ (by rfl) (by kernel_rfl)
    refine e_list ?_
    refine a_nil ?_
    refine ⟨by simp, ?_⟩
    exact ⟨by walk_at "lk", by walk_at "la", by walk_at "lk", by walk_at "lk", lk_same, la_set la_new⟩
  generalize hjx : σ2.mem.length = jx
  have hne : jx ≠ jc := by (first | lia | omega)
  clear z1 z2 z3 z4 z5 hjx
  rintro σ2 hq16
  refine and6 hq16 fun m1 m2 m3 m4 m5 m6 => ?_
  clear hq16
  refine xM_cutA (fun σ' => ∃ jx s, canRun cs.length cs cs.length = some s ∧ σ'.loc.lookup ("l" : Str) = some (.int cs.length) ∧ σ'.loc.lookup ("seen_empty" : Str) = some (.bool s.1) ∧ σ'.loc.lookup ("canonical" : Str) = some (.ref jx) ∧ ListAt σ' jx (s.2.map .bytes)) ?_ ?_
  · refine x_for hf (by kernel_rfl) ?_ (by rw [hfe])
    refine it_list hf ?_
    refine e_loc hf (by kernel_rfl) (by walk_at "lk") ?_
    refine ⟨_, _, rfl, by walk_at "la", fun ob => ?_⟩
    have hj0 := la_lt m2
    refine ⟨fun i σ' => ∃ s, canRun cs.length cs i = some s ∧ σ'.loc.lookup ("l" : Str) = some (.int cs.length) ∧ σ'.loc.lookup ("seen_empty" : Str) = some (.bool s.1) ∧ σ'.loc.lookup ("canonical" : Str) = some (.ref jx) ∧ ListAt σ' jx (s.2.map .bytes) ∧ σ'.mem[jc]? = some (.fix ob false (cs.map .bytes)),
      ⟨(false, []), rfl, by walk_at "lk", by walk_at "lk", by walk_at "lk", la_put_other m6 (Ne.symm hne), mem_put hj0⟩, ?_, ?_, ?_⟩
    · intro j hj i σ' ⟨s, _, _, _, _, _, h2⟩
      simp only [List.mem_cons, List.not_mem_nil, or_false] at hj
      subst hj
      rw [h2, mem_put hj0]
    · rintro i σ' y hq17 hy f₁ hL hfe₁ hf₁
      obtain ⟨s, hq18⟩ := hq17
      refine and6 hq18 fun r1 r2 r3 r4 r5 r6 => ?_
      clear hq18
      obtain ⟨p, hq19⟩ := (item_of hy)
      refine and3 hq19 fun ho he20 hmem => ?_
      clear hq19
      obtain rfl := he20
      have hlt : i < cs.length := (List.getElem?_eq_some_iff.mp ho).1
      have hget : cs.getD i [] = p := by simp [List.getD, ho]
      have hrun : canRun cs.length cs (i + 1) = canStep cs.length s p := by rw [canRun, r1, hget]; rfl
      have hbad : canStep cs.length s p = none → aton6F (enc l) ig = none := fun q => by rw [N4', hun, canRun_none (hrun.trans q) cs.length hlt]; rfl
      have hs2 := (canRun_in (by (first | lia | omega)) r1).1
      have hs3 : s.2.length ≤ 16 := by rw [hs2]; split <;> (first | lia | omega)
      have hpl' := hpl p hmem
      have hst : canStep cs.length s p = if p = [] then (if s.1 = true then none else some (true, s.2 ++ List.replicate (9 - cs.length) zero4)) else
        if 4 < p.length then none else some (s.1, s.2 ++ [List.replicate (4 - p.length) 48 ++ p]) := rfl
      have r6' : (σ'.set ("c" : Str) (.bytes p)).mem[jc]? = some (.fix ob false (cs.map .bytes)) := r6
      refine x_cons ?_
      refine x_if ?_
      refine t_compare ?_
      refine e_loc hf₁ (by kernel_rfl) (by walk_at "lk") ?_
      refine e_bytes ?_
      refine o_eq_bytes ?_
      refine tite_of (fun c => ?_) (fun c => ?_)
      · have c' : p = [] := by simpa using c
        rw [if_pos c'] at hst
        refine x_cons ?_
        refine x_if ?_
        refine t_value ?_
        refine e_loc hf₁ (by kernel_rfl) (by walk_at "lk") ?_
        refine o_truthy_bool ?_
        refine tite_of (fun d => ?_) (fun d => ?_)
        · rw [if_pos d] at hst
          refine x_cons ?_
          refine x_raise (C := 37) hf₁ (by kernel_rfl) (by intro w; kernel_rfl) (by intro w; kernel_rfl) F.excBase_Exception ?_
          exact ⟨hbad hst, rfl⟩
        rw [if_neg (by rw [d]; decide)] at hst
        refine x_nil ?_
        refine x_cons ?_
        refine x_assign hf₁ (by kernel_rfl) ?_ (by rfl) (by kernel_rfl)
        refine e_bool ?_
        refine x_cons ?_
        refine x_for hf₁ (by kernel_rfl) ?_ (by rw [hfe₁, hfe])
        refine it_range hf₁ ?_
        refine e_callT (T := "range") hf₁ (by kernel_rfl) (by intro w; kernel_rfl) (by kernel_rfl) ?_
        refine a_cons ?_
        refine e_int ?_
        refine a_cons ?_
        refine e_binop ?_
        refine e_binop ?_
        refine e_int ?_
        refine e_loc hf₁ (by kernel_rfl) (by walk_at "lk") ?_
        refine o_sub_int ?_
        refine e_int ?_
        refine o_add_int ?_
        refine a_nil ?_
        refine o_range2 ?_
        rw [show (8 : Int) - (cs.length : Int) + 1 = ((9 - cs.length : Nat) : Int) by (first | lia | omega)]
        obtain ⟨rf1, rf2⟩ := range_facts (9 - cs.length) (Nat.lt_of_le_of_lt (Nat.sub_le _ _) (by decide))
        refine ⟨_, _, _, _, 9 - cs.length, rfl, mem_new, rf1, rf2, ?_⟩
        have rl : (rangeL 0 1 (9 - cs.length)).length = 9 - cs.length := by simp [rangeL]
        let Iz11 : Nat → St → Prop := fun k σ'' => σ''.loc.lookup ("l" : Str) = some (.int cs.length) ∧ σ''.loc.lookup ("seen_empty" : Str) = some (.bool true) ∧ σ''.loc.lookup ("canonical" : Str) = some (.ref jx) ∧ ListAt σ'' jx ((s.2 ++ List.replicate k zero4).map .bytes) ∧ σ''.mem[jc]? = some (.fix ob false (cs.map .bytes))
        refine ⟨Iz11,
          ⟨by walk_at "lk", by walk_at "lk", by walk_at "lk", by rw [List.replicate_zero, List.append_nil]; walk_at "la", mem_keep r6⟩, fun _ q => by simp at q, ?_, ?_⟩
        · rintro k σ'' y hq21 hy₂ f₂ hL₂ hfe₂ hf₂
          refine and5 hq21 fun n1 n2 n3 n4 n5 => ?_
          clear hq21
          obtain ⟨rfl, hk⟩ := range_item hy₂
          refine x_cons ?_
          refine x_expr ?_
          refine e_meth1 (id := "list.append") ?_
          refine e_loc hf₂ (by kernel_rfl) (by walk_at "lk") ?_
          refine ⟨meth_append (by walk_at "la"), ?_⟩
          refine a_cons ?_
          refine e_bytes ?_
          refine a_nil ?_
          refine o_append (by walk_at "la") (by simp only [List.length_map, List.length_append, List.length_replicate]; (first | lia | omega)) ?_
          refine x_nil ?_
          refine ⟨by walk_at "lk", by walk_at "lk", by walk_at "lk", ?_, mem_put_other n5 hne⟩
          have : (s.2 ++ List.replicate (k + 1) zero4).map AV.bytes = (s.2 ++ List.replicate k zero4).map AV.bytes ++ [AV.bytes zero4] := by
            rw [List.replicate_succ', ← List.append_assoc, List.map_append]; rfl
          rw [this]
          exact .inl (mem_put (la_lt n4))
        · rintro σ'' hq22
          refine and5 hq22 fun n1 n2 n3 n4 n5 => ?_
          clear hq22
          rw [rl] at n4
          refine x_nil ?_
          refine x_nil ?_
          exact ⟨_, hrun.trans hst, n1, n2, n3, n4, n5⟩
      · have c' : ¬ p = [] := by simpa using c
        have hp0 : 1 ≤ p.length := by cases p <;> simp_all
        rw [if_neg c'] at hst
        refine x_cons ?_
        refine x_assign hf₁ (by kernel_rfl) ?_ (by rfl) (by kernel_rfl)
        refine e_callB (id := "len") hf₁ (by kernel_rfl) (by intro w; kernel_rfl) (by kernel_rfl) ?_
        refine a_cons ?_
        refine e_loc hf₁ (by kernel_rfl) (by walk_at "lk") ?_
        refine a_nil ?_
        refine o_len_bytes (by first | exact Nat.le_trans (by assumption) (by decide) | lia | omega) ?_
        refine x_cons ?_
        refine x_if ?_
        refine t_compare ?_
        refine e_loc hf₁ (by kernel_rfl) (by walk_at "lk") ?_
        refine e_int ?_
        refine o_gt_int ?_
        refine tite_of (fun d => ?_) (fun d => ?_)
        · rw [if_pos (by simp at d; (first | lia | omega))] at hst
          refine x_cons ?_
          refine x_raise (C := 37) hf₁ (by kernel_rfl) (by intro w; kernel_rfl) (by intro w; kernel_rfl) F.excBase_Exception ?_
          exact ⟨hbad hst, rfl⟩
        have d4 : ¬ 4 < p.length := by simp at d; (first | lia | omega)
        clear d
        rw [if_neg d4] at hst
        refine x_nil ?_
        let Iz12 : St → Prop := fun σ'' => σ''.loc.lookup ("l" : Str) = some (.int cs.length) ∧ σ''.loc.lookup ("seen_empty" : Str) = some (.bool s.1) ∧ σ''.loc.lookup ("canonical" : Str) = some (.ref jx) ∧ ListAt σ'' jx (s.2.map .bytes) ∧ σ''.mem[jc]? = some (.fix ob false (cs.map .bytes)) ∧
          σ''.loc.lookup ("c" : Str) = some (.bytes (List.replicate (4 - p.length) 48 ++ p))
        refine x_cut Iz12 ?_ ?_
        · refine x_if ?_
          refine t_compare ?_
          refine e_loc hf₁ (by kernel_rfl) (by walk_at "lk") ?_
          refine e_int ?_
          refine o_ne_int ?_
          refine tite_of (fun d => ?_) (fun d => ?_)
          · have d5 : p.length ≠ 4 := by simp at d; (first | lia | omega)
            clear d
            refine x_cons ?_
            refine x_assign hf₁ (by kernel_rfl) ?_ (by rfl) (by kernel_rfl)
            refine e_binop ?_
            refine e_binop ?_
            refine e_bytes ?_
            refine e_binop ?_
            refine e_int ?_
            refine e_loc hf₁ (by kernel_rfl) (by walk_at "lk") ?_
            refine o_sub_int ?_
            refine o_mul_bytes (by simp) (by first | exact Nat.le_trans (by assumption) (by decide) | lia | omega) (by first | exact Nat.le_trans (by assumption) (by decide) | lia | omega) (by simp) ?_
            refine e_loc hf₁ (by kernel_rfl) (by walk_at "lk") ?_
            have hrep : (List.replicate (4 - (p.length : Int)).toNat [(48 : UInt8)]).flatten = List.replicate (4 - p.length) 48 := by
              rw [show (4 - (p.length : Int)).toNat = 4 - p.length from Int.toNat_sub 4 p.length]; simp
            rw [hrep]
            refine o_add_bytes (by simp; (first | lia | omega)) ?_
            refine x_nil ?_
            exact ⟨by walk_at "lk", by walk_at "lk", by walk_at "lk", by walk_at "la", r6, lk_same⟩
          · have d5 : p.length = 4 := by simp at d; (first | lia | omega)
            clear d
            refine x_nil ?_
            refine ⟨by walk_at "lk", by walk_at "lk", by walk_at "lk", by walk_at "la", r6, ?_⟩
            rw [d5, Nat.sub_self, List.replicate_zero, List.nil_append]
            walk_at "lk"
        rintro σ'' hq23
        refine and6 hq23 fun n1 n2 n3 n4 n5 n6 => ?_
        clear hq23
        refine x_cons ?_
        refine x_expr ?_
        refine e_meth1 (id := "list.append") ?_
        refine e_loc hf₁ (by kernel_rfl) (by walk_at "lk") ?_
        refine ⟨meth_append (by walk_at "la"), ?_⟩
        refine a_cons ?_
        refine e_loc hf₁ (by kernel_rfl) (by walk_at "lk") ?_
        refine a_nil ?_
        refine o_append (by walk_at "la") (by simp only [List.length_map]; (first | lia | omega)) ?_
        refine x_nil ?_
        refine x_nil ?_
        refine ⟨_, hrun.trans hst, by walk_at "lk", by walk_at "lk", by walk_at "lk", ?_, mem_put_other n5 hne⟩
        rw [List.map_append]
        exact .inl (mem_put (la_lt n4))
    · rintro σ' hq24
      obtain ⟨s, hq25⟩ := hq24
      refine and6 hq25 fun r1 r2 r3 r4 r5 r6 => ?_
      clear hq25
      rw [nl] at r1
      exact ⟨jx, s, r1, r2, r3, r4, r5⟩
  clear m1 m2 m3 m4 m5 m6 hne
  rintro σ3 hq26
  obtain ⟨jx, s, hq27⟩ := hq26
  refine and5 hq27 fun r1 r2 r3 r4 r5 => ?_
  clear hq27
  rw [r1, Option.bind_some] at hun
  have hd8 : decide ((cs.length : Int) < 8) = decide (cs.length < 8) := decide_eq_decide.mpr Int.ofNat_lt
  refine xM_consA ?_
  refine x_if ?_
  refine t_is (decide ((cs.length : Int) < 8) && !s.1) (fun s => σ3 = s) ?_ ?_
  · refine t_bool ?_
    refine ta_and ?_
    refine t_compare ?_
    refine e_loc hf (by kernel_rfl) (by walk_at "lk") ?_
    refine e_int ?_
    refine o_lt_int ?_
    refine tite_of (fun c => ?_) (fun c => ⟨by rw [c]; rfl, rfl⟩)
    rw [c]
    refine ta_and ?_
    refine t_not ?_
    refine t_value ?_
    refine e_loc hf (by kernel_rfl) (by walk_at "lk") ?_
    refine o_truthy_bool ?_
    refine tite_of (fun c => ?_) (fun c => ⟨by rw [c]; rfl, rfl⟩)
    exact ta_nil ⟨by rw [c]; rfl, rfl⟩
  rintro s rfl
  rw [hd8]
  refine tite_of (fun c => ?_) (fun c => ?_)
  · rw [if_pos c] at hun
    refine x_cons ?_
    refine x_raise (C := 37) hf (by kernel_rfl) (by intro w; kernel_rfl) (by intro w; kernel_rfl) F.excBase_Exception ?_
    exact ⟨by rw [N4', hun]; rfl, rfl⟩
  rw [if_neg (by rw [c]; decide)] at hun
  obtain ⟨hl8, hl32⟩ := hin hun
  have NF : aton6F (enc l) ig = pairsTo s.2.flatten 16 := by rw [N4', hun]; rfl
  refine x_nil ?_
  refine xM_cutA (fun σ' => σ'.loc.lookup ("btext" : Str) = some (.bytes s.2.flatten)) ?_ ?_
  · refine x_assign hf (by kernel_rfl) ?_ (by rfl) (by kernel_rfl)
    refine e_meth1 (id := "bytes.join") ?_
    refine e_bytes ?_
    refine ⟨meth_bytes BF.slot_bytes_join BF.type_bytes_join, ?_⟩
    refine a_cons ?_
    refine e_loc hf (by kernel_rfl) (by walk_at "lk") ?_
    refine a_nil ?_
    refine o_join_bytes (by walk_at "la") (by first | exact Nat.le_trans (by assumption) (by decide) | lia | omega) (by first | exact Nat.le_trans (by assumption) (by decide) | lia | omega) ?_
    exact lk_same
  rintro σ4 k4
  generalize s.2.flatten = fl at hl32 NF k4
  clear r2 r3 r4 r5 r1 hun hin
  refine xM_cut (fun σ' => ∃ jf, σ'.loc.lookup ("btext" : Str) = some (.bytes fl) ∧ σ'.loc.lookup ("found" : Str) = some (.ref jf) ∧ σ'.mem[jf]? = some (.ba [])) ?_ ?_
  · refine x_assignM hf (by kernel_rfl) ?_ (by rfl) (by kernel_rfl)
    refine e_callT0M (T := "bytearray") hf (by kernel_rfl) (by intro w; kernel_rfl) (by kernel_rfl) ?_
    refine o_bytearray hf ?_
    exact ⟨_, by walk_at "lk", lk_same, mem_new⟩
  rintro σ5 hq28
  obtain ⟨jf, hq29⟩ := hq28
  refine and3 hq29 fun k5 k6 k7 => ?_
  clear hq29
  let Iz15 : St → Prop := fun σ' => ∃ ys, pairsTo fl 16 = some ys ∧ ys.length = 16 ∧ σ'.loc.lookup ("found" : Str) = some (.ref jf) ∧ σ'.mem[jf]? = some (.ba ys)
  refine xM_cut Iz15 ?_ ?_
  · refine xM_for hf (by kernel_rfl) ?_ (by rw [hfe])
    refine it_range hf ?_
    refine e_callT (T := "range") hf (by kernel_rfl) (by intro w; kernel_rfl) (by kernel_rfl) ?_
    refine a_cons ?_
    refine e_int ?_
    refine a_cons ?_
    refine e_callB (id := "len") hf (by kernel_rfl) (by intro w; kernel_rfl) (by kernel_rfl) ?_
    refine a_cons ?_
    refine e_loc hf (by kernel_rfl) (by walk_at "lk") ?_
    refine a_nil ?_
    refine o_len_bytes (by first | exact Nat.le_trans (by assumption) (by decide) | lia | omega) ?_
    refine a_cons ?_
    refine e_int ?_
    refine a_nil ?_
    refine o_range3 (by decide) (PyProof.noPylong_small (by decide)) ?_
    rw [hl32]
    refine ⟨_, _, _, _, 16, rfl, mem_new, small_by2 (k := 16) (by (first | lia | omega)), size_by2 16, ?_⟩
    have rl : (rangeL 0 2 16).length = 16 := by simp [rangeL]
    let Iz16 : Nat → St → Prop := fun i σ' => σ'.loc.lookup ("btext" : Str) = some (.bytes fl) ∧ σ'.loc.lookup ("found" : Str) = some (.ref jf) ∧ ∃ ys, pairsTo fl i = some ys ∧ ys.length = i ∧ σ'.mem[jf]? = some (.ba ys)
    refine ⟨Iz16,
      ⟨by walk_at "lk", by walk_at "lk", [], rfl, rfl, mem_keep k7⟩, fun _ q => by simp at q, ?_, ?_⟩
    · rintro i σ' y hq30 hy f₁ hL hfe₁ hup₁ hf₁
      obtain ⟨r1, r2, ys, hq31⟩ := hq30
      refine and3 hq31 fun r3 r4 r5 => ?_
      clear hq31
      obtain ⟨rfl, hi⟩ := range_item2 hy
      have e1 : (((2 * i : Nat) : Int) + 1) = ((2 * i + 1 : Nat) : Int) := rfl
      have e2 : (((2 * i : Nat) : Int) + 2) = ((2 * i + 1 + 1 : Nat) : Int) := rfl
      have x1 := hexAt_lt (b := fl) (i := 2 * i) (by (first | lia | omega))
      have x2 := hexAt_lt (b := fl) (i := 2 * i + 1) (by (first | lia | omega))
      have c1 := cut_len fl (some ((2 * i : Nat) : Int)) (some ((2 * i + 1 : Nat) : Int))
      have c2 := cut_len fl (some ((2 * i + 1 : Nat) : Int)) (some ((2 * i + 1 + 1 : Nat) : Int))
      have f1 : findL hexB ((cut fl (some ((2 * i : Nat) : Int)) (some ((2 * i + 1 : Nat) : Int))).map Builtin.Bytes.toLower) = hexAt fl (2 * i) := rfl
      have f2 : findL hexB ((cut fl (some ((2 * i + 1 : Nat) : Int)) (some ((2 * i + 1 + 1 : Nat) : Int))).map Builtin.Bytes.toLower) = hexAt fl (2 * i + 1) := rfl
      have hpa : pairAt fl i = if (decide (hexAt fl (2 * i) < 0) || decide (hexAt fl (2 * i + 1) < 0)) = true then none else some (hexAt fl (2 * i) * 16 + hexAt fl (2 * i + 1)).toNat.toUInt8 := rfl
      have hnx : pairsTo fl (i + 1) = (pairAt fl i).map fun y => ys ++ [y] := by rw [pairsTo, r3]; rfl
      refine xM_consA ?_
      refine x_assign hf₁ (by kernel_rfl) ?_ (by rfl) (by kernel_rfl)
      refine e_meth1 (id := "bytes.find") ?_
      refine e_HEX hf₁ (by kernel_rfl) ?_
      refine ⟨meth_bytes BF.slot_bytes_find BF.type_bytes_find, ?_⟩
      refine a_cons ?_
      refine e_meth0 (id := "bytes.lower") ?_
      refine e_slice ?_
      refine e_loc hf₁ (by kernel_rfl) (by walk_at "lk") ?_
      refine p_some ?_
      refine e_loc hf₁ (by kernel_rfl) (by walk_at "lk") ?_
      refine p_some ?_
      refine e_binop ?_
      refine e_loc hf₁ (by kernel_rfl) (by walk_at "lk") ?_
      refine e_int ?_
      refine o_add_int ?_
      rw [e1]
      refine s_bytes (by first | exact Nat.le_trans (by assumption) (by decide) | lia | omega) ?_
      refine ⟨meth_bytes BF.slot_bytes_lower BF.type_bytes_lower, ?_⟩
      refine o_lower (by first | exact Nat.le_trans (by assumption) (by decide) | lia | omega) ?_
      refine a_nil ?_
      refine o_find ?_
      rw [f1]
      refine xM_consA ?_
      refine x_assign hf₁ (by kernel_rfl) ?_ (by rfl) (by kernel_rfl)
      refine e_meth1 (id := "bytes.find") ?_
      refine e_HEX hf₁ (by kernel_rfl) ?_
      refine ⟨meth_bytes BF.slot_bytes_find BF.type_bytes_find, ?_⟩
      refine a_cons ?_
      refine e_meth0 (id := "bytes.lower") ?_
      refine e_slice ?_
      refine e_loc hf₁ (by kernel_rfl) (by walk_at "lk") ?_
      refine p_some ?_
      refine e_binop ?_
      refine e_loc hf₁ (by kernel_rfl) (by walk_at "lk") ?_
      refine e_int ?_
      refine o_add_int ?_
      rw [e1]
      refine p_some ?_
      refine e_binop ?_
      refine e_loc hf₁ (by kernel_rfl) (by walk_at "lk") ?_
      refine e_int ?_
      refine o_add_int ?_
      rw [e2]
      refine s_bytes (by first | exact Nat.le_trans (by assumption) (by decide) | lia | omega) ?_
      refine ⟨meth_bytes BF.slot_bytes_lower BF.type_bytes_lower, ?_⟩
      refine o_lower (by first | exact Nat.le_trans (by assumption) (by decide) | lia | omega) ?_
      refine a_nil ?_
      refine o_find ?_
      rw [f2]
      generalize hexAt fl (2 * i) = hh at x1 hpa ⊢
      generalize hexAt fl (2 * i + 1) = hw at x2 hpa ⊢
      unfold Sto
      generalize hσ : ((StS ("k" : Str) σ' i (.int ((2 * i : Nat) : Int))).set ("high" : Str) (.int hh)).set ("low" : Str) (.int hw) = σ6
      have u1 : σ6.loc.lookup ("btext" : Str) = some (.bytes fl) := by subst hσ; walk_at "lk"
      have u2 : σ6.loc.lookup ("found" : Str) = some (.ref jf) := by subst hσ; walk_at "lk"
      have u3 : σ6.loc.lookup ("high" : Str) = some (.int hh) := by subst hσ; walk_at "lk"
      have u4 : σ6.loc.lookup ("low" : Str) = some (.int hw) := by subst hσ; walk_at "lk"
      have u5 : σ6.mem[jf]? = some (.ba ys) := by subst hσ; exact r5
      clear hσ
      refine xM_consA ?_
      refine x_if ?_
      refine t_is (decide (hh < 0) || decide (hw < 0)) (fun s => σ6 = s) ?_ ?_
      · refine t_bool ?_
        refine ta_or ?_
        refine t_compare ?_
        refine e_loc hf₁ (by kernel_rfl) (by walk_at "lk") ?_
        refine e_int ?_
        refine o_lt_int ?_
        refine tite_of (fun c => ⟨by rw [c]; rfl, rfl⟩) (fun c => ?_)
        rw [c]
        refine ta_or ?_
        refine t_compare ?_
        refine e_loc hf₁ (by kernel_rfl) (by walk_at "lk") ?_
        refine e_int ?_
        refine o_lt_int ?_
        refine tite_of (fun c => ⟨by rw [c]; rfl, rfl⟩) (fun c => ?_)
        exact ta_nil ⟨by rw [c]; rfl, rfl⟩
      rintro s rfl
      refine tite_of (fun c => ?_) (fun c => ?_)
      · rw [if_pos c] at hpa
        rw [hpa] at hnx
        refine x_cons ?_
        refine x_raise (C := 37) hf₁ (by kernel_rfl) (by intro w; kernel_rfl) (by intro w; kernel_rfl) F.excBase_Exception ?_
        exact ⟨by rw [NF]; exact pairsTo_none hnx 16 hi, rfl⟩
      rw [if_neg (by rw [c]; decide)] at hpa
      simp only [Bool.or_eq_false_iff, decide_eq_false_iff_not] at c
      rw [hpa] at hnx
      refine x_nil ?_
      refine xM_cons ?_
      refine x_exprM ?_
      refine e_meth1M (id := "bytearray.append") ?_
      refine e_loc hf₁ (by kernel_rfl) (by walk_at "lk") ?_
      refine ⟨meth_baappend u5, ?_⟩
      refine a_cons ?_
      refine e_binop ?_
      refine e_binop ?_
      refine e_loc hf₁ (by kernel_rfl) (by walk_at "lk") ?_
      refine e_int ?_
      refine o_mul_int (by mul_fits) ?_
      refine e_loc hf₁ (by kernel_rfl) (by walk_at "lk") ?_
      refine o_add_int ?_
      refine a_nil ?_
      refine o_baappend hf₁ u5 (by first | exact Nat.le_trans (by assumption) (by decide) | lia | omega) (by first | exact Nat.le_trans (by assumption) (by decide) | lia | omega) ?_
      refine xM_nil ?_
      refine ⟨by walk_at "lk", by walk_at "lk", _, hnx, by simp [r4], ?_⟩
      exact mem_put (List.getElem?_eq_some_iff.mp u5).1
    · rintro σ' hq32
      obtain ⟨r1, r2, ys, hq33⟩ := hq32
      refine and3 hq33 fun r3 r4 r5 => ?_
      clear hq33
      rw [rl] at r3 r4
      exact ⟨ys, r3, r4, r2, r5⟩
  rintro σ6 hq34
  obtain ⟨ys, hq35⟩ := hq34
  refine and4 hq35 fun r1 r2 r3 r4 => ?_
  clear hq35
  refine xM_consA ?_
  refine x_return ?_
  refine e_callT (T := "bytes") hf (by kernel_rfl) (by intro w; kernel_rfl) (by kernel_rfl) ?_
  refine a_cons ?_
  refine e_loc hf (by kernel_rfl) (by walk_at "lk") ?_
  refine a_nil ?_
  refine o_bytes_ba r4 (by first | exact Nat.le_trans (by assumption) (by decide) | lia | omega) ?_
  exact ⟨ys, NF.trans r1, rfl⟩
end

/- # F39 -/
section
open PySem PySem.Calls PyProof.Rows PySem.W

section
variable {m : Mod} {f : Fm} {env : Env} {n : Nat} {Ψ : Value → Prop} {ρ : List Addr} {σ : St} {s : Shared}
theorem spliced1M {M : Model} {A : Around} {E : Value → Shared → Prop} {x : Sem Value} {Q : List Value → Shared → Prop} (h : wpM m M A x (fun v s' => Q [v] s') E s) : wpM m M A (spliced [(false, x)]) Q E s := by
  unfold spliced
  refine wpM_bind (wpM_mono h (fun v s₁ h₁ => ?_) fun _ _ q => q)
  refine wpM_bind (wpM_pure ?_)
  refine wpM_bind (wpM_holding ?_)
  unfold spliced
  exact wpM_pure (wpM_pure h₁)
noncomputable abbrev KNM1 (m : Mod) (f : Fm) (Ψ : Value → Prop) (k : List Value → Sem Value) (Φ : AV → St → Prop) (a : AV) (σ₁ : St) : Prop := OpNM m f k VR [a] σ₁ Φ Ψ
theorem e_callDM1 {x : Str} {np pos : Pos} {e : Expr} {p : Addr} {oc : Value} {od : Option Addr} {osl : Array (Option Value)} {fd : FuncData} {Φ : AV → St → Prop} (hf : FmOk f env n) (hx : env.kindOf x = some .globalImplicit)
    (hn : ∀ w, nsIn (KK w) mainGlobals x = some (some (.ref p))) (hk : ∀ w, (KK w).lookup p = some ⟨oc, od, .func fd, osl⟩)
    (h : EvM m f e env σ (KNM1 m f Ψ (fun vs => call (.ref p) vs) Φ) Ψ) (hd : (x == ("__debug__" : Str)) = false := by kernel_rfl)
    (he : starEach [e] env = (false, eval e env) :: starEach [] env := by rfl) (hplain : (backTo pos (starEach [] env)).any (·.1) = false := by rfl)
    (hc : eval (.Call (.Name x np) [e] [] pos) env = (do callWith pos (← eval (.Name x np) env) [] (backTo pos (starEach [e] env)) (backToKw pos (keywordEach [] env))) := by rfl) :
    EvM m f (.Call (.Name x np) [e] [] pos) env σ Φ Ψ := fun ρ s r => by
  rw [hc]
  refine wpM_bindA (wpAny_mono (e_glob (Φ := fun a σ' => a = .val (.ref p) ∧ σ' = σ) (Ψ := Ψ) (p := np) hf hx hn vr_val ⟨rfl, rfl⟩ hd ρ s r) (fun v s₁ qq1 => qq1.elim fun ρ₁ a σ₁ p1 r1 v1 qq2 => qq2.elim fun e1 e2 => ?_) fun _ _ q => q)
  subst e1 e2
  have q : v = .ref p := v1
  subst q
  refine callWith_functionM (fd := fd) (o := ⟨oc, od, .func fd, osl⟩) rfl ?_ he hplain
  rw [he]
  refine spliced1M (wpM_mono (h ρ₁ _ r1) (fun u s₂ qq3 => qq3.elim fun ρ₂ a σ₂ p2 r2 v2 h2 => ⟨?_, wpM_mono (h2 ρ₂ [u] (.cons v2 .nil) _ r2) (fun _ _ q => q.mono (p1.trans p2)) fun _ _ q => q⟩) fun _ _ q => q)
  obtain ⟨mg, mb, G⟩ := hf.g
  exact (G.kin.keeps (r2.stays hf)) _ _ (hk _)
end

/- ## ipv6's inet_aton, called -/
theorem pairsTo_len {b : List UInt8} : ∀ {i : Nat} {ys : List UInt8}, pairsTo b i = some ys → ys.length = i
  | 0, ys, h => by
    have e : [] = ys := by simpa [pairsTo] using h
    rw [← e]; rfl
  | i + 1, ys, h => by
    rw [pairsTo] at h
    cases q : pairsTo b i with
    | none => rw [q] at h; cases h
    | some zs =>
      rw [q] at h
      cases q2 : pairAt b i with
      | none => rw [q2] at h; cases h
      | some z =>
        rw [q2] at h
        obtain rfl : zs ++ [z] = ys := Option.some.inj h
        have := pairsTo_len q
        simp [this]
theorem aton6_len {b x : List UInt8} {ig : Bool} (h : aton6F b ig = some x) : x.length = 16 := by
  unfold aton6F at h
  cases h1 : scopeF b ig with
  | none => rw [h1] at h; cases h
  | some b1 =>
    rw [h1, Option.bind_some] at h
    cases h2 : edgeF b1 with
    | none => rw [h2] at h; cases h
    | some b2 =>
      rw [h2, Option.bind_some] at h
      cases h3 : v4F b2 with
      | none => rw [h3] at h; cases h
      | some b3 =>
        rw [h3, Option.bind_some] at h
        cases h4 : chunksOk (trimF b3) with
        | none => rw [h4] at h; cases h
        | some cs =>
          rw [h4, Option.bind_some] at h
          exact pairsTo_len h
theorem TxtAV.flat {l : List Nat} {a : AV} (h : TxtAV l a) : a.Flat := by rcases h with rfl | rfl <;> trivial
noncomputable abbrev Aton (l : List Nat) (ig : Bool) : RV → Prop := fun r => ∃ x, aton6F (enc l) ig = some x ∧ r = .flat (.bytes x)
noncomputable abbrev AtonE (l : List Nat) (ig : Bool) : Value → Prop := fun c => aton6F (enc l) ig = none ∧ c = .ref 37
theorem lk2 {a b : AV} {x y : Str} (h : (x == y) = false) : (⟨([x, y].zip [a, b]).reverse, []⟩ : St).loc.lookup x = some a ∧ (⟨([x, y].zip [a, b]).reverse, []⟩ : St).loc.lookup y = some b := by
  constructor
  · show List.lookup x [(y, b), (x, a)] = _
    rw [List.lookup_cons, h]
    show List.lookup x [(x, a)] = _
    rw [List.lookup_cons]; simp
  · show List.lookup y [(y, b), (x, a)] = _
    rw [List.lookup_cons]; simp
theorem q71a {n : Nat} {l : List Nat} {a : AV} (hl : ∀ c ∈ l, Sgn c) (hnl : 10 ∉ l) (hsz : l.length ≤ 250) (ha : TxtAV l a) : FnM Gm (n + 2) 71 [a] (Aton l false) (AtonE l false) := by
  refine fnM_of (names := ["text", "ignore_scope"]) (full := [a, .bool false]) def71 ?_ (by kernel_rfl) fun f hf hfe => ?_
  · intro w s vs hv X
    obtain ⟨v, rfl, h⟩ := vrs1 hv
    exact ⟨_, kp_binds X (peek71a w v), rfl, .cons h (.cons (vr_bool (ρ := [])) .nil)⟩
  · obtain ⟨h1, h2⟩ := lk2 (a := a) (b := .bool false) (x := ("text" : Str)) (y := ("ignore_scope" : Str)) (by kernel_rfl)
    exact b71 hf hfe hl hnl hsz ha h1 h2
theorem q71b {n : Nat} {l : List Nat} {a : AV} {ig : Bool} (hl : ∀ c ∈ l, Sgn c) (hnl : 10 ∉ l) (hsz : l.length ≤ 250) (ha : TxtAV l a) : FnM Gm (n + 2) 71 [a, .bool ig] (Aton l ig) (AtonE l ig) := by
  refine fnM_of (names := ["text", "ignore_scope"]) (full := [a, .bool ig]) def71 (bind2 peek71b) (by kernel_rfl) fun f hf hfe => ?_
  obtain ⟨h1, h2⟩ := lk2 (a := a) (b := .bool ig) (x := ("text" : Str)) (y := ("ignore_scope" : Str)) (by kernel_rfl)
  exact b71 hf hfe hl hnl hsz ha h1 h2
end

/- # W122 -/
section
open PySem PySem.Calls PyProof.Rows PySem.W


noncomputable abbrev bmX : List Value := [.type "Exception", .type "BaseException", .type "object"]
theorem q78 {n : Nat} {l : List Nat} {a : AV} (hl : ∀ c ∈ l, Sgn c) (hnl : 10 ∉ l) (hsz : l.length ≤ 250) (ha : TxtAV l a) :
    FnM Gm (n + 3) 78 [a] (fun r => ∃ x, aton6F (enc l) false = some x ∧ r = .flat (.str (ntoaF x))) (AtonE l false) := by
  refine fnM_of (names := ["text"]) (full := [a]) def78 (bind1 peek78) (by kernel_rfl) fun f hf hfe => ?_
  have k0 : (⟨([("text" : Str)].zip [a]).reverse, []⟩ : St).loc.lookup ("text" : Str) = some a := by
    show List.lookup _ [(_, _)] = _
    rw [List.lookup_cons]; simp
  generalize (⟨([("text" : Str)].zip [a]).reverse, []⟩ : St) = σ at k0
  refine xM_cons ?_
  refine x_returnM ?_
  refine e_callDM1 hf (by kernel_rfl) (by intro w; kernel_rfl) def56.look ?_
  refine e_callDM hf (by kernel_rfl) (by intro w; kernel_rfl) def71.look ?_
  refine a_cons ?_
  refine e_loc hf (by kernel_rfl) (by walk_at "lk") ?_
  refine a_nil ?_
  refine o_callM hf (q71a (n := n) hl hnl hsz ha) (Nat.le_refl _) ⟨ha.flat, trivial⟩ ?_ (fun _ q => q)
  rintro r ⟨x, hx, rfl⟩
  have hx16 := aton6_len hx
  show OpNM _ _ _ _ _ _ _ _
  refine o_callM hf (FnM.of (q56 (n := n) (show x.length ≤ 1000 by omega))) (Nat.le_refl _) ⟨trivial, trivial⟩ ?_ (fun c q => absurd hx16 q.1)
  rintro r ⟨_, rfl⟩
  exact ⟨x, hx, rfl⟩
noncomputable def takenF (l : List Nat) (ig : Bool) : AV := match aton6F (enc l) ig with
  | none => .str refusedS
  | some x => .bytes x
noncomputable def canonF (l : List Nat) : AV := match aton6F (enc l) false with
  | none => .str refusedS
  | some x => .str (ntoaF x)
theorem takenF_some {l : List Nat} {ig : Bool} {x : List UInt8} (h : aton6F (enc l) ig = some x) : takenF l ig = .bytes x := by unfold takenF; rw [h]
theorem takenF_none {l : List Nat} {ig : Bool} (h : aton6F (enc l) ig = none) : takenF l ig = .str refusedS := by unfold takenF; rw [h]
theorem canonF_some {l : List Nat} {x : List UInt8} (h : aton6F (enc l) false = some x) : canonF l = .str (ntoaF x) := by unfold canonF; rw [h]
theorem canonF_none {l : List Nat} (h : aton6F (enc l) false = none) : canonF l = .str refusedS := by unfold canonF; rw [h]
theorem q129 {n : Nat} {l : List Nat} {a : AV} (hl : ∀ c ∈ l, Sgn c) (hnl : 10 ∉ l) (hsz : l.length ≤ 250) (ha : TxtAV l a) :
    FnC Gm (n + 4) 129 [a] (fun r => r = canonF l) := by
  refine fnC_of (names := ["text"]) (full := [a]) def129 (bind1 peek129) (by kernel_rfl) fun f hf hfe ρ s r => ?_
  have k0 : (⟨([("text" : Str)].zip [a]).reverse, []⟩ : St).loc.lookup ("text" : Str) = some a := by
    show List.lookup _ [(_, _)] = _
    rw [List.lookup_cons]; simp
  generalize (⟨([("text" : Str)].zip [a]).reverse, []⟩ : St) = σ at r k0
  refine xC_seq (ρ := ρ) (GG := aton6F (enc l) false = none) (a := .str refusedS) hf (xC_tryO (a := .str refusedS) (C := 37) (bmB := bmX) (newId := "Exception.__new__") hf (by rw [hfe]) ?_ (by kernel_rfl) (by intro w; kernel_rfl) (by kernel_rfl)
      (by intro w; kernel_rfl) (by decide +kernel) (retC_str (by kernel_rfl)) ρ s r) (fun h => (canonF_none h).symm)
  refine xM_cons ?_
  refine x_returnM ?_
  refine e_callDM hf (by kernel_rfl) (by intro w; kernel_rfl) def78.look ?_
  refine a_cons ?_
  refine e_loc hf (by kernel_rfl) (by walk_at "lk") ?_
  refine a_nil ?_
  refine o_callM hf (q78 (n := n) hl hnl hsz ha) (Nat.le_refl _) ⟨ha.flat, trivial⟩ ?_ (fun _ q => q)
  rintro r ⟨x, hx, rfl⟩
  exact ⟨_, rfl, trivial, (canonF_some hx).symm⟩
theorem q122 {n : Nat} {l : List Nat} {a : AV} {ig : Bool} (hl : ∀ c ∈ l, Sgn c) (hnl : 10 ∉ l) (hsz : l.length ≤ 250) (ha : TxtAV l a) :
    FnC Gm (n + 3) 122 [a, .bool ig] (fun r => r = takenF l ig) := by
  refine fnC_of (names := ["text", "with_scope"]) (full := [a, .bool ig]) def122 (bind2 peek122) (by kernel_rfl) fun f hf hfe ρ s r => ?_
  obtain ⟨k0, k1⟩ := lk2 (a := a) (b := .bool ig) (x := ("text" : Str)) (y := ("with_scope" : Str)) (by kernel_rfl)
  generalize (⟨([("text" : Str), "with_scope"].zip [a, .bool ig]).reverse, []⟩ : St) = σ at r k0 k1
  refine xC_seq (ρ := ρ) (GG := aton6F (enc l) ig = none) (a := .str refusedS) hf (xC_tryO (a := .str refusedS) (C := 37) (bmB := bmX) (newId := "Exception.__new__") hf (by rw [hfe]) ?_ (by kernel_rfl) (by intro w; kernel_rfl) (by kernel_rfl)
      (by intro w; kernel_rfl) (by decide +kernel) (retC_str (by kernel_rfl)) ρ s r) (fun h => (takenF_none h).symm)
  refine xM_cons ?_
  refine x_assignM hf (by kernel_rfl) ?_ (by rfl) (by kernel_rfl)
  refine e_ifM ?_
  refine t_value ?_
  refine e_loc hf (by kernel_rfl) (by walk_at "lk") ?_
  refine o_truthy_bool ?_
  have fin : ∀ x, aton6F (enc l) ig = some x → EsM Gm f [] (envAt 122 f.L) (σ.set ("told" : Str) (.bytes x)) (fun fl σ' => match fl with | .next => EsM Gm f ((bodyAt 122).drop 1) (envAt 122 f.L) σ' (RetF fun r => r = takenF l ig) (fun _ => False) | fl => RetF (fun r => r = takenF l ig) fl σ') (fun c => aton6F (enc l) ig = none ∧ c = .ref 37) := by
    intro x hx
    refine xM_nil ?_
    refine xM_consA ?_
    refine x_return ?_
    refine e_if ?_
    refine t_value ?_
    refine e_callB (id := "isinstance") hf (by kernel_rfl) (by intro w; kernel_rfl) (by kernel_rfl) ?_
    refine a_cons ?_
    refine e_loc hf (by kernel_rfl) (by walk_at "lk") ?_
    refine a_cons ?_
    refine e_bi (v := .type "bytes") hf (by kernel_rfl) (by intro w; kernel_rfl) (by kernel_rfl) ?_
    refine a_nil ?_
    refine o_isbytes_bytes ?_
    refine o_truthy_bool ?_
    show Ev _ _ _ _ _ _
    refine e_loc hf (by kernel_rfl) (by walk_at "lk") ?_
    exact ⟨_, rfl, trivial, (takenF_some hx).symm⟩
  cases ig with
  | true =>
    show EvM _ _ _ _ _ _ _
    refine e_callDM hf (by kernel_rfl) (by intro w; kernel_rfl) def71.look ?_
    refine a_cons ?_
    refine e_loc hf (by kernel_rfl) (by walk_at "lk") ?_
    refine a_cons ?_
    refine e_bool ?_
    refine a_nil ?_
    refine o_callM hf (q71b (n := n) hl hnl hsz ha) (by omega) ⟨ha.flat, trivial, trivial⟩ ?_ (fun _ q => q)
    rintro r ⟨x, hx, rfl⟩
    exact fin x hx
  | false =>
    show EvM _ _ _ _ _ _ _
    refine e_callDM hf (by kernel_rfl) (by intro w; kernel_rfl) def71.look ?_
    refine a_cons ?_
    refine e_loc hf (by kernel_rfl) (by walk_at "lk") ?_
    refine a_nil ?_
    refine o_callM hf (q71a (n := n) hl hnl hsz ha) (by omega) ⟨ha.flat, trivial⟩ ?_ (fun _ q => q)
    rintro r ⟨x, hx, rfl⟩
    exact fin x hx
end

/- # F40 -/
section
open PySem PySem.Calls PyProof.Rows PySem.W

section
variable {m : Mod} {α β γ δ : Type} {f : Fm} {env : Env} {n : Nat} {Ψ : Value → Prop} {ρ : List Addr} {σ : St} {s : Shared}
/- ## lists that were there before -/
noncomputable def OldL (f : Fm) (a : Addr) (xs : List AV) : Prop := ∃ o vs n, f.he a = some o ∧ o.cls = .type "list" ∧ o.data = .seq vs n ∧ VRs [] vs.toList xs
theorem OldL.is {a : Addr} {xs : List AV} (h : OldL f a xs) (r : Rep f ρ σ s) : ∃ vs, s.heap.IsList a vs ∧ VRs [] vs.toList xs ∧ vs.size = xs.length := by
  obtain ⟨o, vs, n, h1, hc, hd, h2⟩ := h
  refine ⟨vs, ⟨_, r.keep _ _ h1, hc, n, hd⟩, h2, ?_⟩
  have := paired_length h2
  simpa using this
theorem o_truthy_old {a : Addr} {xs : List AV} {Φ : Bool → St → Prop} (h0 : OldL f a xs) (hsz : xs.length ≤ 16777216) (h : Φ (xs.length != 0) σ) : Op1 f truthy BR (.val (.ref a)) σ Φ Ψ := by
  rintro ρ _ rfl s r
  obtain ⟨vs, hl, hw, he⟩ := h0.is r
  refine wpAny_truthy_list hl (by (first | lia | omega)) ?_
  have : (!vs.isEmpty) = (xs.length != 0) := by
    rw [← he]
    cases h : vs.size with
    | zero => simp [Array.isEmpty, h]
    | succ k => simp [Array.isEmpty, h]
  rw [this]
  exact pv r.tk rfl h
theorem o_len_old {a : Addr} {xs : List AV} {Φ : AV → St → Prop} (h0 : OldL f a xs) (hsz : xs.length ≤ 16777216) (h : Φ (.int xs.length) σ) : OpN f (fun vs => call (.builtin "len") vs) VR [.val (.ref a)] σ Φ Ψ := by
  intro ρ vs hv s r
  obtain ⟨v, rfl, hv'⟩ := vrs1 hv
  obtain rfl : v = .ref a := hv'
  obtain ⟨ws, hl, hw, e⟩ := h0.is r
  refine call_len_list hl (by (first | lia | omega)) ?_
  rw [e]
  exact pv r.tk vr_int h
theorem i_old {a : Addr} {xs : List AV} {i : Int} {y : AV} {Φ : AV → St → Prop} (hj : OldL f a xs) (h0 : 0 ≤ i) (hfit : i < 2 ^ 63) (hy : xs[i.toNat]? = some y) (h : Φ y σ) : IdxOp f (.val (.ref a)) (.int i) σ Φ Ψ := by
  rintro ρ v _ hv ⟨u, rfl⟩ s r
  obtain rfl : v = .ref a := hv
  obtain ⟨vs, hl, hw, e⟩ := hj.is r
  obtain ⟨x, hx, hxy⟩ := paired_get' hw hy
  exact ⟨"list", _, list_getitem_lookup, hl.typeIs, wpAny_getItem_list hl h0 hfit (by simpa using hx) (pv r (hxy.mono List.nil_prefix) h)⟩
theorem s_old {a : Addr} {xs : List AV} {lo hi : Option Int} {Φ : AV → St → Prop} (hj : OldL f a xs) (hsz : xs.length ≤ 16777216) (h : Φ (.ref σ.mem.length) (σ.new (.list (cut xs lo hi)))) : SlcOp f (.val (.ref a)) lo hi σ Φ Ψ := by
  rintro ρ v vl vu hv hl hu s r
  obtain rfl : v = .ref a := hv
  obtain ⟨vs, hlist, hvs, e⟩ := hj.is r
  refine ⟨"list", _, list_getitem_lookup, hlist.typeIs, fun sl hsl => ?_⟩
  refine wpAny_getItem_list_slice hlist hsl hl.isPart hu.isPart .none (by simp) ?_ (by rw [sizeLine_eq]; (first | lia | omega))
  exact pv_new (tk := s.toks) (o := .list (cut xs lo hi)) r ⟨slicePick vs lo hi none, _, rfl, vrs_cut (VRs.mono List.nil_prefix hvs) lo hi⟩ h

/- ## octets and a text are never equal -/
theorem sub_str_bytes : isSubtype (.type "str") (.type "bytes") = pure false := by rw [isSubtype_type]; kernel_rfl
theorem bytes_eq_str (b : Array UInt8) (t : Tok) (x : Str) (u : Tok) : Gives (Builtin.«bytes.__eq__» ⟨[.bytes b t, .str x u], []⟩) (.val (Value.notImplemented)) :=
  .of_wp fun M A E s Q h => by obtain ⟨hp, g, d, tk, os⟩ := s; wp_walk; refine wpAny_of_eq sub_str_bytes ?_; wp_walk; exact ⟨_, rfl, h⟩
theorem str_eq_bytes (x : Str) (u : Tok) (b : Array UInt8) (t : Tok) : Gives (Builtin.«str.__eq__» ⟨[.str x u, .bytes b t], []⟩) (.val (Value.notImplemented)) :=
  .of_wp fun M A E s Q h => by obtain ⟨hp, g, d, tk, os⟩ := s; wp_walk; exact ⟨_, rfl, h⟩
theorem o_eq_bytes_str {b : List UInt8} {x : List Nat} {Φ : AV → St → Prop} (h : Φ (.bool false) σ) : Op2 f (compareOp .Eq) VR (.bytes b) (.str x) σ Φ Ψ := by
  rintro ρ _ _ ⟨t, rfl⟩ ⟨u, rfl⟩ s r
  show wpAny _ f.A (richCompare .Eq _ _) _ _ s
  exact EqNone.wpAny_richCompare_eq_decline (k := false) (fun s' => typeIs_bytes s' b.toArray t) (fun s' => typeIs_str s' _ u) (by decide) sub_str_bytes FB.slot_bytes_eq F.slot_str_eq_refl rfl
    (call_gives FB.slot_bytes_eq (typeIs_bytes s b.toArray t) FB.entry_bytes_eq (FB.args_bytes_eq_2 _ _) (bytes_eq_str _ t _ u)
      ⟨rfl, call_gives F.slot_str_eq_refl (typeIs_str s _ u) F.entry_str_eq (F.args_str_eq_2 _ _) (str_eq_bytes _ u _ t) ⟨rfl, pv r vr_bool h⟩⟩)
end
end

/- # F41 -/
section
open PySem PySem.Calls PyProof.Rows PySem.W

/- ## the pieces -/
noncomputable section
noncomputable def piecesO : Obj := match (Hd.hd.heap_39 P0).lookup 79 with
  | some o => o
  | none => default
theorem pieces_look : ∀ w, (KK w).lookup 79 = some piecesO := by intro w; kernel_rfl
theorem pieces_name : ∀ w, nsIn (KK w) mainGlobals "_law_pieces" = some (some (.ref 79)) := by intro w; kernel_rfl
end
noncomputable def piecesL : List (List Nat) := [[58], [58, 58], [48], [49], [102, 102, 102, 102], [70, 102, 70, 102], [48, 48, 97, 98], [49, 50, 51, 52, 53], [103], [49, 46, 50, 46, 51, 46, 52], [48, 49, 46, 50, 46, 51, 46, 52], [49, 46, 50, 46, 51], [49, 46, 50, 46, 51, 46, 50, 53, 54], [58, 50], [58, 48, 58, 48], [58, 58, 51], [97, 58, 98, 58, 99], [49, 58, 50, 58, 51, 58, 52, 58, 53, 58, 54, 58, 55], [37, 49], [32], [45, 49], [233], [58, 58, 102, 102, 102, 102, 58], [58, 48, 58, 48, 58, 48, 58, 48, 58, 48, 58, 48, 58, 48, 58, 48], [53, 58, 54, 58], [46], [48, 48, 48, 48], [58, 50, 53, 53, 46, 50, 53, 52, 46, 50, 53, 51, 46, 57]]
noncomputable def absS : Value → Option (List Nat)
  | .str x _ => some x.cps.toList
  | _ => none
noncomputable def objStrs (o : Obj) : Option (List (List Nat)) := match o with
  | ⟨.type T, none, .seq vs _, sl⟩ => if (T == "list" && sl.isEmpty) = true then vs.toList.mapM absS else none
  | _ => none
theorem absS_all {ρ : List Addr} : ∀ {vs : List Value} {ps : List (List Nat)}, vs.mapM absS = some ps → VRs ρ vs (ps.map .str)
  | [], ps, h => by
    have : some ([] : List (List Nat)) = some ps := by simpa using h
    obtain rfl := Option.some.inj this
    exact .nil
  | v :: vs, ps, h => by
    rw [List.mapM_cons] at h
    cases q : absS v with
    | none => rw [q] at h; cases h
    | some x =>
      rw [q] at h
      cases q2 : vs.mapM absS with
      | none => rw [q2] at h; cases h
      | some xs =>
        rw [q2] at h
        have : some (x :: xs) = some ps := h
        obtain rfl := Option.some.inj this
        refine .cons ?_ (absS_all q2)
        unfold absS at q
        split at q
        · rename_i x0 tk
          obtain rfl := Option.some.inj q
          exact ⟨tk, by simp⟩
        · (first | exact nn q | exact sn q | exact tf q | exact ft q | cases q)
theorem objStrs_is {o : Obj} {ps : List (List Nat)} (h : objStrs o = some ps) : ∃ vs n, o = { cls := .type "list", data := .seq vs n } ∧ VRs [] vs.toList (ps.map .str) := by
  unfold objStrs at h
  split at h
  · rename_i T vs n sl
    split at h
    · rename_i c
      rw [Bool.and_eq_true] at c
      obtain ⟨c1, c2⟩ := c
      obtain rfl : T = "list" := by simpa using c1
      have : sl = #[] := by simpa using c2
      subst this
      exact ⟨vs, n, rfl, absS_all h⟩
    · (first | exact nn h | exact sn h | exact tf h | exact ft h | cases h)
  · (first | exact nn h | exact sn h | exact tf h | exact ft h | cases h)
theorem pieces_strs : objStrs piecesO = some piecesL := by kernel_rfl
theorem pieces_len : piecesL.length = 28 := by decide
theorem pieces_ok : ∀ p ∈ piecesL, p.length ≤ 16 ∧ ∀ c ∈ p, Sgn c ∧ c ≠ 10 := by unfold Sgn; decide
theorem old_pieces {f : Fm} {env : Env} {n : Nat} (hf : FmOk f env n) : OldL f 79 (piecesL.map .str) := by
  obtain ⟨mg, mb, G⟩ := hf.g
  obtain ⟨vs, k, e, h⟩ := objStrs_is pieces_strs
  refine ⟨piecesO, vs, k, ?_, by rw [e], by rw [e], h⟩
  exact hf.stays _ _ (G.kin _ _ (pieces_look _))

/- ## the law's own call -/
theorem law_call {m : Mod} {n : Nat} {w : World} {A : Around} {s : Shared} {a : Addr} {us : Array Value} {xs : List Int} (hc : Cal w A s.heap [] s (n + 1))
    (ha : s.heap.IsList a us) (hxs : VRs [] us.toList (xs.map .int))
    (h : ∀ f : Fm, FmOk f (envAt 141 f.L) n → f.fenv = envAt 141 f.L → f.outer = [] → f.FL = f.L → OldL f a (xs.map .int) → ∀ σ : St, σ.loc.lookup ("script" : Str) = some (.val (.ref a)) →
      EsM m f (bodyAt 141) (envAt 141 f.L) σ (RetOk (fun r => r = .flat (.bool true))) (fun _ => False)) :
    wpM m (model pw w) A (call (.ref 141) [.ref a]) (fun v s' => v = .bool true ∧ (∀ b o, s.heap.get? b = some o → s'.heap.get? b = some o) ∧ s'.gens = s.gens ∧ s'.os = s.os) (fun _ _ => False) s := by
  have hv : VRs [] [Value.ref a] [AV.val (.ref a)] := .cons (vr_val (ρ := [])) .nil
  obtain ⟨mg, mb, G⟩ := hc.g
  obtain ⟨loose, mean, T⟩ := G.top
  have hin : (KK w).In s.heap := G.kin.keeps hc.stays
  obtain ⟨binds, hb, hbn, hbv⟩ := bind1 peek141 w s _ hv hin
  refine wpM_call (codeM_call_def (fd := fdAt 141) (body := bodyAt 141) (binds := binds) ?_ (hin _ _ (def141.look w)) rfl (T.nolimit.keeps hc.stays) (codeRec_of hin (def141.code w)) def141.body hb ?_ ?_ (fun h₁ hns hkp => ?_) def141.co def141.gen def141.kind)
  · have := hc.depth
    show A.depth < 1000
    (first | lia | omega)
  · intro x hx
    exact of_decide_eq_true (List.all_eq_true.mp def141.cell x hx)
  · intro x hx
    have hloc : ((["script"] : List Str).all fun x => decide ((fdAt 141).scope.names.lookup x = some .local)) = true := by kernel_rfl
    refine of_decide_eq_true (List.all_eq_true.mp hloc x.1 ?_)
    rw [← hbn]
    exact List.mem_map_of_mem hx
  · let f : Fm := { w := w, A := A.deeper (callEnv (fdAt 141) s.heap.objs.size 141), L := s.heap.objs.size, he := s.heap.get?, H0 := s.heap, outer := [], fenv := callEnv (fdAt 141) s.heap.objs.size 141, FL := s.heap.objs.size, sg := s.gens, sd := s.drawn, so := s.os }
    have hno : s.heap.get? s.heap.objs.size = none := by
      cases q : s.heap.get? s.heap.objs.size with
      | none => rfl
      | some o => exact absurd (Heap.lt_size q) (Nat.lt_irrefl _)
    have hf : FmOk f (callEnv (fdAt 141) f.L 141) n := by
      refine ⟨⟨mg, mb, G⟩, Around.frames_deeper hc.frames, hc.handled, ?_, ?_, hc.stays, ?_, rfl, ?_, .inl rfl, hc.stays.fresh, rfl, def141.glob, def141.bui, def141.kind, rfl, fun _ => hno, hc.guards, def141.gen, def141.co, def141.bui, def141.glob⟩
      · have := hc.depth
        show A.depth + 1 + n ≤ 900
        (first | lia | omega)
      · have := hc.units
        show A.units + 3 + 8 * n ≤ 9000
        (first | lia | omega)
      · intro h' hh
        exact hc.fun_.of_keeps fun b o hb hd => let ⟨sl, e⟩ := hh b o hb hd; ⟨_, e, rfl⟩
      · show (fdAt 141).scope.kind ≠ .module
        rw [def141.kind]; decide
    have hr : Rep f [] ⟨((["script"] : List Str).zip [AV.val (.ref a)]).reverse, []⟩ { s with heap := h₁, toks := s.toks + binds.length } :=
      ⟨fun b o e => hkp b o e, ⟨_, hns, loc_of_binds hbv hbn⟩, .nil, .nil, rfl, rfl, rfl⟩
    have k0 : (⟨((["script"] : List Str).zip [AV.val (.ref a)]).reverse, []⟩ : St).loc.lookup ("script" : Str) = some (.val (.ref a)) := by
      show List.lookup _ [(_, _)] = _
      rw [List.lookup_cons]; simp
    refine wpM_mono (h f hf rfl rfl rfl (let ⟨o, h1, h2, n, h3⟩ := ha; ⟨o, us, n, h1, h2, h3, hxs⟩) _ k0 [] _ hr) (fun fl s' qq1 => qq1.elim fun ρ' b σ' _ r' hb' hΦ' => ?_) fun e s' qq2 => qq2.elim fun c hx hΨ => hΨ.elim
    have keep : ∀ b o, s.heap.get? b = some o → s'.heap.get? b = some o := r'.keep
    cases b with
    | next => cases hΦ'
    | brk => cases hΦ'
    | cont => cases hΦ'
    | ret a =>
      obtain ⟨v, rfl, hva⟩ := hb'
      cases a with
      | ref i => obtain ⟨o, ho, hfl, hq⟩ := hΦ'; cases hq
      | bool b =>
        have : RV.flat (.bool b) = RV.flat (.bool true) := hΦ'
        injection this with this
        injection this with this
        subst this
        exact ⟨hva, keep, r'.gens, r'.os⟩
      | _ => (have : RV.flat _ = RV.flat (.bool true) := hΦ'); injection this with this; (first | exact nn this | exact sn this | exact tf this | exact ft this | cases this)
end

/- # W140 -/
section
open PySem PySem.Calls PyProof.Rows PySem.W


noncomputable def octI (k : Int) : Int := if (k.fmod 3 == 0) = true then (k.fdiv 3).fmod 256 else 255 * (k.fmod 3 - 1)
theorem octI_range (k : Int) : 0 ≤ octI k ∧ octI k < 256 := by
  unfold octI
  have h1 := Int.fmod_nonneg_of_pos k (show (0 : Int) < 3 by decide)
  have h2 := Int.fmod_lt_of_pos k (show (0 : Int) < 3 by decide)
  have h3 := Int.fmod_nonneg_of_pos (k.fdiv 3) (show (0 : Int) < 256 by decide)
  have h4 := Int.fmod_lt_of_pos (k.fdiv 3) (show (0 : Int) < 256 by decide)
  split
  · exact ⟨h3, h4⟩
  · rename_i c
    have : k.fmod 3 ≠ 0 := by simpa using c
    (first | lia | omega)
noncomputable def beginF : List Int → Int
  | [] => 16
  | x :: _ => x
noncomputable def numsF (xs : List Int) : List Int := (xs.drop 1 ++ List.replicate 16 0).take 16
theorem numsF_len (xs : List Int) : (numsF xs).length = 16 := by unfold numsF; simp
noncomputable def octsF (xs : List Int) : List UInt8 := ((numsF xs).map octI).map fun k => k.toNat.toUInt8
theorem octsF_len (xs : List Int) : (octsF xs).length = 16 := by unfold octsF; simp [numsF_len]
noncomputable def pieceAt (k : Int) : List Nat := piecesL.getD (k.fmod 28).toNat []
theorem pieceAt_get (k : Int) : (piecesL.map AV.str)[(k.fmod 28).toNat]? = some (AV.str (pieceAt k)) ∧ 0 ≤ k.fmod 28 ∧ k.fmod 28 < 28 ∧ pieceAt k ∈ piecesL := by
  have h1 := Int.fmod_nonneg_of_pos k (show (0 : Int) < 28 by decide)
  have h2 := Int.fmod_lt_of_pos k (show (0 : Int) < 28 by decide)
  have h3 : (k.fmod 28).toNat < piecesL.length := by rw [pieces_len]; (first | lia | omega)
  refine ⟨?_, h1, h2, ?_⟩
  · unfold pieceAt; rw [List.getElem?_map]; simp [List.getD, h3]
  · unfold pieceAt
    have : piecesL.getD (k.fmod 28).toNat [] = piecesL[(k.fmod 28).toNat] := by simp [List.getD, h3]
    rw [this]; exact List.getElem_mem h3
noncomputable def text0 (xs : List Int) : List Nat := joinL [] ((cut xs (some 1) (some 11)).map fun k => pieceAt (k.fdiv 9))
noncomputable def placeF (xs : List Int) (wr : List Nat) : Int := (beginF xs).fmod ((wr.length : Int) + 1)
noncomputable def tailF (xs : List Int) : List Nat := if ((beginF xs).fmod 2 == 0) = true then pieceAt ((beginF xs).fdiv 40) else []
noncomputable def textsF (xs : List Int) (wr : List Nat) : List (List Nat) :=
  [text0 xs, cut wr none (some (placeF xs wr)) ++ pieceAt ((beginF xs).fdiv 40) ++ cut wr (some (placeF xs wr)) none, wr ++ [37] ++ tailF xs, upperL wr]
noncomputable def Fine (l : List Nat) : Prop := l.length ≤ 250 ∧ ∀ c ∈ l, Sgn c ∧ c ≠ 10
structure Laws : Prop where
  way : ∀ o : List UInt8, o.length = 16 → ntoaF o = wayF o
  back : ∀ o : List UInt8, o.length = 16 → aton6F (enc (ntoaF o)) false = some o
  due : ∀ l : List Nat, Fine l → aton6F (enc l) false = octetsF l
  scope : ∀ l : List Nat, Fine l → aton6F (enc l) true = if (spl 37 l).length < 3 then octetsF ((spl 37 l).getD 0 []) else none
  written : ∀ o : List UInt8, o.length = 16 → (ntoaF o).length ≤ 100 ∧ ∀ c ∈ ntoaF o, Sgn c ∧ c ≠ 10
  upper : ∀ o : List UInt8, o.length = 16 → (upperL (ntoaF o)).length ≤ 100 ∧ ∀ c ∈ upperL (ntoaF o), Sgn c ∧ c ≠ 10
theorem glue_nil {α : Type} : ∀ ws : List (List α), glue [] ws = ws.flatten
  | [] => rfl
  | [w] => by simp [glue]
  | p :: q :: r => by
    have := glue_nil (q :: r)
    rw [glue, this]; simp
theorem cut_mem_of {α : Type} {xs : List α} {lo hi : Option Int} {x : α} (h : x ∈ cut xs lo hi) : x ∈ xs := by
  unfold cut at h
  exact List.mem_of_mem_drop (List.mem_of_mem_take h)
theorem sub1_11 (xs : List Int) : (cut xs (some 1) (some 11)).length ≤ 10 := by
  unfold cut
  rw [List.length_take]
  refine Nat.le_trans (Nat.min_le_left _ _) ?_
  have h : ∀ n : Nat, min 11 n - min 1 n ≤ 10 := fun n => match n with
    | 0 => Nat.zero_le _
    | k + 1 => by
      rw [Nat.min_eq_left (Nat.succ_le_succ (Nat.zero_le k))]
      exact Nat.sub_le_sub_right (Nat.min_le_left 11 _) 1
  rw [Option.elim_some, Option.elim_some, show (11 : Int) = ((11 : Nat) : Int) from rfl, show (1 : Int) = ((1 : Nat) : Int) from rfl, clip_nat, clip_nat]
  exact h _
theorem flat_fine {ws : List (List Nat)} {k : Nat} (h : ∀ w ∈ ws, w.length ≤ k) : ws.flatten.length ≤ ws.length * k := by
  induction ws with
  | nil => simp
  | cons w r ih =>
    have h1 := h w (by simp)
    have h2 := ih fun x hx => h x (by simp [hx])
    rw [List.flatten_cons, List.length_append, List.length_cons, Nat.add_mul]; (first | lia | omega)
theorem fine_of {xs : List Int} {wr p tl t0 up : List Nat} {pl : Int} (w1 : wr.length ≤ 100) (w2 : ∀ c ∈ wr, Sgn c ∧ c ≠ 10) (u1 : up.length ≤ 100) (u2 : ∀ c ∈ up, Sgn c ∧ c ≠ 10) (p1 : p.length ≤ 16) (p2 : ∀ c ∈ p, Sgn c ∧ c ≠ 10)
    (q1 : tl.length ≤ 16) (q2 : ∀ c ∈ tl, Sgn c ∧ c ≠ 10) (z : Fine t0) : ∀ l ∈ [t0, cut wr none (some pl) ++ p ++ cut wr (some pl) none, wr ++ [37] ++ tl, up], Fine l := by
  intro l hl
  simp only [List.mem_cons, List.not_mem_nil, or_false] at hl
  rcases hl with e | e | e | e
  · rw [e]; exact z
  · rw [e]
    refine ⟨?_, fun c hc => ?_⟩
    · have h1 := cut_len wr none (some pl)
      have h2 := cut_len wr (some pl) none
      simp only [List.length_append]; (first | lia | omega)
    · simp only [List.mem_append] at hc
      rcases hc with (hc | hc) | hc
      · exact w2 c (cut_mem_of hc)
      · exact p2 c hc
      · exact w2 c (cut_mem_of hc)
  · rw [e]
    refine ⟨?_, fun c hc => ?_⟩
    · simp only [List.length_append, List.length_cons, List.length_nil]; (first | lia | omega)
    · simp only [List.mem_append, List.mem_cons, List.not_mem_nil, or_false] at hc
      rcases hc with (hc | hc) | hc
      · exact w2 c hc
      · rw [hc]; exact ⟨.inl (by (first | lia | omega)), by (first | lia | omega)⟩
      · exact q2 c hc
  · rw [e]; exact ⟨by (first | lia | omega), u2⟩
theorem piece_fine (k : Int) : (pieceAt k).length ≤ 16 ∧ ∀ c ∈ pieceAt k, Sgn c ∧ c ≠ 10 := pieces_ok _ (pieceAt_get k).2.2.2
theorem text0_fine (xs : List Int) : Fine (text0 xs) := by
  unfold text0
  rw [joinL_glue, glue_nil]
  have hp : ∀ w ∈ (cut xs (some 1) (some 11)).map fun k => pieceAt (k.fdiv 9), w.length ≤ 16 ∧ ∀ c ∈ w, Sgn c ∧ c ≠ 10 := by
    intro w hw
    obtain ⟨k, _, e⟩ := List.mem_map.mp hw
    rw [← e]
    exact piece_fine _
  generalize hws : ((cut xs (some 1) (some 11)).map fun k => pieceAt (k.fdiv 9)) = ws at hp
  have h2 : ws.length ≤ 10 := by rw [← hws, List.length_map]; exact sub1_11 xs
  refine ⟨?_, fun c hc => ?_⟩
  · have := flat_fine (k := 16) fun w hw => (hp w hw).1
    (first | lia | omega)
  · obtain ⟨w, hw, hcw⟩ := List.mem_flatten.mp hc
    exact (hp w hw).2 c hcw
theorem tail_fine (xs : List Int) : (tailF xs).length ≤ 16 ∧ ∀ c ∈ tailF xs, Sgn c ∧ c ≠ 10 := by
  unfold tailF
  split
  · exact piece_fine _
  · exact ⟨by simp, fun c hc => by cases hc⟩
theorem texts_fine (P : Laws) {xs : List Int} : ∀ l ∈ textsF xs (ntoaF (octsF xs)), Fine l :=
  fine_of (xs := xs) (P.written _ (octsF_len xs)).1 (P.written _ (octsF_len xs)).2 (P.upper _ (octsF_len xs)).1 (P.upper _ (octsF_len xs)).2 (piece_fine _).1 (piece_fine _).2 (tail_fine xs).1 (tail_fine xs).2 (text0_fine xs)
/- ## values that are octets or a text -/
noncomputable def Told (a : AV) : Prop := (∃ s, a = .str s) ∨ (∃ b, a = .bytes b)
theorem o_ne_same {f : Fm} {σ : St} {Ψ : Value → Prop} {Φ : AV → St → Prop} {a b : AV} (ha : Told a) (e : a = b) (h : Φ (.bool false) σ) : Op2 f (compareOp .NotEq) VR a b σ Φ Ψ := by
  subst e
  rcases ha with ⟨s, rfl⟩ | ⟨b, rfl⟩
  · exact o_ne_str (by rw [show (s != s) = false by simp]; exact h)
  · exact o_ne_bytes (by rw [show (b != b) = false by simp]; exact h)
theorem dueF_told (l : List Nat) : Told (dueF l) := by
  unfold dueF
  cases octetsF l with
  | none => exact .inl ⟨_, rfl⟩
  | some x => exact .inr ⟨_, rfl⟩
theorem takenF_told (l : List Nat) (ig : Bool) : Told (takenF l ig) := by 
  unfold takenF
  cases aton6F (enc l) ig with
  | none => exact .inl ⟨_, rfl⟩
  | some x => exact .inr ⟨_, rfl⟩
theorem canonF_told (l : List Nat) : Told (canonF l) := by unfold canonF; cases aton6F (enc l) false <;> exact .inl ⟨_, rfl⟩
theorem Told.flat {a : AV} (h : Told a) : a.Flat := by rcases h with ⟨s, rfl⟩ | ⟨b, rfl⟩ <;> trivial
noncomputable def scopedF (l : List Nat) : AV := if (spl 37 l).length < 3 then dueF ((spl 37 l).getD 0 []) else .str refusedS
theorem scopedF_told (l : List Nat) : Told (scopedF l) := by unfold scopedF; split; exact dueF_told _; exact .inl ⟨_, rfl⟩
theorem taken_due (P : Laws) {l : List Nat} (h : Fine l) : takenF l false = dueF l := by unfold takenF dueF; rw [P.due l h]; try (cases octetsF l <;> rfl)
theorem taken_scoped (P : Laws) {l : List Nat} (h : Fine l) : takenF l true = scopedF l := by
  
  unfold takenF scopedF dueF
  rw [P.scope l h]
  by_cases q : (spl 37 l).length < 3
  · rw [if_pos q, if_pos q]; try (cases octetsF ((spl 37 l).getD 0 []) <;> rfl)
  · rw [if_neg q, if_neg q]
theorem look108 : ∀ w, (KK w).lookup 108 = some ⟨.type "function", none, .func (fdAt 108), #[]⟩ := fun w => by kernel_rfl
theorem e_some {f : Fm} {e : Expr} {env : Env} {σ : St} {Φ : AV → St → Prop} {Ψ : Value → Prop} (T : AV → Prop) (h : Ev f e env σ (fun a σ' => T a ∧ σ' = σ) Ψ) (k : ∀ a, T a → Φ a σ) : Ev f e env σ Φ Ψ :=
  h.mono (fun a σ' ⟨h1, h2⟩ => h2 ▸ k a h1) fun _ q => q
theorem e_is {f : Fm} {e : Expr} {env : Env} {σ : St} {Φ : AV → St → Prop} {Ψ : Value → Prop} (v : AV) (h : Ev f e env σ (fun a σ' => a = v ∧ σ' = σ) Ψ) (k : Φ v σ) : Ev f e env σ Φ Ψ :=
  e_some (fun a => a = v) h fun a h => h ▸ k
noncomputable def octOf : AV → AV
  | .int k => .int (octI k)
  | a => a
noncomputable def pcOf : AV → AV
  | .int k => .str (pieceAt (k.fdiv 9))
  | a => a
end

/- # W141 -/
section
open PySem PySem.Calls PyProof.Rows PySem.W


set_option maxHeartbeats 8000000 in
theorem b141 (P : Laws) {f : Fm} {n : Nat} {σ : St} {a : Addr} {xs : List Int} (hf : FmOk f (envAt 141 f.L) (n + 4)) (hfe : f.fenv = envAt 141 f.L) (ho : f.outer = []) (hFL : f.FL = f.L) (hO : OldL f a (xs.map .int)) (hsz : xs.length ≤ 1000)
    (h1 : σ.loc.lookup ("script" : Str) = some (.val (.ref a))) : EsM Gm f (bodyAt 141) (envAt 141 f.L) σ (RetOk (fun r => r = .flat (.bool true))) (fun _ => False) := by
  have hO' : (xs.map AV.int).length = xs.length := by simp
  have plen : ((piecesL.map AV.str).length : Int) = 28 := by simp [pieces_len]
  let Iz1 : St → Prop := fun σ' => σ'.loc.lookup ("script" : Str) = some (.val (.ref a)) ∧ σ'.loc.lookup ("begin" : Str) = some (.int (beginF xs))
  refine xM_cutA Iz1 ?_ ?_
  · refine x_assign hf (by kernel_rfl) ?_ (by rfl) (by kernel_rfl)
    refine e_if ?_
    refine t_value ?_
    refine e_loc hf (by kernel_rfl) (by walk_at "lk") ?_
    refine o_truthy_old hO (by (first | lia | omega)) ?_
    cases xs with
    | nil =>
      show Ev _ _ _ _ _ _
      refine e_int ?_
      exact ⟨by walk_at "lk", lk_same⟩
    | cons x r =>
      show Ev _ _ _ _ _ _
      refine e_index ?_
      refine e_loc hf (by kernel_rfl) (by walk_at "lk") ?_
      refine e_int ?_
      refine i_old (y := .int x) hO (by decide) (by decide) rfl ?_
      exact ⟨by walk_at "lk", lk_same⟩
  clear h1
  rintro σ1 ⟨k1, k2⟩
  let Iz2 : St → Prop := fun σ' => σ'.loc.lookup ("script" : Str) = some (.val (.ref a)) ∧ σ'.loc.lookup ("begin" : Str) = some (.int (beginF xs)) ∧ ∃ j, σ'.loc.lookup ("numbers" : Str) = some (.ref j) ∧ ListAt σ' j ((numsF xs).map .int)
  refine xM_cutA Iz2 ?_ ?_
  · refine x_assign hf (by kernel_rfl) ?_ (by rfl) (by kernel_rfl)
    refine e_slice ?_
    refine e_binop ?_
    refine e_slice ?_
    refine e_loc hf (by kernel_rfl) (by walk_at "lk") ?_
    refine p_some ?_
    refine e_int ?_
    refine p_none ?_
    refine s_old hO (by (first | lia | omega)) ?_
    refine e_binop ?_
    refine e_list ?_
    refine a_cons ?_
    refine e_int ?_
    refine a_nil ?_
    refine ⟨by simp, ?_⟩
    refine e_int ?_
    refine o_mul_list la_new (by decide) (by simp) ?_
    have e1 := cut_drop (xs.map AV.int) 1
    rw [show cut (xs.map AV.int) (some 1) none = (xs.map AV.int).drop 1 from e1]
    rw [show (List.replicate (16 : Int).toNat [AV.int 0]).flatten = (List.replicate 16 (0 : Int)).map AV.int from rep_zero 16]
    refine o_add_list (la_keep (la_keep la_new)) la_new (by simp; (first | lia | omega)) ?_
    refine p_none ?_
    refine p_some ?_
    refine e_int ?_
    refine s_list la_new (by simp; (first | lia | omega)) ?_
    have e2 : cut ((xs.map AV.int).drop 1 ++ (List.replicate 16 (0 : Int)).map AV.int) none (some 16) = (numsF xs).map AV.int := by
      rw [show (16 : Int) = ((16 : Nat) : Int) from rfl, cut_take, ← List.map_drop, ← List.map_append, ← List.map_take]; rfl
    rw [e2]
    exact ⟨by walk_at "lk", by walk_at "lk", _, lk_same, la_set la_new⟩
  clear k1 k2
  rintro σ1 hq1
  obtain ⟨k1, k2, j, hq2⟩ := hq1
  refine and2 hq2 fun k3 k4 => ?_
  clear hq2
  have nlen := numsF_len xs
  let Iz3 : St → Prop := fun σ' => σ'.loc.lookup ("script" : Str) = some (.val (.ref a)) ∧ σ'.loc.lookup ("begin" : Str) = some (.int (beginF xs)) ∧ σ'.loc.lookup ("octets" : Str) = some (.bytes (octsF xs))
  refine xM_cutA Iz3 ?_ ?_
  · refine x_assign hf (by kernel_rfl) ?_ (by rfl) (by kernel_rfl)
    refine e_callT (T := "bytes") hf (by kernel_rfl) (by intro w; kernel_rfl) (by kernel_rfl) ?_
    refine a_cons ?_
    refine e_comp (cl := []) (fun _ => true) octOf hf (by kernel_rfl) (by kernel_rfl) (by kernel_rfl) (by kernel_rfl) (by kernel_rfl) (h := ?_)
    refine it_list hf ?_
    refine e_loc hf (by kernel_rfl) (by walk_at "lk") ?_
    refine ⟨_, _, rfl, by walk_at "la", fun ob => ?_⟩
    refine ⟨⟨plain_int, by simp [nlen], fun a ha _ => ?_, fun a ha _ f₂ _ hf₂ => ?_, fun a ha f₂ _ hf₂ => rfl⟩, ?_⟩
    · obtain ⟨x, _, rfl⟩ := List.mem_map.mp ha; trivial
    · obtain ⟨x, hq3⟩ := (List.mem_map.mp ha)
      refine and2 hq3 fun _ he4 => ?_
      clear hq3
      obtain rfl := he4
      refine e_if ?_
      refine t_compare ?_
      refine e_binop ?_
      refine e_loc hf₂ (by kernel_rfl) (by walk_at "lk") ?_
      refine e_int ?_
      refine o_mod_int (by decide) ?_
      refine e_int ?_
      refine o_eq_int ?_
      have hoct : octI x = if (x.fmod 3 == 0) = true then (x.fdiv 3).fmod 256 else 255 * (x.fmod 3 - 1) := rfl
      refine tite_of (fun c => ?_) (fun c => ?_)
      · rw [if_pos c] at hoct
        refine e_binop ?_
        refine e_binop ?_
        refine e_loc hf₂ (by kernel_rfl) (by walk_at "lk") ?_
        refine e_int ?_
        refine o_div_int hf₂ (by first | exact Nat.le_trans (by assumption) (by decide) | lia | omega) (by decide) ?_
        refine e_int ?_
        refine o_mod_int (by decide) ?_
        show AV.int _ = AV.int (octI x)
        rw [hoct]
      · rw [if_neg (by rw [c]; decide)] at hoct
        refine e_binop ?_
        refine e_int ?_
        refine e_binop ?_
        refine e_binop ?_
        refine e_loc hf₂ (by kernel_rfl) (by walk_at "lk") ?_
        refine e_int ?_
        refine o_mod_int (by decide) ?_
        refine e_int ?_
        refine o_sub_int ?_
        refine o_mul_int (by mul_fits) ?_
        show AV.int _ = AV.int (octI x)
        rw [hoct]
    · have e3 : (((numsF xs).map AV.int).filter fun _ => true).map octOf = ((numsF xs).map octI).map AV.int := by
        rw [List.filter_eq_self.mpr (fun _ _ => rfl), List.map_map, List.map_map]; rfl
      rw [e3]
      refine a_nil ?_
      refine o_bytes_list hf la_new (fun x hx => ?_) (by simp [nlen]) ?_
      · obtain ⟨y, hq5⟩ := (List.mem_map.mp hx)
        refine and2 hq5 fun _ he6 => ?_
        clear hq5
        obtain rfl := he6
        exact octI_range y
      exact ⟨by walk_at "lk", by walk_at "lk", lk_same⟩
  clear k1 k2 k3 k4
  rintro σ1 hq7
  refine and3 hq7 fun k1 k2 k3 => ?_
  clear hq7
  have o16 := octsF_len xs
  have hfine := texts_fine P (xs := xs)
  obtain ⟨w1, w2⟩ := P.written _ o16
  obtain ⟨up1, _⟩ := P.upper _ o16
  have hway := P.way _ o16
  have hback := P.back _ o16
  have hwf : Fine (ntoaF (octsF xs)) := ⟨by (first | lia | omega), w2⟩
  have htk : takenF (ntoaF (octsF xs)) false = .bytes (octsF xs) := takenF_some hback
  have hcn : canonF (ntoaF (octsF xs)) = .str (ntoaF (octsF xs)) := canonF_some hback
  have htx : textsF xs (ntoaF (octsF xs)) = [text0 xs, cut (ntoaF (octsF xs)) none (some (placeF xs (ntoaF (octsF xs)))) ++ pieceAt ((beginF xs).fdiv 40) ++ cut (ntoaF (octsF xs)) (some (placeF xs (ntoaF (octsF xs)))) none, ntoaF (octsF xs) ++ [37] ++ tailF xs, upperL (ntoaF (octsF xs))] := rfl
  refine xM_cutA (fun σ' => σ'.loc.lookup ("script" : Str) = some (.val (.ref a)) ∧ σ'.loc.lookup ("begin" : Str) = some (.int (beginF xs)) ∧ σ'.loc.lookup ("octets" : Str) = some (.bytes (octsF xs)) ∧ σ'.loc.lookup ("written" : Str) = some (.str (ntoaF (octsF xs)))) ?_ ?_
  · refine x_assign hf (by kernel_rfl) ?_ (by rfl) (by kernel_rfl)
    refine e_callD hf (by kernel_rfl) (by intro w; kernel_rfl) def56.look ?_
    refine a_cons ?_
    refine e_loc hf (by kernel_rfl) (by walk_at "lk") ?_
    refine a_nil ?_
    refine o_call hf (q56 (n := n) (show (octsF xs).length ≤ 1000 by (first | lia | omega))) (by (first | lia | omega)) ⟨trivial, trivial⟩ ?_ (fun c q => absurd o16 q.1)
    rintro r ⟨_, rfl⟩
    exact ⟨by walk_at "lk", by walk_at "lk", by walk_at "lk", lk_same⟩
  clear k1 k2 k3
  generalize octsF xs = oc at o16 hfine w1 w2 up1 hway hback hwf htk hcn htx
  generalize ntoaF oc = wr at hfine w1 w2 up1 hway hback hwf htk hcn htx
  generalize textsF xs wr = ts at hfine htx
  rintro σ1 hq8
  refine and4 hq8 fun k1 k2 k3 k4 => ?_
  clear hq8
  refine xM_cons ?_
  refine xM_if ?_
  refine t_boolM ?_
  refine taM_or ?_
  refine t_compareM (TrM.of ?_)
  refine e_loc hf (by kernel_rfl) (by walk_at "lk") ?_
  refine TrM.of ?_
  refine e_callD hf (by kernel_rfl) (by intro w; kernel_rfl) look108 ?_
  refine a_cons ?_
  refine e_loc hf (by kernel_rfl) (by walk_at "lk") ?_
  refine a_nil ?_
  refine o_call hf (q108 (n := n) o16) (by (first | lia | omega)) ⟨trivial, trivial⟩ ?_ (fun _ q => q.elim)
  rintro r rfl
  refine o_ne_str ?_
  rw [show (wr != wayF oc) = false by rw [hway]; simp]
  show TAllM _ _ _ _ _ _ _ _
  refine taM_or ?_
  refine t_compareM ?_
  refine e_callDM hf (by kernel_rfl) (by intro w; kernel_rfl) def122.look ?_
  refine a_cons ?_
  refine e_loc hf (by kernel_rfl) (by walk_at "lk") ?_
  refine a_cons ?_
  refine e_bool ?_
  refine a_nil ?_
  refine o_callC hf ho hFL (q122 (n := n) (fun c hc => (w2 c hc).1) (fun hc => (w2 10 hc).2 rfl) (by (first | lia | omega)) (.inl rfl)) (by (first | lia | omega)) ⟨trivial, trivial, trivial⟩ ?_
  rintro _ rfl
  rw [htk]
  refine TrM.of ?_
  refine e_loc hf (by kernel_rfl) (by walk_at "lk") ?_
  refine o_ne_bytes ?_
  rw [show (oc != oc) = false by simp]
  show TAllM _ _ _ _ _ _ _ _
  refine taM_or ?_
  refine t_compareM ?_
  refine e_callDM hf (by kernel_rfl) (by intro w; kernel_rfl) def129.look ?_
  refine a_cons ?_
  refine e_loc hf (by kernel_rfl) (by walk_at "lk") ?_
  refine a_nil ?_
  refine o_callC hf ho hFL (q129 (n := n) (fun c hc => (w2 c hc).1) (fun hc => (w2 10 hc).2 rfl) (by (first | lia | omega)) (.inl rfl)) (by (first | lia | omega)) ⟨trivial, trivial⟩ ?_
  rintro _ rfl
  rw [hcn]
  refine TrM.of ?_
  refine e_loc hf (by kernel_rfl) (by walk_at "lk") ?_
  refine o_ne_str ?_
  rw [show (wr != wr) = false by simp]
  show TAllM _ _ _ _ _ _ _ _
  refine taM_nil ?_
  show EsM _ _ _ _ _ _ _
  refine xM_nil ?_
  refine xM_cons ?_
  refine xM_if ?_
  refine t_boolM ?_
  refine taM_or ?_
  refine t_valueM ?_
  refine e_callDM hf (by kernel_rfl) (by intro w; kernel_rfl) def136.look ?_
  refine a_cons ?_
  refine e_slice ?_
  refine e_loc hf (by kernel_rfl) (by walk_at "lk") ?_
  refine p_none ?_
  refine p_some ?_
  refine e_binop ?_
  refine e_loc hf (by kernel_rfl) (by walk_at "lk") ?_
  refine e_int ?_
  refine o_mod_int (by decide) ?_
  have hm1 := Int.fmod_nonneg_of_pos (beginF xs) (show (0 : Int) < 16 by decide)
  have hm2 := Int.fmod_lt_of_pos (beginF xs) (show (0 : Int) < 16 by decide)
  obtain ⟨mk, hmk⟩ : ∃ mk : Nat, (beginF xs).fmod 16 = (mk : Int) := ⟨((beginF xs).fmod 16).toNat, by (first | lia | omega)⟩
  rw [hmk]
  refine s_bytes (by first | exact Nat.le_trans (by assumption) (by decide) | lia | omega) ?_
  rw [cut_take]
  refine a_nil ?_
  have tk16 : (oc.take mk).length = mk := by rw [List.length_take]; (first | lia | omega)
  refine o_callC hf ho hFL (q136 (n := n) (show (oc.take mk).length ≤ 1000 by (first | lia | omega))) (by (first | lia | omega)) ⟨trivial, trivial⟩ ?_
  rintro _ rfl
  refine o_truthy_bool ?_
  rw [show decide ((oc.take mk).length = 16) = false by rw [tk16]; exact decide_eq_false (by (first | lia | omega))]
  show TAllM _ _ _ _ _ _ _ _
  refine taM_or ?_
  refine t_valueM ?_
  refine e_callDM hf (by kernel_rfl) (by intro w; kernel_rfl) def136.look ?_
  refine a_cons ?_
  refine e_binop ?_
  refine e_loc hf (by kernel_rfl) (by walk_at "lk") ?_
  refine e_bytes ?_
  refine o_add_bytes (by simp; (first | lia | omega)) ?_
  refine a_nil ?_
  have ap17 : (oc ++ [(48 : UInt8)]).length = 17 := by simp [o16]
  have hd17 : decide ((oc ++ [(48 : UInt8)]).length = 16) = false := by rw [ap17]; rfl
  refine o_callC hf ho hFL (q136 (n := n) (show (oc ++ [(48 : UInt8)]).length ≤ 1000 by (first | lia | omega))) (by (first | lia | omega)) ⟨trivial, trivial⟩ ?_
  rintro _ rfl
  refine o_truthy_bool ?_
  rw [hd17]
  show TAllM _ _ _ _ _ _ _ _
  refine taM_nil ?_
  show EsM _ _ _ _ _ _ _
  refine xM_nil ?_
  clear k3
  let Iz5 : St → Prop := fun σ' => σ'.loc.lookup ("script" : Str) = some (.val (.ref a)) ∧ σ'.loc.lookup ("begin" : Str) = some (.int (beginF xs)) ∧ σ'.loc.lookup ("written" : Str) = some (.str wr) ∧ σ'.loc.lookup ("place" : Str) = some (.int (placeF xs wr))
  refine xM_cutA Iz5 ?_ ?_
  · refine x_assign hf (by kernel_rfl) ?_ (by rfl) (by kernel_rfl)
    refine e_binop ?_
    refine e_loc hf (by kernel_rfl) (by walk_at "lk") ?_
    refine e_binop ?_
    refine e_callB (id := "len") hf (by kernel_rfl) (by intro w; kernel_rfl) (by kernel_rfl) ?_
    refine a_cons ?_
    refine e_loc hf (by kernel_rfl) (by walk_at "lk") ?_
    refine a_nil ?_
    refine o_len_str (by first | (first | lia | omega) | (simp; done) | (simp; (first | lia | omega))) ?_
    refine e_int ?_
    refine o_add_int ?_
    refine o_mod_int (by first | exact Nat.le_trans (by assumption) (by decide) | lia | omega) ?_
    exact ⟨by walk_at "lk", by walk_at "lk", by walk_at "lk", lk_same⟩
  clear k1 k2 k4
  rintro σ1 hq9
  refine and4 hq9 fun k1 k2 k3 k4 => ?_
  clear hq9
  refine and4 (pieceAt_get ((beginF xs).fdiv 40)) fun g1 g2 g3 g4 => ?_
  have hpc := piece_fine ((beginF xs).fdiv 40)
  let Iz6 : St → Prop := fun σ' => σ'.loc.lookup ("script" : Str) = some (.val (.ref a)) ∧ σ'.loc.lookup ("begin" : Str) = some (.int (beginF xs)) ∧ σ'.loc.lookup ("written" : Str) = some (.str wr) ∧ σ'.loc.lookup ("place" : Str) = some (.int (placeF xs wr)) ∧
      σ'.loc.lookup ("piece" : Str) = some (.str (pieceAt ((beginF xs).fdiv 40)))
  refine xM_cutA Iz6 ?_ ?_
  · refine x_assign hf (by kernel_rfl) ?_ (by rfl) (by kernel_rfl)
    refine e_index ?_
    refine e_glob (v := .ref 79) hf (by kernel_rfl) pieces_name vr_val ?_
    refine e_binop ?_
    refine e_binop ?_
    refine e_loc hf (by kernel_rfl) (by walk_at "lk") ?_
    refine e_int ?_
    refine o_div_int hf (by first | (first | lia | omega) | (simp; done) | (simp; (first | lia | omega))) (by decide) ?_
    refine e_callB (id := "len") hf (by kernel_rfl) (by intro w; kernel_rfl) (by kernel_rfl) ?_
    refine a_cons ?_
    refine e_glob (v := .ref 79) hf (by kernel_rfl) pieces_name vr_val ?_
    refine a_nil ?_
    refine o_len_old (old_pieces hf) (by simp [pieces_len]) ?_
    rw [plen]
    refine o_mod_int (by decide) ?_
    refine i_old (old_pieces hf) g2 (by (first | lia | omega)) g1 ?_
    exact ⟨by walk_at "lk", by walk_at "lk", by walk_at "lk", by walk_at "lk", lk_same⟩
  clear k1 k2 k3 k4 g1 g2 g3 g4
  rintro σ1 hq10
  refine and5 hq10 fun k1 k2 k3 k4 k5 => ?_
  clear hq10
  have c11 := sub1_11 xs
  let Iz7 : St → Prop := fun σ' => σ'.loc.lookup ("begin" : Str) = some (.int (beginF xs)) ∧ σ'.loc.lookup ("written" : Str) = some (.str wr) ∧ σ'.loc.lookup ("place" : Str) = some (.int (placeF xs wr)) ∧
      σ'.loc.lookup ("piece" : Str) = some (.str (pieceAt ((beginF xs).fdiv 40))) ∧ ∃ j, σ'.loc.lookup ("texts" : Str) = some (.ref j) ∧ ListAt σ' j [.str (text0 xs)]
  refine xM_cutA Iz7 ?_ ?_
  · refine x_assign hf (by kernel_rfl) ?_ (by rfl) (by kernel_rfl)
    refine e_list ?_
    refine a_cons ?_
    refine e_meth1 (id := "str.join") ?_
    refine e_str (l := []) (by kernel_rfl) ?_
    refine ⟨meth_str F.slot_str_join F.type_str_join, ?_⟩
    refine a_cons ?_
    refine e_comp (cl := []) (fun _ => true) pcOf hf (by kernel_rfl) (by kernel_rfl) (by kernel_rfl) (by kernel_rfl) (by kernel_rfl) (h := ?_)
    refine it_list hf ?_
    refine e_slice ?_
    refine e_loc hf (by kernel_rfl) (by walk_at "lk") ?_
    refine p_some ?_
    refine e_int ?_
    refine p_some ?_
    refine e_int ?_
    refine s_old hO (by (first | lia | omega)) ?_
    refine ⟨_, (cut xs (some 1) (some 11)).map .int, rfl, by rw [← cut_map]; exact la_new, fun ob => ?_⟩
    refine ⟨⟨plain_int, by rw [List.length_map]; (first | lia | omega), fun a ha _ => ?_, fun a ha _ f₂ _ hf₂ => ?_, fun a ha f₂ _ hf₂ => rfl⟩, ?_⟩
    · obtain ⟨x, _, rfl⟩ := List.mem_map.mp ha; trivial
    · obtain ⟨x, hq11⟩ := (List.mem_map.mp ha)
      refine and2 hq11 fun _ he12 => ?_
      clear hq11
      obtain rfl := he12
      refine and4 (pieceAt_get (x.fdiv 9)) fun g1 g2 g3 g4 => ?_
      refine e_index ?_
      refine e_glob (v := .ref 79) hf₂ (by kernel_rfl) pieces_name vr_val ?_
      refine e_binop ?_
      refine e_binop ?_
      refine e_loc hf₂ (by kernel_rfl) (by walk_at "lk") ?_
      refine e_int ?_
      refine o_div_int hf₂ (by first | (first | lia | omega) | (simp; done) | (simp; (first | lia | omega))) (by decide) ?_
      refine e_callB (id := "len") hf₂ (by kernel_rfl) (by intro w; kernel_rfl) (by kernel_rfl) ?_
      refine a_cons ?_
      refine e_glob (v := .ref 79) hf₂ (by kernel_rfl) pieces_name vr_val ?_
      refine a_nil ?_
      refine o_len_old (old_pieces hf₂) (by simp [pieces_len]) ?_
      rw [plen]
      refine o_mod_int (by decide) ?_
      refine i_old (old_pieces hf₂) g2 (by (first | lia | omega)) g1 ?_
      rfl
    have e6 : ((((cut xs (some 1) (some 11)).map AV.int).filter fun _ => true).map pcOf) = ((cut xs (some 1) (some 11)).map fun k => pieceAt (k.fdiv 9)).map AV.str := by
      rw [List.filter_eq_self.mpr (fun _ _ => rfl), List.map_map, List.map_map]; rfl
    rw [e6]
    refine a_nil ?_
    have hws : ∀ w ∈ (cut xs (some 1) (some 11)).map (fun k => pieceAt (k.fdiv 9)), w.length ≤ 16 := fun w hw => by
      obtain ⟨k, hq13⟩ := (List.mem_map.mp hw)
      refine and2 hq13 fun _ e => ?_
      clear hq13
      rw [← e]; exact (piece_fine _).1
    have hsum := sum_len _ hws
    rw [List.length_map] at hsum
    refine o_join la_new (by rw [List.length_map, List.length_nil]; (first | lia | omega)) ?_
    refine a_nil ?_
    refine ⟨by simp, ?_⟩
    exact ⟨by walk_at "lk", by walk_at "lk", by walk_at "lk", by walk_at "lk", _, lk_same, la_set la_new⟩
  clear k1 k2 k3 k4 k5
  rintro σ1 hq14
  obtain ⟨k1, k2, k3, k4, j, hq15⟩ := hq14
  refine and2 hq15 fun k5 k6 => ?_
  clear hq15
  have pl1 := cut_len wr none (some (placeF xs wr))
  have pl2 := cut_len wr (some (placeF xs wr)) none
  have htl := (tail_fine xs).1
  let Iz8 : St → Prop := fun σ' => ∃ j, σ'.loc.lookup ("texts" : Str) = some (.ref j) ∧ ListAt σ' j (ts.map .str)
  refine xM_cutA Iz8 ?_ ?_
  · refine x_assign hf (by kernel_rfl) ?_ (by rfl) (by kernel_rfl)
    refine e_binop ?_
    refine e_loc hf (by kernel_rfl) (by walk_at "lk") ?_
    refine e_list ?_
    refine a_cons ?_
    refine e_binop ?_
    refine e_binop ?_
    refine e_slice ?_
    refine e_loc hf (by kernel_rfl) (by walk_at "lk") ?_
    refine p_none ?_
    refine p_some ?_
    refine e_loc hf (by kernel_rfl) (by walk_at "lk") ?_
    refine s_str (by first | exact Nat.le_trans (by assumption) (by decide) | lia | omega) ?_
    refine e_loc hf (by kernel_rfl) (by walk_at "lk") ?_
    refine o_add_str (by first | exact Nat.le_trans (by assumption) (by decide) | lia | omega) ?_
    refine e_slice ?_
    refine e_loc hf (by kernel_rfl) (by walk_at "lk") ?_
    refine p_some ?_
    refine e_loc hf (by kernel_rfl) (by walk_at "lk") ?_
    refine p_none ?_
    refine s_str (by first | exact Nat.le_trans (by assumption) (by decide) | lia | omega) ?_
    refine o_add_str (by rw [List.length_append]; (first | lia | omega)) ?_
    refine a_cons ?_
    refine e_binop ?_
    refine e_binop ?_
    refine e_loc hf (by kernel_rfl) (by walk_at "lk") ?_
    refine e_str (l := [37]) (by kernel_rfl) ?_
    refine o_add_str (by simp; (first | lia | omega)) ?_
    refine e_is (.str (tailF xs)) ?_ ?_
    · refine e_if ?_
      refine t_compare ?_
      refine e_binop ?_
      refine e_loc hf (by kernel_rfl) (by walk_at "lk") ?_
      refine e_int ?_
      refine o_mod_int (by decide) ?_
      refine e_int ?_
      refine o_eq_int ?_
      have htf : tailF xs = if ((beginF xs).fmod 2 == 0) = true then pieceAt ((beginF xs).fdiv 40) else [] := rfl
      refine tite_of (fun c => ?_) (fun c => ?_)
      · rw [if_pos c] at htf
        refine e_loc hf (by kernel_rfl) (by walk_at "lk") ?_
        exact ⟨by rw [htf], rfl⟩
      · rw [if_neg (by rw [c]; decide)] at htf
        refine e_str (l := []) (by kernel_rfl) ?_
        exact ⟨by rw [htf], rfl⟩
    refine o_add_str (by simp; (first | lia | omega)) ?_
    refine a_cons ?_
    refine e_meth0 (id := "str.upper") ?_
    refine e_loc hf (by kernel_rfl) (by walk_at "lk") ?_
    refine ⟨meth_str F.slot_str_upper F.type_str_upper, ?_⟩
    refine o_upper (by first | exact Nat.le_trans (by assumption) (by decide) | lia | omega) ?_
    refine a_nil ?_
    refine ⟨by simp, ?_⟩
    refine o_add_list (la_keep k6) la_new (by simp) ?_
    refine ⟨_, lk_same, ?_⟩
    rw [htx]
    exact la_set la_new
  clear k1 k2 k3 k4 k5 k6
  rintro σ1 hq16
  obtain ⟨j, hq17⟩ := hq16
  refine and2 hq17 fun k5 k6 => ?_
  clear hq17
  refine xM_cut (fun _ => True) ?_ ?_
  · refine xM_enum hf (by kernel_rfl) (by kernel_rfl) (by kernel_rfl) (by intro w; kernel_rfl) (by kernel_rfl) ?_ (by rw [hfe])
    refine e_loc hf (by kernel_rfl) (by walk_at "lk") ?_
    refine ⟨_, _, rfl, k6, fun ob => ?_⟩
    have hj0 := la_lt k6
    refine ⟨fun i σ' => σ'.mem[j]? = some (.fix ob false (ts.map .str)), mem_put hj0, ?_, ?_, fun _ _ => trivial⟩
    · intro j' hj i σ' h2
      simp only [List.mem_cons, List.not_mem_nil, or_false] at hj
      subst hj
      rw [h2, mem_put hj0]
    rintro i σ' y u1 hy f₁ hL hfe₁ ⟨hout₁, _⟩ hf₁
    obtain ⟨l, hq18⟩ := (item_of hy)
    refine and3 hq18 fun _ he19 hmem => ?_
    clear hq18
    obtain rfl := he19
    have hl := hfine l hmem
    obtain ⟨hl1, hl2⟩ := id hl
    have hls : ∀ c ∈ l, Sgn c := fun c hc => (hl2 c hc).1
    have hln : 10 ∉ l := fun hc => (hl2 10 hc).2 rfl
    have ho₁ : f₁.outer = [] := hout₁.trans ho
    have hFL₁ : f₁.FL = f₁.L := by
      have e1 := hf₁.ff
      rw [hfe₁, hf.ff] at e1
      rw [hL, ← hFL]; exact (Option.some.inj e1).symm
    show EsM _ _ _ _ ((σ'.set ("at" : Str) (.int i)).set ("text" : Str) (.str l)) _ _
    generalize hσ2 : (σ'.set ("at" : Str) (.int i)).set ("text" : Str) (.str l) = σ2
    have l1 : σ2.loc.lookup ("at" : Str) = some (.int i) := by subst hσ2; walk_at "lk"
    have l2 : σ2.loc.lookup ("text" : Str) = some (.str l) := by subst hσ2; walk_at "lk"
    have l3 : σ2.mem[j]? = some (.fix ob false (ts.map .str)) := by subst hσ2; exact u1
    clear hσ2 u1
    let Iz9 : St → Prop := fun σ' => σ'.loc.lookup ("at" : Str) = some (.int i) ∧ σ'.loc.lookup ("text" : Str) = some (.str l) ∧ σ'.mem[j]? = some (.fix ob false (ts.map .str)) ∧ σ'.loc.lookup ("due" : Str) = some (dueF l)
    refine xM_cutA Iz9 ?_ ?_
    · refine x_assign hf₁ (by kernel_rfl) ?_ (by rfl) (by kernel_rfl)
      refine e_callD hf₁ (by kernel_rfl) (by intro w; kernel_rfl) def115.look ?_
      refine a_cons ?_
      refine e_loc hf₁ (by kernel_rfl) (by walk_at "lk") ?_
      refine a_nil ?_
      refine o_call hf₁ (q115 (n := n) (show l.length ≤ 300 by (first | lia | omega))) (by (first | lia | omega)) ⟨trivial, trivial⟩ ?_ (fun _ q => q.elim)
      rintro r rfl
      exact ⟨by walk_at "lk", by walk_at "lk", l3, lk_same⟩
    clear l1 l2 l3
    rintro σ2 hq20
    refine and4 hq20 fun l1 l2 l3 l4 => ?_
    clear hq20
    have hsp := spl_length_le 37 l
    have hpm : ((spl 37 l).getD 0 []).length ≤ l.length := by
      cases q : spl 37 l with
      | nil => exact absurd q (spl_ne _ _)
      | cons p ps => exact spl_mem_le 37 l p (by rw [q]; simp)
    have hp0 : ((spl 37 l).map AV.str)[(0 : Int).toNat]? = some (AV.str ((spl 37 l).getD 0 [])) := by
      cases q : spl 37 l with
      | nil => exact absurd q (spl_ne _ _)
      | cons p ps => rfl
    have hsc : scopedF l = if (spl 37 l).length < 3 then dueF ((spl 37 l).getD 0 []) else .str refusedS := rfl
    have nl : ((spl 37 l).map AV.str).length = (spl 37 l).length := by simp
    let Iz10 : St → Prop := fun σ' => σ'.loc.lookup ("at" : Str) = some (.int i) ∧ σ'.loc.lookup ("text" : Str) = some (.str l) ∧ σ'.mem[j]? = some (.fix ob false (ts.map .str)) ∧ σ'.loc.lookup ("due" : Str) = some (dueF l) ∧ ∃ jp, σ'.loc.lookup ("parts" : Str) = some (.ref jp) ∧ ListAt σ' jp ((spl 37 l).map .str)
    refine xM_cutA Iz10 ?_ ?_
    · refine x_assign hf₁ (by kernel_rfl) ?_ (by rfl) (by kernel_rfl)
      refine e_meth1 (id := "str.split") ?_
      refine e_loc hf₁ (by kernel_rfl) (by walk_at "lk") ?_
      refine ⟨meth_str F.slot_str_split F.type_str_split, ?_⟩
      refine a_cons ?_
      refine e_str (l := [37]) (by kernel_rfl) ?_
      refine a_nil ?_
      refine o_split1 (by first | exact Nat.le_trans (by assumption) (by decide) | lia | omega) ?_
      exact ⟨by walk_at "lk", by walk_at "lk", mem_keep l3, by walk_at "lk", _, lk_same, la_set la_new⟩
    clear l1 l2 l3 l4
    rintro σ2 hq21
    obtain ⟨l1, l2, l3, l4, jp, hq22⟩ := hq21
    refine and2 hq22 fun l5 l6 => ?_
    clear hq22
    let Iz11 : St → Prop := fun σ' => σ'.loc.lookup ("at" : Str) = some (.int i) ∧ σ'.loc.lookup ("text" : Str) = some (.str l) ∧ σ'.mem[j]? = some (.fix ob false (ts.map .str)) ∧ σ'.loc.lookup ("due" : Str) = some (dueF l) ∧ σ'.loc.lookup ("scoped" : Str) = some (scopedF l)
    refine xM_cutA Iz11 ?_ ?_
    · refine x_assign hf₁ (by kernel_rfl) ?_ (by rfl) (by kernel_rfl)
      refine e_if ?_
      refine t_compare ?_
      refine e_callB (id := "len") hf₁ (by kernel_rfl) (by intro w; kernel_rfl) (by kernel_rfl) ?_
      refine a_cons ?_
      refine e_loc hf₁ (by kernel_rfl) (by walk_at "lk") ?_
      refine a_nil ?_
      refine o_len_list (by walk_at "la") (by (first | lia | omega)) ?_
      rw [nl]
      refine e_int ?_
      refine o_lt_int ?_
      refine tite_of (fun c => ?_) (fun c => ?_)
      · rw [if_pos (by simp at c; (first | lia | omega))] at hsc
        refine e_callD hf₁ (by kernel_rfl) (by intro w; kernel_rfl) def115.look ?_
        refine a_cons ?_
        refine e_index ?_
        refine e_loc hf₁ (by kernel_rfl) (by walk_at "lk") ?_
        refine e_int ?_
        refine i_list (by walk_at "la") (by decide) (by decide) hp0 ?_
        refine a_nil ?_
        refine o_call hf₁ (q115 (n := n) (show ((spl 37 l).getD 0 []).length ≤ 300 by (first | lia | omega))) (by (first | lia | omega)) ⟨trivial, trivial⟩ ?_ (fun _ q => q.elim)
        rintro r rfl
        exact ⟨by walk_at "lk", by walk_at "lk", l3, by walk_at "lk", by rw [hsc]; exact lk_same⟩
      · rw [if_neg (by simp at c; (first | lia | omega))] at hsc
        refine e_str (l := refusedS) (by kernel_rfl) ?_
        exact ⟨by walk_at "lk", by walk_at "lk", l3, by walk_at "lk", by rw [hsc]; exact lk_same⟩
    clear l1 l2 l3 l4 l5 l6 hsc hp0 hpm hsp nl
    rintro σ2 hq23
    refine and5 hq23 fun l1 l2 l3 l4 l5 => ?_
    clear hq23
    refine xM_cons ?_
    refine xM_if ?_
    refine t_boolM ?_
    refine taM_or ?_
    refine t_compareM ?_
    refine e_callDM hf₁ (by kernel_rfl) (by intro w; kernel_rfl) def122.look ?_
    refine a_cons ?_
    refine e_loc hf₁ (by kernel_rfl) (by walk_at "lk") ?_
    refine a_cons ?_
    refine e_bool ?_
    refine a_nil ?_
    refine o_callC hf₁ ho₁ hFL₁ (q122 (n := n) hls hln hl1 (.inl rfl)) (by (first | lia | omega)) ⟨trivial, trivial, trivial⟩ ?_
    rintro _ rfl
    refine TrM.of ?_
    refine e_loc hf₁ (by kernel_rfl) (by walk_at "lk") ?_
    refine o_ne_same (takenF_told _ _) (taken_due P hl) ?_
    show TAllM _ _ _ _ _ _ _ _
    refine taM_or ?_
    refine t_compareM ?_
    refine e_callDM hf₁ (by kernel_rfl) (by intro w; kernel_rfl) def122.look ?_
    refine a_cons ?_
    refine e_loc hf₁ (by kernel_rfl) (by walk_at "lk") ?_
    refine a_cons ?_
    refine e_bool ?_
    refine a_nil ?_
    refine o_callC hf₁ ho₁ hFL₁ (q122 (n := n) hls hln hl1 (.inl rfl)) (by (first | lia | omega)) ⟨trivial, trivial, trivial⟩ ?_
    rintro _ rfl
    refine TrM.of ?_
    refine e_loc hf₁ (by kernel_rfl) (by walk_at "lk") ?_
    refine o_ne_same (takenF_told _ _) (taken_scoped P hl) ?_
    show TAllM _ _ _ _ _ _ _ _
    refine taM_nil ?_
    show EsM _ _ _ _ _ _ _
    refine xM_nil ?_
    refine xM_cons ?_
    refine xM_if ?_
    refine t_compareM ?_
    refine e_callDM hf₁ (by kernel_rfl) (by intro w; kernel_rfl) def122.look ?_
    refine a_cons ?_
    refine e_meth0 (id := "str.encode") ?_
    refine e_loc hf₁ (by kernel_rfl) (by walk_at "lk") ?_
    refine ⟨meth_str F.slot_str_encode F.type_str_encode, ?_⟩
    refine o_encode hls (by first | exact Nat.le_trans (by assumption) (by decide) | lia | omega) ?_
    refine a_cons ?_
    refine e_compare ?_
    refine e_loc hf₁ (by kernel_rfl) (by walk_at "lk") ?_
    refine e_int ?_
    refine o_eq_int ?_
    refine a_nil ?_
    refine o_callC hf₁ ho₁ hFL₁ (q122 (n := n) hls hln hl1 (.inr rfl)) (by (first | lia | omega)) ⟨trivial, trivial, trivial⟩ ?_
    rintro _ rfl
    refine TrM.of ?_
    refine e_is (if ((i : Int) == 2) = true then scopedF l else dueF l) ?_ ?_
    · refine e_if ?_
      refine t_compare ?_
      refine e_loc hf₁ (by kernel_rfl) (by walk_at "lk") ?_
      refine e_int ?_
      refine o_eq_int ?_
      refine tite_of (fun c => ?_) (fun c => ?_)
      · refine e_loc hf₁ (by kernel_rfl) (by walk_at "lk") ?_
        exact ⟨by rw [if_pos c], rfl⟩
      · refine e_loc hf₁ (by kernel_rfl) (by walk_at "lk") ?_
        exact ⟨by rw [if_neg (by rw [c]; decide)], rfl⟩
    refine o_ne_same (takenF_told _ _) ?_ ?_
    · cases hc : ((i : Int) == 2) with
      | true => exact taken_scoped P hl
      | false => exact taken_due P hl
    show EsM _ _ _ _ _ _ _
    refine xM_nil ?_
    refine xM_cons ?_
    refine xM_if ?_
    refine t_compareM ?_
    refine e_callDM hf₁ (by kernel_rfl) (by intro w; kernel_rfl) def129.look ?_
    refine a_cons ?_
    refine e_some (TxtAV l) ?_ fun ta hta => ?_
    · refine e_if ?_
      refine t_compare ?_
      refine e_loc hf₁ (by kernel_rfl) (by walk_at "lk") ?_
      refine e_int ?_
      refine o_eq_int ?_
      refine tite_of (fun c => ?_) (fun c => ?_)
      · refine e_meth0 (id := "str.encode") ?_
        refine e_loc hf₁ (by kernel_rfl) (by walk_at "lk") ?_
        refine ⟨meth_str F.slot_str_encode F.type_str_encode, ?_⟩
        refine o_encode hls (by first | exact Nat.le_trans (by assumption) (by decide) | lia | omega) ?_
        exact ⟨.inr rfl, rfl⟩
      · refine e_loc hf₁ (by kernel_rfl) (by walk_at "lk") ?_
        exact ⟨.inl rfl, rfl⟩
    refine a_nil ?_
    refine o_callC hf₁ ho₁ hFL₁ (q129 (n := n) hls hln hl1 hta) (by (first | lia | omega)) ⟨hta.flat, trivial⟩ ?_
    rintro _ rfl
    refine TrM.of ?_
    refine e_is (canonF l) ?_ ?_
    · have hdue := P.due l hl
      cases hq : octetsF l with
      | none =>
        have hd : dueF l = .str refusedS := by unfold dueF; rw [hq]
        rw [hd] at l4
        refine e_if ?_
        refine t_compare ?_
        refine e_loc hf₁ (by kernel_rfl) (by walk_at "lk") ?_
        refine e_str (l := refusedS) (by kernel_rfl) ?_
        refine o_eq_str ?_
        show Ev _ _ _ _ _ _
        refine e_str (l := refusedS) (by kernel_rfl) ?_
        exact ⟨(canonF_none (hdue.trans hq)).symm, rfl⟩
      | some x =>
        have hd : dueF l = .bytes x := by unfold dueF; rw [hq]
        have hx16 := aton6_len (hdue.trans hq)
        rw [hd] at l4
        refine e_if ?_
        refine t_compare ?_
        refine e_loc hf₁ (by kernel_rfl) (by walk_at "lk") ?_
        refine e_str (l := refusedS) (by kernel_rfl) ?_
        refine o_eq_bytes_str ?_
        show Ev _ _ _ _ _ _
        refine e_callD hf₁ (by kernel_rfl) (by intro w; kernel_rfl) look108 ?_
        refine a_cons ?_
        refine e_loc hf₁ (by kernel_rfl) (by walk_at "lk") ?_
        refine a_nil ?_
        refine o_call hf₁ (q108 (n := n) hx16) (by (first | lia | omega)) ⟨trivial, trivial⟩ ?_ (fun _ q => q.elim)
        rintro r rfl
        exact ⟨by rw [canonF_some (hdue.trans hq), P.way x hx16], rfl⟩
    refine o_ne_same (canonF_told _) rfl ?_
    show EsM _ _ _ _ _ _ _
    refine xM_nil ?_
    refine xM_nil ?_
    exact l3
  rintro σ2 _
  refine xM_consA ?_
  refine x_return ?_
  refine e_bool ?_
  rfl
end

/- # T2 -/
section
open PySem PySem.Calls PyProof.Rows PySem.W
theorem ints_vrs {ρ : List Addr} : ∀ {vs : List Value} {ns : List Int}, IntsAre vs ns → VRs ρ vs (ns.map .int)
  | vs, [], h => by
    obtain rfl := IntsAre.nil_inv h
    exact .nil
  | vs, n :: ns, h => by
    obtain ⟨t, vs', rfl, h'⟩ := IntsAre.cons_inv h
    exact .cons ⟨t, rfl⟩ (ints_vrs h')
set_option maxHeartbeats 8000000 in
theorem all_of (P : Laws) : Challenge.rw_jf0013_01.Holds := by
  refine Hd.hd ?_
  intro w s₀ s₁ mg mb G Y a o pm cd doc dV kV ho hd hcd hD hmg hg args vals as hpre hlay hrd hwl hlo
  have KX := kIn_of Y
  have hG : G0 w s₁.heap mg mb := ⟨KX, _, _, G.T⟩
  have hmg' : mg "law" = some (.ref 141) := mg_of KX G.T.g (by kernel_rfl)
  obtain rfl : a = 141 := by
    have := hmg.symm.trans hmg'
    injection this with this
    injection this
  clear G Y hd hcd hD ho hmg hmg'
  wrow_args hpre hlay hrd hwl hlo
  rename_i xs _ _ _ _ _ _ _ b vs _ hL _ _ _ hI _ hn _
  have hn' : xs.length ≤ 63 := by (first | lia | omega)
  have hc : Cal w callerA s₁.heap [] s₁ 6 := ⟨⟨mg, mb, hG⟩, rfl, rfl, by decide, by decide, fun _ _ e => e, trivial, rfl⟩
  have main := law_call (m := Gm) (n := 5) hc hL (ints_vrs (vs := vs.toArray.toList) (by simpa using hI)) (fun f hf hfe hfo hFL hO σ h1 => b141 P (n := 1) hf hfe hfo hFL hO (by (first | lia | omega)) h1)
  have main' : wpG (model pw w) callerA (call (.ref 141) [.ref b]) (fun v s' => v = Value.bool true ∧ (∀ b o, s₁.heap.get? b = some o → s'.heap.get? b = some o) ∧ s'.gens = s₁.gens ∧ s'.os = s₁.os) (fun _ _ => False) s₁ := fun Γ p h1 h2 => main Γ p h1 h2
  refine wpG_mono main' ?_ (fun _ _ q => q.elim)
  rintro v s' ⟨rfl, hk, hgn, hos⟩
  refine ⟨.inl ⟨.bool true, .bool true, [], rfl, fun _ => rfl, .bool _, ?_, fun _ => ⟨.nil, fun _ q => by cases q⟩⟩, .of_keep hk, hos, .of_eq (hgn.trans hg)⟩
  refine postW_of (X := true) ?_ ?_ rfl
  · show WShape.has _ (.bool true) .bool = true
    first | rfl | simp [WShape.has] | decide
  · show WTm.value _ (.eq .res (.lit (.bool true))) _ = _
    simp [WTm.value]
    unfold same
    rfl
end

/- # L1 -/
section
open PySem PySem.Calls PyProof.Rows PySem.W

/- ## the split at a pair of colons -/
noncomputable def conH (x : Nat) : List (List Nat) → List (List Nat)
  | [] => [[x]]
  | p :: ps => (x :: p) :: ps
noncomputable def spl2 : List Nat → List (List Nat)
  | [] => [[]]
  | [x] => [[x]]
  | x :: y :: r => if x = 58 ∧ y = 58 then [] :: spl2 r else conH x (spl2 (y :: r))
/- a pair of colons stands at k -/
noncomputable def At2 (l : List Nat) (k : Nat) : Prop := l[k]? = some 58 ∧ l[k + 1]? = some 58
noncomputable def Free2 (l : List Nat) : Prop := ∀ k, ¬ At2 l k
theorem at2_cons {x : Nat} {l : List Nat} {k : Nat} : At2 (x :: l) (k + 1) ↔ At2 l k := by unfold At2; simp
theorem Free2.tail {x : Nat} {l : List Nat} (h : Free2 (x :: l)) : Free2 l := fun k q => h (k + 1) (at2_cons.mpr q)
theorem free2_nil : Free2 [] := fun k q => by simp [At2] at q
theorem spl2_free : ∀ {l : List Nat}, Free2 l → spl2 l = [l]
  | [], _ => rfl
  | [x], _ => rfl
  | x :: y :: r, h => by
    have h0 := h 0
    rw [spl2, if_neg (fun q => h0 (by unfold At2; simp [q.1, q.2])), spl2_free h.tail]
    rfl
theorem spl2_ne : ∀ l : List Nat, spl2 l ≠ []
  | [] => by simp [spl2]
  | [x] => by simp [spl2]
  | x :: y :: r => by
    rw [spl2]
    split
    · simp
    · cases spl2 (y :: r) <;> simp [conH]
/- the first pair -/
theorem spl2_first : ∀ {a r : List Nat}, (∀ k, k < a.length → ¬ At2 (a ++ 58 :: 58 :: r) k) → spl2 (a ++ 58 :: 58 :: r) = a :: spl2 r
  | [], r, _ => by rw [List.nil_append, spl2, if_pos ⟨rfl, rfl⟩]
  | x :: a, r, h => by
    have ih := spl2_first (a := a) (r := r) fun k hk q => h (k + 1) (by simp; (first | lia | omega)) (at2_cons.mpr q)
    have h0 := h 0 (by simp)
    cases a with
    | nil =>
      have hx : x ≠ 58 := fun q => h0 (by unfold At2; simp [q])
      show spl2 (x :: 58 :: 58 :: r) = _
      rw [spl2, if_neg (fun q => hx q.1)]
      have ih' : spl2 (58 :: 58 :: r) = [] :: spl2 r := ih
      rw [ih']; rfl
    | cons y a =>
      show spl2 (x :: y :: (a ++ 58 :: 58 :: r)) = _
      rw [spl2, if_neg (fun q => h0 (by unfold At2; simp [q.1, q.2]))]
      have ih' : spl2 (y :: (a ++ 58 :: 58 :: r)) = (y :: a) :: spl2 r := ih
      rw [ih']; rfl
/- ## the model's split is that one -/
section
open StrLaws Builtin Builtin.Str
theorem at_iff (l : List Nat) (i : Nat) : StrLaws.At (⟨l.toArray⟩ : Str) ⟨#[58, 58]⟩ l.length i ↔ At2 l i := by
  unfold StrLaws.At
  rw [subAt_eq]
  have e : (⟨#[58, 58]⟩ : Str).length = 2 := rfl
  rw [e]
  simp only [beq_iff_eq]
  show i + 2 ≤ l.length ∧ (l.drop i).take 2 = [58, 58] ↔ _
  unfold At2
  constructor
  · rintro ⟨h1, h2⟩
    have g1 := congrArg (fun x : List Nat => x[0]?) h2
    have g2 := congrArg (fun x : List Nat => x[1]?) h2
    simp at g1 g2
    exact ⟨g1, g2⟩
  · rintro ⟨h1, h2⟩
    obtain ⟨b1, c1⟩ := List.getElem?_eq_some_iff.mp h1
    obtain ⟨b2, c2⟩ := List.getElem?_eq_some_iff.mp h2
    refine ⟨by (first | lia | omega), ?_⟩
    rw [List.drop_eq_getElem_cons b1, List.drop_eq_getElem_cons b2, c1, c2]; rfl
theorem parts_spl2 (l : List Nat) : ∀ (cuts : List Nat) (a f : Nat), a ≤ l.length → ChainG (⟨l.toArray⟩ : Str) ⟨#[58, 58]⟩ l.length a cuts f → (∀ k, f ≤ k → ¬ At2 l k) →
    (partsFrom (⟨l.toArray⟩ : Str) 2 a cuts).map (fun p => p.cps.toList) = spl2 (l.drop a)
  | [], a, f, ha, h, hn => by
    have e : f = a := h
    subst e
    rw [spl2_free (l := l.drop f) (fun k q => hn (f + k) (by (first | lia | omega)) (by unfold At2 at q ⊢; simpa [List.getElem?_drop, Nat.add_assoc] using q))]
    show [(strSub _ _ _).cps.toList] = _
    rw [strSub_toList]
    show [(l.drop f).take (l.length - f)] = _
    rw [List.take_of_length_le (by simp)]
  | c :: r, a, f, ha, h, hn => by
    refine and4 h fun h1 h2 h3 h4 => ?_
    have h2' := (at_iff l c).mp h2
    obtain ⟨b1, c1⟩ := List.getElem?_eq_some_iff.mp h2'.1
    obtain ⟨b2, c2⟩ := List.getElem?_eq_some_iff.mp h2'.2
    have ih := parts_spl2 l r (c + 2) f (by (first | lia | omega)) h4 hn
    show (strSub _ a c).cps.toList :: (partsFrom _ 2 (c + 2) r).map _ = _
    rw [ih, strSub_toList]
    have e : l.drop a = (l.drop a).take (c - a) ++ 58 :: 58 :: l.drop (c + 2) := by
      conv => lhs; rw [← List.take_append_drop (c - a) (l.drop a)]
      rw [List.drop_drop, show a + (c - a) = c by (first | lia | omega), List.drop_eq_getElem_cons b1, List.drop_eq_getElem_cons b2, c1, c2]
    have hlen : ((l.drop a).take (c - a)).length = c - a := by simp; (first | lia | omega)
    have hf := spl2_first (a := (l.drop a).take (c - a)) (r := l.drop (c + 2)) (fun k hk q => by
      rw [hlen] at hk
      rw [← e] at q
      refine h3 (a + k) (by (first | lia | omega)) (by (first | lia | omega)) ((at_iff l (a + k)).mpr ?_)
      unfold At2 at q ⊢; simpa [List.getElem?_drop, Nat.add_assoc] using q)
    rw [← e] at hf
    exact hf.symm
theorem splS_pair (l : List Nat) (hl : ∀ c ∈ l, c < 256) : splS l [58, 58] = spl2 l := by
  unfold splS Txt.split
  obtain ⟨f, hq1⟩ := (occ_tight (⟨l.toArray⟩ : Str) ⟨#[58, 58]⟩ (by decide))
  refine and2 hq1 fun hG hn => ?_
  clear hq1
  have e : (⟨[58, 58].toArray⟩ : Str) = ⟨#[58, 58]⟩ := rfl
  rw [e]
  have hs : (⟨l.toArray⟩ : Str).length = l.length := str_len l
  rw [hs] at hG hn
  have hn' : ∀ k, f ≤ k → ¬ At2 l k := fun k hk q => hn k hk ((at_iff l k).mpr q)
  split
  · rename_i hc
    rw [spl2_free]
    · simp
    · intro k q
      rw [Bool.or_eq_true, decide_eq_true_eq, decide_eq_true_eq] at hc
      have h2 := (at_iff l k).mpr q
      rcases hc with hc | hc
      · have := h2.1
        rw [hs] at hc
        (first | lia | omega)
      · unfold PySem.Builtin.Str.strKind at hc
        have k1 : l.toArray.all (· < 256) = true := by
          rw [← Array.all_toList]
          exact List.all_eq_true.mpr fun c hc => decide_eq_true (hl c (by simpa using hc))
        have k2 : (#[58, 58] : Array Nat).all (· < 256) = true := by simp
        simp only [k1, k2] at hc
        simp at hc
  · have hcuts := parts_spl2 l (occurrences (⟨l.toArray⟩ : Str) ⟨#[58, 58]⟩ 0 l.length (l.length + 1)) 0 f (Nat.zero_le _) hG hn'
    rw [hs]
    split
    · rename_i hc
      rw [List.isEmpty_iff.mp hc] at hcuts
      rw [List.drop_zero] at hcuts
      rw [← hcuts]
      show [l.toArray.toList] = [(strSub _ 0 l.length).cps.toList]
      rw [strSub_toList]
      show [l.toArray.toList] = [(l.toArray.toList.drop 0).take (l.length - 0)]
      simp
    · rw [partsBetween_eq]
      rw [List.drop_zero] at hcuts
      exact hcuts
end
/- ## how many pairs -/
theorem spl2_cases (l : List Nat) : (Free2 l ∧ spl2 l = [l]) ∨ (∃ a r, l = a ++ 58 :: 58 :: r ∧ spl2 l = a :: spl2 r ∧ Free2 a ∧ a.getLast? ≠ some 58) := by
  by_cases h : Free2 l
  · exact .inl ⟨h, spl2_free h⟩
  right
  have : ∃ k, At2 l k := by
    apply Classical.byContradiction
    intro q
    exact h fun k hk => q ⟨k, hk⟩
  obtain ⟨k, hk, hmin⟩ : ∃ k, At2 l k ∧ ∀ j, j < k → ¬ At2 l j := by
    obtain ⟨k, hk⟩ := this
    induction k using Nat.strongRecOn with
    | ind k ih =>
      by_cases q : ∃ j, j < k ∧ At2 l j
      · obtain ⟨j, hj, hj2⟩ := q; exact ih j hj hj2
      · exact ⟨k, hk, fun j hj hj2 => q ⟨j, hj, hj2⟩⟩
  obtain ⟨b1, c1⟩ := List.getElem?_eq_some_iff.mp hk.1
  obtain ⟨b2, c2⟩ := List.getElem?_eq_some_iff.mp hk.2
  have e : l = l.take k ++ 58 :: 58 :: l.drop (k + 2) := by
    conv => lhs; rw [← List.take_append_drop k l]
    rw [List.drop_eq_getElem_cons b1, List.drop_eq_getElem_cons b2, c1, c2]
  have hlen : (l.take k).length = k := by simp; (first | lia | omega)
  refine ⟨l.take k, l.drop (k + 2), e, ?_, ?_, ?_⟩
  · conv => lhs; rw [e]
    exact spl2_first fun j hj q => hmin j (by rw [hlen] at hj; exact hj) (by rw [e]; exact q)
  · intro j q
    unfold At2 at q
    have hj := (List.getElem?_eq_some_iff.mp q.2).1
    rw [hlen] at hj
    refine hmin j (by (first | lia | omega)) ⟨?_, ?_⟩
    · have := q.1; rw [List.getElem?_take_of_lt (by (first | lia | omega))] at this; exact this
    · have := q.2; rw [List.getElem?_take_of_lt (by (first | lia | omega))] at this; exact this
  · intro q
    rw [List.getLast?_eq_getElem?, hlen] at q
    by_cases hk0 : k = 0
    · subst hk0; simp at q
    · rw [List.getElem?_take_of_lt (by (first | lia | omega))] at q
      exact hmin (k - 1) (by (first | lia | omega)) ⟨q, by rw [show k - 1 + 1 = k by (first | lia | omega)]; exact hk.1⟩
end

/- # L2 -/
section
open PySem PySem.Calls PyProof.Rows PySem.W

/- ## a hexadecimal sign -/
noncomputable def hdN (c : Nat) : Option Nat := match NumText.digit? c with
  | some d => if d < 16 then some d else none
  | none => none
noncomputable def hd? (c : UInt8) : Option Nat := hdN c.toNat
theorem hdN_dig {c d : Nat} (h : hdN c = some d) : NumText.digit? c = some d ∧ d < 16 := by
  unfold hdN at h
  split at h
  · rename_i x hx
    split at h
    · rename_i q; injection h with h; subst h; exact ⟨hx, q⟩
    · (first | exact nn h | exact sn h | exact tf h | exact ft h | cases h)
  · (first | exact nn h | exact sn h | exact tf h | exact ft h | cases h)
theorem hexAt_dig {b : List UInt8} {i : Nat} (h : i < b.length) : hexAt b i = match hd? b[i] with | some d => (d : Int) | none => -1 := by
  have key : ∀ k, k < 256 → findL hexB [Builtin.Bytes.toLower (UInt8.ofNat k)] = match hdN (UInt8.ofNat k).toNat with | some d => (d : Int) | none => -1 := by decide +kernel
  unfold hexAt hd?
  rw [cut_mid _ _ _ (by (first | lia | omega))]
  have e : ((b.drop i).take (i + 1 - i)) = [b[i]] := by
    rw [List.drop_eq_getElem_cons h, show i + 1 - i = 1 by (first | lia | omega)]; rfl
  rw [e]
  have := key b[i].toNat b[i].toNat_lt
  rw [UInt8.ofNat_toNat] at this
  exact this
/- ## octets from pairs of signs -/
noncomputable def pairsL : List UInt8 → Option (List UInt8)
  | [] => some []
  | [_] => none
  | a :: b :: r => match hd? a, hd? b with
    | some x, some y => (pairsL r).map fun z => (x * 16 + y).toUInt8 :: z
    | _, _ => none
theorem pairsL_snoc : ∀ (k : Nat) (l : List UInt8) (a b : UInt8), l.length = 2 * k → pairsL (l ++ [a, b]) = (pairsL l).bind fun ys => (match hd? a, hd? b with | some x, some y => some (x * 16 + y).toUInt8 | _, _ => none).map fun y => ys ++ [y]
  | 0, [], a, b, _ => by
    show pairsL [a, b] = (some []).bind _
    rw [pairsL, Option.bind_some]
    cases hd? a with
    | none => rfl
    | some x =>
      cases hd? b with
      | none => rfl
      | some y => rfl
  | k + 1, c :: d :: r, a, b, h => by
    have ih := pairsL_snoc k r a b (by simp at h; (first | lia | omega))
    show pairsL (c :: d :: (r ++ [a, b])) = _
    rw [pairsL, pairsL, ih]
    cases hd? c with
    | none => rfl
    | some x =>
      cases hd? d with
      | none => rfl
      | some y =>
        cases pairsL r with
        | none => rfl
        | some z =>
          simp only [Option.bind_some, Option.map_some]
          cases hd? a with
          | none => rfl
          | some u => cases hd? b <;> rfl
theorem pairsTo_eq (b : List UInt8) : ∀ i, 2 * i ≤ b.length → pairsTo b i = pairsL (b.take (2 * i))
  | 0, _ => rfl
  | i + 1, h => by
    have ih := pairsTo_eq b i (by (first | lia | omega))
    have h1 : 2 * i < b.length := by (first | lia | omega)
    have h2 : 2 * i + 1 < b.length := by (first | lia | omega)
    have e : b.take (2 * (i + 1)) = b.take (2 * i) ++ [b[2 * i], b[2 * i + 1]] := by
      have a1 := List.take_succ_eq_append_getElem h2
      have a2 := List.take_succ_eq_append_getElem h1
      rw [show 2 * (i + 1) = 2 * i + 1 + 1 by (first | lia | omega), a1, a2, List.append_assoc]; rfl
    rw [e, pairsL_snoc i _ _ _ (by simp; (first | lia | omega)), ← ih, pairsTo]
    congr 1
    funext ys
    unfold pairAt
    rw [hexAt_dig h1, hexAt_dig h2]
    cases q1 : hd? b[2 * i] with
    | none => rfl
    | some x =>
      cases q2 : hd? b[2 * i + 1] with
      | none =>
        have h0 : ¬ ((x : Int) < 0) := by (first | lia | omega)
        simp [h0]
      | some y =>
        have h0 : ¬ ((x : Int) < 0) := by (first | lia | omega)
        have h0' : ¬ ((y : Int) < 0) := by (first | lia | omega)
        simp only [h0, h0', decide_false, Bool.or_false, Bool.false_eq_true, if_false, Option.map_some]
        congr 4
theorem pairsL_append : ∀ (k : Nat) (l m : List UInt8), l.length = 2 * k → pairsL (l ++ m) = (pairsL l).bind fun x => (pairsL m).map fun y => x ++ y
  | 0, [], m, _ => by cases h : pairsL m <;> simp [pairsL, h]
  | k + 1, c :: d :: r, m, h => by
    have ih := pairsL_append k r m (by simp at h; (first | lia | omega))
    show pairsL (c :: d :: (r ++ m)) = _
    rw [pairsL, pairsL, ih]
    cases hd? c with
    | none => rfl
    | some x =>
      cases hd? d with
      | none => rfl
      | some y =>
        cases pairsL r with
        | none => rfl
        | some z => simp only [Option.bind_some, Option.map_some]; cases pairsL m <;> rfl
/- ## a group's octets -/
noncomputable def gval (q : List UInt8) : Nat := valOf 16 (q.map fun c => dig c.toNat)
noncomputable def gocts (v : Nat) : List UInt8 := [(v / 256).toUInt8, (v % 256).toUInt8]
noncomputable def okB (q : List UInt8) : Bool := q.all fun c => (hd? c).isSome
noncomputable def pad (q : List UInt8) : List UInt8 := List.replicate (4 - q.length) 48 ++ q
theorem pairs4 (a b c d : UInt8) : pairsL [a, b, c, d] = if okB [a, b, c, d] = true then some (gocts (gval [a, b, c, d])) else none := by
  unfold okB gval gocts valOf dig
  rw [pairsL, pairsL, pairsL]
  simp only [List.all_cons, List.all_nil, Bool.and_true, List.map_cons, List.map_nil, List.foldl_cons, List.foldl_nil]
  cases qa : hd? a with
  | none => simp
  | some x =>
    cases qb : hd? b with
    | none => simp
    | some y =>
      cases qc : hd? c with
      | none => simp
      | some z =>
        cases qd : hd? d with
        | none => simp
        | some w =>
          obtain ⟨e1, b1⟩ := hdN_dig qa
          obtain ⟨e2, b2⟩ := hdN_dig qb
          obtain ⟨e3, b3⟩ := hdN_dig qc
          obtain ⟨e4, b4⟩ := hdN_dig qd
          simp only [e1, e2, e3, e4, Option.getD_some, Option.isSome_some, Bool.and_self, if_true, Option.map_some, Option.some.injEq, List.cons.injEq, and_true]
          constructor <;> congr 1 <;> (first | lia | omega)
theorem valOf_zeros (ds : List Nat) : ∀ k, valOf 16 (List.replicate k 0 ++ ds) = valOf 16 ds
  | 0 => rfl
  | k + 1 => by
    rw [List.replicate_succ]
    show List.foldl _ (0 * 16 + 0) _ = _
    exact valOf_zeros ds k
theorem gval_pad (q : List UInt8) : gval (pad q) = gval q := by
  unfold gval pad
  rw [List.map_append, List.map_replicate]
  exact valOf_zeros _ _
theorem okB_pad (q : List UInt8) : okB (pad q) = okB q := by
  unfold okB pad
  rw [List.all_append]
  have : (List.replicate (4 - q.length) (48 : UInt8)).all (fun c => (hd? c).isSome) = true := by
    rw [List.all_eq_true]
    intro c hc
    rw [(List.mem_replicate.mp hc).2]; rfl
  rw [this, Bool.true_and]
theorem pairs_pad {q : List UInt8} (h : q.length ≤ 4) : pairsL (pad q) = if okB q = true then some (gocts (gval q)) else none := by
  have hl : (pad q).length = 4 := by unfold pad; simp; (first | lia | omega)
  rw [← okB_pad q, ← gval_pad q]
  generalize pad q = p at hl
  match p, hl with
  | [a, b, c, d], _ => exact pairs4 a b c d
theorem pairs_zero : pairsL zero4 = some (gocts 0) := by decide
/- ## the loop over the groups, as a fold -/
theorem canRun_fold (l : Nat) (cs : List (List UInt8)) : ∀ i, i ≤ cs.length → canRun l cs i = (cs.take i).foldlM (canStep l) (false, [])
  | 0, _ => rfl
  | i + 1, h => by
    rw [canRun, canRun_fold l cs i (by (first | lia | omega)), List.take_succ_eq_append_getElem (by (first | lia | omega)), List.foldlM_append]
    have e : cs.getD i [] = cs[i] := by simp [List.getD, show i < cs.length by (first | lia | omega)]
    rw [e]
    show Option.bind _ _ = Option.bind _ _
    congr 1
    funext s
    show canStep l s cs[i] = Option.bind (canStep l s cs[i]) some
    cases canStep l s cs[i] <;> rfl
theorem fold_full (l : Nat) : ∀ (xs : List (List UInt8)) (s : Bool × List (List UInt8)), (∀ x ∈ xs, x ≠ []) → xs.foldlM (canStep l) s = if (xs.all fun x => decide (x.length ≤ 4)) = true then some (s.1, s.2 ++ xs.map pad) else none
  | [], s, _ => by simp
  | x :: r, s, h => by
    rw [List.foldlM_cons]
    by_cases q : 4 < x.length
    · have e : canStep l s x = none := by unfold canStep; rw [if_neg (h x (by simp)), if_pos q]
      rw [e]
      have : decide (x.length ≤ 4) = false := by simp; (first | lia | omega)
      simp [this]
    · have e : canStep l s x = some (s.1, s.2 ++ [pad x]) := by unfold canStep; rw [if_neg (h x (by simp)), if_neg q]; rfl
      rw [e]
      show List.foldlM _ _ r = _
      rw [fold_full l r _ fun y hy => h y (by simp [hy])]
      have : decide (x.length ≤ 4) = true := by simp; (first | lia | omega)
      simp only [List.all_cons, this, Bool.true_and, List.map_cons, List.append_assoc]
      rfl
/- ## what the groups tell, no empty one, one, two -/
noncomputable def evalB (cs : List (List UInt8)) : Option (List UInt8) :=
  (if 8 < cs.length then none else (cs.foldlM (canStep cs.length) (false, [])).bind fun s => if (decide (cs.length < 8) && !s.1) = true then none else some s.2).bind fun gs => pairsL gs.flatten
noncomputable def okG (q : List UInt8) : Bool := decide (q.length ≤ 4) && okB q
theorem pads_flat {gs : List (List UInt8)} (h4 : ∀ x ∈ gs, x.length = 4) : ∀ {fs : List (List UInt8)}, (∀ x ∈ fs, x.length = 4) → pairsL (fs ++ gs).flatten = (pairsL fs.flatten).bind fun x => (pairsL gs.flatten).map fun y => x ++ y := by
  intro fs hf
  rw [List.flatten_append]
  exact pairsL_append (2 * fs.length) _ _ (by rw [flat4 hf]; (first | lia | omega))
theorem pairs_map : ∀ (xs : List (List UInt8)), (xs.all fun x => decide (x.length ≤ 4)) = true → pairsL (xs.map pad).flatten = if (xs.all okG) = true then some (xs.flatMap fun q => gocts (gval q)) else none
  | [], _ => rfl
  | x :: r, h => by
    rw [List.all_cons, Bool.and_eq_true, decide_eq_true_eq] at h
    have ih := pairs_map r h.2
    have hl : (pad x).length = 2 * 2 := by unfold pad; simp; (first | lia | omega)
    rw [List.map_cons, List.flatten_cons, pairsL_append 2 _ _ hl, pairs_pad h.1, ih]
    have : okG x = okB x := by unfold okG; rw [decide_eq_true h.1, Bool.true_and]
    rw [List.all_cons, this, List.flatMap_cons]
    cases okB x <;> cases r.all okG <;> rfl
theorem all_len {xs : List (List UInt8)} (h : (xs.all okG) = true) : (xs.all fun x => decide (x.length ≤ 4)) = true := by
  rw [List.all_eq_true] at h ⊢
  intro x hx
  have := h x hx
  unfold okG at this
  rw [Bool.and_eq_true] at this
  exact this.1
theorem R1 {xs : List (List UInt8)} (h : ∀ x ∈ xs, x ≠ []) : evalB xs = if xs.length = 8 ∧ (xs.all okG) = true then some (xs.flatMap fun q => gocts (gval q)) else none := by
  unfold evalB
  by_cases h8 : 8 < xs.length
  · rw [if_pos h8, if_neg (fun q => by (first | lia | omega))]; rfl
  rw [if_neg h8, fold_full _ _ _ h]
  by_cases hL : (xs.all fun x => decide (x.length ≤ 4)) = true
  · rw [if_pos hL]
    simp only [Option.bind_some, Bool.not_false, Bool.and_true, List.nil_append]
    by_cases hn : xs.length < 8
    · rw [if_pos (decide_eq_true hn), if_neg (fun q => by (first | lia | omega))]; rfl
    · rw [if_neg (by simp; (first | lia | omega))]
      simp only [Option.bind_some]
      rw [pairs_map xs hL]
      by_cases ho : (xs.all okG) = true
      · rw [if_pos ho, if_pos ⟨by (first | lia | omega), ho⟩]
      · rw [if_neg ho, if_neg fun q => ho q.2]
  · rw [if_neg hL, if_neg fun q => hL (all_len q.2)]; rfl
theorem zeros_pairs : ∀ k, pairsL (List.replicate k zero4).flatten = some ((List.replicate k 0).flatMap gocts)
  | 0 => rfl
  | k + 1 => by
    rw [List.replicate_succ, List.flatten_cons, pairsL_append 2 _ _ rfl, zeros_pairs k, pairs_zero, List.replicate_succ, List.flatMap_cons]; rfl
theorem pad_len {xs : List (List UInt8)} (h : (xs.all fun x => decide (x.length ≤ 4)) = true) : ∀ x ∈ xs.map pad, x.length = 4 := by
  intro x hx
  obtain ⟨y, hy, rfl⟩ := List.mem_map.mp hx
  have := of_decide_eq_true (List.all_eq_true.mp h y hy)
  unfold pad; simp; (first | lia | omega)
theorem R2 {xs ys : List (List UInt8)} (hx : ∀ x ∈ xs, x ≠ []) (hy : ∀ x ∈ ys, x ≠ []) : evalB (xs ++ [] :: ys) = if xs.length + ys.length ≤ 7 ∧ (xs.all okG) = true ∧ (ys.all okG) = true then
    some ((xs.flatMap fun q => gocts (gval q)) ++ (List.replicate (8 - xs.length - ys.length) 0).flatMap gocts ++ (ys.flatMap fun q => gocts (gval q))) else none := by
  unfold evalB
  have hn : (xs ++ [] :: ys).length = xs.length + ys.length + 1 := by simp; (first | lia | omega)
  rw [hn]
  by_cases h8 : 8 < xs.length + ys.length + 1
  · rw [if_pos h8, if_neg (fun q => by (first | lia | omega))]; rfl
  rw [if_neg h8, List.foldlM_append, fold_full _ _ _ hx]
  by_cases hL : (xs.all fun x => decide (x.length ≤ 4)) = true
  · rw [if_pos hL]
    simp only [Option.bind_eq_bind, Option.bind_some, List.foldlM_cons]
    have e1 : canStep (xs.length + ys.length + 1) (false, [] ++ xs.map pad) [] = some (true, xs.map pad ++ List.replicate (9 - (xs.length + ys.length + 1)) zero4) := rfl
    have e1' : canStep (xs.length + ys.length + 1) ((false, ([] : List (List UInt8))).1, (false, ([] : List (List UInt8))).2 ++ xs.map pad) [] = some (true, xs.map pad ++ List.replicate (9 - (xs.length + ys.length + 1)) zero4) := rfl
    rw [e1']
    simp only [Option.bind_some]
    rw [fold_full _ _ _ hy]
    by_cases hM : (ys.all fun x => decide (x.length ≤ 4)) = true
    · rw [if_pos hM]
      simp only [Option.bind_some, Bool.not_true, Bool.and_false, Bool.false_eq_true, if_false]
      have l1 := pad_len hL
      have l2 := pad_len hM
      have l3 : ∀ x ∈ List.replicate (9 - (xs.length + ys.length + 1)) zero4, x.length = 4 := fun x hx => by rw [(List.mem_replicate.mp hx).2]; rfl
      have l4 : ∀ x ∈ xs.map pad ++ List.replicate (9 - (xs.length + ys.length + 1)) zero4, x.length = 4 := fun x hx => by
        rcases List.mem_append.mp hx with h | h
        · exact l1 x h
        · exact l3 x h
      rw [pads_flat l2 l4, pads_flat l3 l1, pairs_map xs hL, pairs_map ys hM, zeros_pairs, show 9 - (xs.length + ys.length + 1) = 8 - xs.length - ys.length by (first | lia | omega)]
      by_cases ho : (xs.all okG) = true
      · rw [if_pos ho]
        by_cases hp : (ys.all okG) = true
        · rw [if_pos hp, if_pos ⟨by (first | lia | omega), ho, hp⟩]; rfl
        · have hno : ¬ (xs.length + ys.length ≤ 7 ∧ (xs.all okG) = true ∧ (ys.all okG) = true) := fun q => hp q.2.2
          rw [if_neg hp, if_neg hno]; rfl
      · have hno : ¬ (xs.length + ys.length ≤ 7 ∧ (xs.all okG) = true ∧ (ys.all okG) = true) := fun q => ho q.2.1
        rw [if_neg ho, if_neg hno]; rfl
    · rw [if_neg hM, if_neg fun q => hM (all_len q.2.2)]; rfl
  · rw [if_neg hL, if_neg fun q => hL (all_len q.2.1)]; rfl
theorem fold_seen (l : Nat) : ∀ (xs : List (List UInt8)) (acc : List (List UInt8)), [] ∈ xs → xs.foldlM (canStep l) (true, acc) = none
  | x :: r, acc, h => by
    rw [List.foldlM_cons]
    by_cases q : x = []
    · subst q; rfl
    · have hr : [] ∈ r := by rcases List.mem_cons.mp h with e | e; exact absurd e.symm q; exact e
      unfold canStep
      rw [if_neg q]
      split
      · rfl
      · exact fold_seen l r _ hr
theorem fold_two (l : Nat) : ∀ (xs zs : List (List UInt8)) (s : Bool × List (List UInt8)), [] ∈ xs → [] ∈ zs → (xs ++ zs).foldlM (canStep l) s = none
  | x :: r, zs, s, h, hz => by
    rw [List.cons_append, List.foldlM_cons]
    by_cases q : x = []
    · subst q
      unfold canStep
      rw [if_pos rfl]
      split
      · rfl
      · exact fold_seen l (r ++ zs) _ (List.mem_append_right _ hz)
    · have hr : [] ∈ r := by rcases List.mem_cons.mp h with e | e; exact absurd e.symm q; exact e
      unfold canStep
      rw [if_neg q]
      split
      · rfl
      · exact fold_two l r zs _ hr hz
theorem R3 {xs zs : List (List UInt8)} (hx : [] ∈ xs) (hz : [] ∈ zs) : evalB (xs ++ zs) = none := by
  unfold evalB
  split
  · rfl
  · rw [fold_two _ xs zs _ hx hz]; rfl
theorem chunks_eval (b : List UInt8) : (chunksOk b).bind (fun cs => pairsTo cs.flatten 16) = evalB (spl 58 b) := by
  have e : chunksOk b = (if 8 < (spl 58 b).length then none else ((spl 58 b).foldlM (canStep (spl 58 b).length) (false, [])).bind fun s => if (decide ((spl 58 b).length < 8) && !s.1) = true then none else some s.2) := by
    unfold chunksOk
    rw [canRun_fold _ _ _ (Nat.le_refl _), List.take_length]
  unfold evalB
  rw [← e]
  cases h : chunksOk b with
  | none => rfl
  | some cs =>
    have := (chunksOk_in h).2
    simp only [Option.bind_some]
    rw [pairsTo_eq _ 16 (by (first | lia | omega)), List.take_of_length_le (by (first | lia | omega))]
end

/- # L3 -/
section
open PySem PySem.Calls PyProof.Rows PySem.W

noncomputable def okP (p : List Nat) : Bool := !badHex p
noncomputable def valP (p : List Nat) : Nat := valOf 16 (p.map dig)
noncomputable def hexs (ps : List (List Nat)) : Option (List Int) := if (ps.all okP) = true then some (ps.map fun p => (valP p : Int)) else none
theorem okP_nil : okP [] = false := by decide
theorem okP_mem {p : List Nat} (h : okP p = true) : p ≠ [] ∧ p.length ≤ 4 ∧ ∀ c ∈ p, c ∈ hexAll := by
  unfold okP badHex at h
  simp only [Bool.not_eq_true', Bool.or_eq_false_iff, Bool.not_eq_false', List.isEmpty_iff, decide_eq_false_iff_not] at h
  obtain ⟨⟨h1, h2⟩, h3⟩ := h
  refine ⟨fun e => by subst e; simp at h1, by (first | lia | omega), fun c hc => ?_⟩
  have := List.filter_eq_nil_iff.mp h3 c hc
  rw [occ_sign] at this
  exact Classical.byContradiction fun q => this (by rw [decide_eq_false q]; rfl)
theorem okP_of {p : List Nat} (h1 : p ≠ []) (h2 : p.length ≤ 4) (h3 : ∀ c ∈ p, c ∈ hexAll) : okP p = true := by
  unfold okP badHex
  simp only [Bool.not_eq_true', Bool.or_eq_false_iff, Bool.not_eq_false', List.isEmpty_iff, decide_eq_false_iff_not]
  refine ⟨⟨by simpa using h1, by (first | lia | omega)⟩, List.filter_eq_nil_iff.mpr fun c hc => ?_⟩
  rw [occ_sign, decide_eq_true (h3 c hc)]; decide
theorem okP_dot {p : List Nat} (h : occ p [46] = true) : okP p = false := by
  cases q : okP p with
  | false => rfl
  | true =>
    rw [occ_sign] at h
    have := (okP_mem q).2.2 46 (of_decide_eq_true h)
    simp at this
theorem gStep_plain {last : Bool} {np i : Nat} {p : List Nat} (h : ¬ ((occ p [46] && last && ((i : Int) == (np : Int) - 1)) = true)) : gStep last np i p = if okP p = true then some [(valP p : Int)] else none := by
  unfold gStep okP
  rw [if_neg h]
  cases badHex p <;> rfl
theorem hexs_cons (p : List Nat) (r : List (List Nat)) : hexs (p :: r) = if okP p = true then (hexs r).map (fun x => [(valP p : Int)] ++ x) else none := by
  unfold hexs
  rw [List.all_cons]
  cases okP p <;> cases r.all okP <;> rfl
theorem gFrom_plain : ∀ (ps : List (List Nat)) (i np : Nat) (last : Bool), i + ps.length = np → (last = true → ∀ z, ps.getLast? = some z → occ z [46] = true → quadF z = none) → gFrom last np i ps = hexs ps
  | [], _, _, _, _, _ => rfl
  | p :: r, i, np, last, hn, hq => by
    have hr : last = true → ∀ z, r.getLast? = some z → occ z [46] = true → quadF z = none := fun hlast z hz => by
      cases r with
      | nil => cases hz
      | cons q r' => exact hq hlast z (by rw [List.getLast?_cons_cons]; exact hz)
    have ih := gFrom_plain r (i + 1) np last (by simp at hn; (first | lia | omega)) hr
    rw [gFrom, ih, hexs_cons]
    by_cases c : (occ p [46] && last && ((i : Int) == (np : Int) - 1)) = true
    · have hstep : gStep last np i p = quadF p := by unfold gStep; rw [if_pos c]
      simp only [Bool.and_eq_true, beq_iff_eq] at c
      obtain ⟨⟨c1, c2⟩, c3⟩ := c
      have hr0 : r = [] := by
        have : r.length = 0 := by simp at hn; (first | lia | omega)
        exact List.eq_nil_of_length_eq_zero this
      subst hr0
      rw [hstep, hq c2 p rfl c1, okP_dot c1]; rfl
    · rw [gStep_plain c]
      cases okP p with
      | false => rfl
      | true => rfl
theorem gFrom_quad {y : List Nat} (hy : occ y [46] = true) : ∀ (ts : List (List Nat)) (i np : Nat), i + ts.length + 1 = np → gFrom true np i (ts ++ [y]) = if (ts.all okP) = true then (quadF y).map (fun vs => (ts.map fun p => (valP p : Int)) ++ vs) else none
  | [], i, np, hn => by
    have hstep : gStep true np i y = quadF y := by
      unfold gStep
      rw [if_pos]
      simp only [Bool.and_eq_true, beq_iff_eq]
      exact ⟨⟨hy, trivial⟩, by simp at hn; (first | lia | omega)⟩
    show gFrom true np i [y] = _
    rw [gFrom, hstep]
    cases quadF y with
    | none => rfl
    | some vs => simp [gFrom]
  | p :: r, i, np, hn => by
    have ih := gFrom_quad hy r (i + 1) np (by simp at hn; (first | lia | omega))
    show gFrom true np i (p :: (r ++ [y])) = _
    rw [gFrom, ih, gStep_plain (by
      simp only [Bool.and_eq_true, beq_iff_eq, not_and]
      intro _
      simp at hn; (first | lia | omega)), List.all_cons]
    cases okP p with
    | false => rfl
    | true =>
      cases r.all okP with
      | false => rfl
      | true =>
        cases quadF y with
        | none => rfl
        | some vs => simp
/- ## the octets of groups -/
theorem toI_map (vs : List Nat) : (toI (vs.map fun (v : Nat) => (v : Int))).map (fun x => x.toNat.toUInt8) = vs.flatMap gocts := by
  induction vs with
  | nil => rfl
  | cons v r ih =>
    unfold toI at ih ⊢
    rw [List.map_cons, List.flatMap_cons, List.flatMap_cons, List.map_append, ih]
    congr 1
    unfold gocts
    simp only [List.map_cons, List.map_nil]
    have h1 : ((v : Int).fdiv 256).toNat = v / 256 := by
      rw [Int.fdiv_eq_ediv_of_nonneg _ (by decide)]; (first | lia | omega)
    have h2 : ((v : Int).fmod 256).toNat = v % 256 := by
      rw [Int.fmod_eq_emod_of_nonneg _ (by decide)]; (first | lia | omega)
    rw [h1, h2]
theorem toI_append (a b : List Int) : toI (a ++ b) = toI a ++ toI b := by unfold toI; rw [List.flatMap_append]
noncomputable def flatV (ps : List (List Nat)) : List UInt8 := ps.flatMap fun p => gocts (valP p)
theorem flatV_toI (ps : List (List Nat)) : (toI (ps.map fun p => (valP p : Int))).map (fun x => x.toNat.toUInt8) = flatV ps := by
  have := toI_map (ps.map valP)
  rw [List.map_map] at this
  unfold flatV
  rw [List.flatMap_map] at this
  exact this
theorem zeros_toI (k : Nat) : (toI (List.replicate k 0)).map (fun x => x.toNat.toUInt8) = (List.replicate k 0).flatMap gocts := by
  have := toI_map (List.replicate k 0)
  rw [List.map_replicate] at this
  exact this
/- ## the law's octets, by the halves -/
theorem oct_one {l : List Nat} {g : List (List Nat)} (h : groupsF l true = hexs g) : (octF [l]).map (fun x => x.map fun y => y.toNat.toUInt8) = if g.length = 8 ∧ (g.all okP) = true then some (flatV g) else none := by
  unfold octF
  rw [if_neg (show ¬ 2 < [l].length by simp), if_pos (show [l].length = 1 from rfl), show [l].getD 0 [] = l from rfl, show ([l].length == 1) = true from rfl, h]
  unfold hexs
  by_cases c : (g.all okP) = true
  · rw [if_pos c]
    dsimp only
    by_cases c8 : g.length = 8
    · rw [show (if g.length = 8 ∧ (g.all okP) = true then some (flatV g) else none) = some (flatV g) from if_pos ⟨c8, c⟩, if_neg]
      · have := flatV_toI g
        simp only [List.length_map, List.length_nil, c8, Option.map_some]
        rw [← this]
        simp
      · simp [c8]
    · rw [show (if g.length = 8 ∧ (g.all okP) = true then some (flatV g) else none) = none from if_neg (fun q => c8 q.1), if_pos]
      · rfl
      · have : ((8 : Int) - (g.length : Int) - 0 != 0) = true := by simp; (first | lia | omega)
        simp only [List.length_map, List.length_nil]
        rw [show ((0 : Nat) : Int) = 0 from rfl, this]; simp
  · rw [show (if g.length = 8 ∧ (g.all okP) = true then some (flatV g) else none) = none from if_neg (fun q => c q.2), if_neg c]; rfl
theorem oct_two {a b : List Nat} {ga gb : List (List Nat)} (ha : groupsF a false = hexs ga) (hb : groupsF b true = hexs gb) : (octF [a, b]).map (fun x => x.map fun y => y.toNat.toUInt8) =
    if ga.length + gb.length ≤ 7 ∧ (ga.all okP) = true ∧ (gb.all okP) = true then some (flatV ga ++ (List.replicate (8 - ga.length - gb.length) 0).flatMap gocts ++ flatV gb) else none := by
  unfold octF
  rw [if_neg (show ¬ 2 < [a, b].length by simp), if_neg (show ¬ [a, b].length = 1 by simp), show [a, b].getD 0 [] = a from rfl, show [a, b].getD 1 [] = b from rfl, show ([a, b].length == 1) = false from rfl, ha, hb]
  unfold hexs
  generalize hR : (if ga.length + gb.length ≤ 7 ∧ (ga.all okP) = true ∧ (gb.all okP) = true then some (flatV ga ++ (List.replicate (8 - ga.length - gb.length) 0).flatMap gocts ++ flatV gb) else none) = R
  by_cases ca : (ga.all okP) = true
  · by_cases cb : (gb.all okP) = true
    · rw [if_pos ca, if_pos cb]
      dsimp only
      by_cases c7 : ga.length + gb.length ≤ 7
      · rw [if_pos ⟨c7, ca, cb⟩] at hR
        rw [← hR, if_neg]
        · simp only [Option.map_some, List.length_map]
          rw [toI_append, toI_append, List.map_append, List.map_append, flatV_toI, flatV_toI, show ((8 : Int) - (ga.length : Int) - (gb.length : Int)).toNat = 8 - ga.length - gb.length by (first | lia | omega), zeros_toI]
        · simp only [List.length_map, Bool.false_and, Bool.false_or, Bool.or_eq_true, Bool.and_eq_true, decide_eq_true_eq, beq_iff_eq, not_or, not_and]
          exact ⟨by (first | lia | omega), fun _ => by (first | lia | omega)⟩
      · rw [if_neg (fun q => c7 q.1)] at hR
        rw [← hR, if_pos]
        · rfl
        · simp only [List.length_map, Bool.false_and, Bool.false_or, Bool.or_eq_true, Bool.and_eq_true, decide_eq_true_eq, beq_iff_eq]
          by_cases q : (8 : Int) - (ga.length : Int) - (gb.length : Int) < 0
          · exact .inl q
          · exact .inr ⟨rfl, by (first | lia | omega)⟩
    · rw [if_neg (fun q => cb q.2.2)] at hR
      rw [← hR, if_pos ca, if_neg cb]; rfl
  · rw [if_neg (fun q => ca q.2.1)] at hR
    rw [← hR, if_neg ca]; rfl
theorem oct_more {hs : List (List Nat)} (h : 2 < hs.length) : octF hs = none := by unfold octF; rw [if_pos h]
/- only the last half's groups are asked -/
theorem oct_last {ini : List (List Nat)} {t u : List Nat} (h : groupsF t true = groupsF u true) : octF (ini ++ [t]) = octF (ini ++ [u]) := by
  rcases ini with _ | ⟨x, _ | ⟨y, r⟩⟩
  · show octF [t] = octF [u]
    unfold octF
    simp [h]
  · show octF [x, t] = octF [x, u]
    unfold octF
    simp [h]
  · rw [oct_more (by simp), oct_more (by simp)]
theorem oct_last_none {ini : List (List Nat)} {t : List Nat} (h : groupsF t true = none) : octF (ini ++ [t]) = none := by
  rcases ini with _ | ⟨x, _ | ⟨y, r⟩⟩
  · show octF [t] = none
    unfold octF
    simp [h]
  · show octF [x, t] = none
    unfold octF
    simp [h]
  · exact oct_more (by simp)
/- ## octets of a text's part -/
theorem hex_sign : ∀ c, c < 256 → ((hdN c).isSome = true ↔ c ∈ hexAll) := by
  have : ∀ c, c < 256 → (hdN c).isSome = decide (c ∈ hexAll) := by decide +kernel
  intro c hc
  rw [this c hc]; simp
theorem enc_low_of {p : List Nat} (h : ∀ c ∈ p, c < 128) : enc p = p.map (·.toUInt8) := enc_low h
theorem toU_nat {c : Nat} (h : c < 256) : c.toUInt8.toNat = c := by simp [Nat.toUInt8]; (first | lia | omega)
theorem okG_enc {p : List Nat} (hp : ∀ c ∈ p, Sgn c) (hne : p ≠ []) : okG (enc p) = okP p := by
  by_cases hlow : ∀ c ∈ p, c < 128
  · rw [enc_low_of hlow]
    unfold okG okB
    rw [List.length_map, List.all_map]
    cases q : okP p with
    | true =>
      refine and3 (okP_mem q) fun h1 h2 h3 => ?_
      rw [decide_eq_true h2, Bool.true_and, List.all_eq_true]
      intro c hc
      show (hdN (c.toUInt8.toNat)).isSome = true
      have := hlow c hc
      rw [toU_nat (by (first | lia | omega))]
      exact (hex_sign c (by (first | lia | omega))).mpr (h3 c hc)
    | false =>
      rw [Bool.eq_false_iff]
      intro e
      rw [Bool.and_eq_true, decide_eq_true_eq, List.all_eq_true] at e
      have : okP p = true := okP_of hne e.1 fun c hc => by
        have h1 := e.2 c hc
        have h2 : (hdN (c.toUInt8.toNat)).isSome = true := h1
        have := hlow c hc
        rw [toU_nat (by (first | lia | omega))] at h2
        exact (hex_sign c (by (first | lia | omega))).mp h2
      rw [q] at this; (first | exact nn this | exact sn this | exact tf this | exact ft this | cases this)
  · have h233 : 233 ∈ p := by
      apply Classical.byContradiction
      intro q
      exact hlow fun c hc => by
        rcases hp c hc with h | h
        · exact h
        · exact absurd (h ▸ hc) q
    have e1 : okP p = false := by
      cases q : okP p with
      | false => rfl
      | true => have := (okP_mem q).2.2 233 h233; simp at this
    rw [e1]
    unfold okG okB
    rw [Bool.and_eq_false_iff]
    right
    rw [Bool.eq_false_iff]
    intro e
    rw [List.all_eq_true] at e
    have h1 : (195 : UInt8) ∈ enc p := List.mem_flatMap.mpr ⟨233, h233, by rw [utf8Of_e]; simp⟩
    have := e 195 h1
    revert this; decide
theorem gval_enc {p : List Nat} (h : okP p = true) : gval (enc p) = valP p := by
  have hlow : ∀ c ∈ p, c < 128 := fun c hc => (hexAll_is c ((okP_mem h).2.2 c hc)).2.2
  rw [enc_low_of hlow]
  unfold gval valP
  rw [List.map_map]
  congr 1
  refine List.map_congr_left fun c hc => ?_
  show dig (c.toUInt8.toNat) = dig c
  rw [toU_nat (Nat.lt_trans (hlow c hc) (by decide))]
theorem enc_ne {p : List Nat} (h : p ≠ []) : enc p ≠ [] := by
  intro q
  have := enc_len_ge p
  rw [q] at this
  cases p with
  | nil => exact h rfl
  | cons a b => simp at this
theorem all_enc {ps : List (List Nat)} (hs : ∀ p ∈ ps, ∀ c ∈ p, Sgn c) (hne : ∀ p ∈ ps, p ≠ []) : (ps.map enc).all okG = ps.all okP := by
  rw [List.all_map]
  induction ps with
  | nil => rfl
  | cons p r ih =>
    rw [List.all_cons, List.all_cons, ih (fun q hq => hs q (by simp [hq])) (fun q hq => hne q (by simp [hq]))]
    congr 1
    exact okG_enc (hs p (by simp)) (hne p (by simp))
theorem flat_enc {ps : List (List Nat)} (h : (ps.all okP) = true) : ((ps.map enc).flatMap fun q => gocts (gval q)) = flatV ps := by
  unfold flatV
  rw [List.flatMap_map]
  induction ps with
  | nil => rfl
  | cons p r ih =>
    rw [List.all_cons, Bool.and_eq_true] at h
    rw [List.flatMap_cons, List.flatMap_cons, ih h.2, gval_enc h.1]
end

/- # L4 -/
section
open PySem PySem.Calls PyProof.Rows PySem.W

theorem spl_cat (c : Nat) : ∀ (x y : List Nat), spl c (x ++ c :: y) = spl c x ++ spl c y
  | [], y => by show spl c (c :: y) = [[]] ++ _; rw [spl, if_pos rfl]; rfl
  | a :: x, y => by
    have ih := spl_cat c x y
    show spl c (a :: (x ++ c :: y)) = spl c (a :: x) ++ _
    rw [spl, spl, ih]
    by_cases q : a = c
    · rw [if_pos q, if_pos q]; rfl
    · rw [if_neg q, if_neg q]
      cases h : spl c x with
      | nil => exact absurd h (spl_ne _ _)
      | cons p ps => rfl
theorem spl_pair (a r : List Nat) : spl 58 (a ++ 58 :: 58 :: r) = spl 58 a ++ [] :: spl 58 r := by
  rw [spl_cat]
  rfl
/- ## trimming -/
noncomputable def trimN (l : List Nat) : List Nat := if [58, 58].isPrefixOf l = true then l.drop 1 else if [58, 58].isSuffixOf l = true then l.dropLast else l
theorem enc_one : enc [58] = [58] := by decide
theorem pre_enc {l : List Nat} (hl : ∀ c ∈ l, Sgn c) : ([58, 58] : List UInt8).isPrefixOf (enc l) = ([58, 58] : List Nat).isPrefixOf l := by
  rw [Bool.eq_iff_iff, List.isPrefixOf_iff_prefix, List.isPrefixOf_iff_prefix]
  constructor
  · rintro ⟨r, hr⟩
    obtain ⟨l1, l2, e1, e2, e3⟩ := enc_split hl (d := 58) (by decide) (x := []) (y := 58 :: r) (by rw [← hr]; rfl)
    have h1 : l1 = [] := by
      apply Classical.byContradiction; intro q; exact enc_ne q e2.symm
    subst h1
    have hl2 : ∀ c ∈ l2, Sgn c := fun c hc => hl c (by rw [e1]; simp [hc])
    obtain ⟨l3, l4, f1, f2, f3⟩ := enc_split hl2 (d := 58) (by decide) (x := []) (y := r) (by rw [← e3]; rfl)
    have h3 : l3 = [] := by
      apply Classical.byContradiction; intro q; exact enc_ne q f2.symm
    subst h3
    exact ⟨l4, by rw [e1, f1]; rfl⟩
  · rintro ⟨r, rfl⟩
    exact ⟨enc r, by rw [enc_append]; rfl⟩
theorem suf_enc {l : List Nat} (hl : ∀ c ∈ l, Sgn c) : ([58, 58] : List UInt8).isSuffixOf (enc l) = ([58, 58] : List Nat).isSuffixOf l := by
  rw [Bool.eq_iff_iff, List.isSuffixOf_iff_suffix, List.isSuffixOf_iff_suffix]
  constructor
  · rintro ⟨r, hr⟩
    obtain ⟨l1, l2, e1, e2, e3⟩ := enc_split hl (d := 58) (by decide) (x := r ++ [58]) (y := []) (by rw [← hr]; simp [Nat.toUInt8])
    have h2 : l2 = [] := by
      apply Classical.byContradiction; intro q; exact enc_ne q e3.symm
    subst h2
    have hl1 : ∀ c ∈ l1, Sgn c := fun c hc => hl c (by rw [e1]; simp [hc])
    obtain ⟨l3, l4, f1, f2, f3⟩ := enc_split hl1 (d := 58) (by decide) (x := r) (y := []) (by rw [← e2]; simp [Nat.toUInt8])
    have h4 : l4 = [] := by
      apply Classical.byContradiction; intro q; exact enc_ne q f3.symm
    subst h4
    exact ⟨l3, by rw [e1, f1]; simp⟩
  · rintro ⟨r, rfl⟩
    exact ⟨enc r, by rw [enc_append]; rfl⟩
theorem suf1_enc {l : List Nat} (hl : ∀ c ∈ l, Sgn c) : ([58] : List UInt8).isSuffixOf (enc l) = ([58] : List Nat).isSuffixOf l := by
  rw [Bool.eq_iff_iff, List.isSuffixOf_iff_suffix, List.isSuffixOf_iff_suffix]
  constructor
  · rintro ⟨r, hr⟩
    obtain ⟨l1, l2, e1, e2, e3⟩ := enc_split hl (d := 58) (by decide) (x := r) (y := []) (by rw [← hr]; simp [Nat.toUInt8])
    have h2 : l2 = [] := by
      apply Classical.byContradiction; intro q; exact enc_ne q e3.symm
    subst h2
    exact ⟨l1, by rw [e1]⟩
  · rintro ⟨r, rfl⟩
    exact ⟨enc r, by rw [enc_append]; rfl⟩
theorem pre1_enc {l : List Nat} (hl : ∀ c ∈ l, Sgn c) : ([58] : List UInt8).isPrefixOf (enc l) = ([58] : List Nat).isPrefixOf l := by
  rw [Bool.eq_iff_iff, List.isPrefixOf_iff_prefix, List.isPrefixOf_iff_prefix]
  constructor
  · rintro ⟨r, hr⟩
    obtain ⟨l1, l2, e1, e2, e3⟩ := enc_split hl (d := 58) (by decide) (x := []) (y := r) (by rw [← hr]; rfl)
    have h1 : l1 = [] := by
      apply Classical.byContradiction; intro q; exact enc_ne q e2.symm
    subst h1
    exact ⟨l2, by rw [e1]; rfl⟩
  · rintro ⟨r, rfl⟩
    exact ⟨enc r, by rw [enc_append]; rfl⟩
theorem trim_enc {l : List Nat} (hl : ∀ c ∈ l, Sgn c) : trimF (enc l) = enc (trimN l) := by
  unfold trimF trimN
  rw [startsL_eq, endsL_eq, pre_enc hl, suf_enc hl]
  by_cases h1 : ([58, 58] : List Nat).isPrefixOf l = true
  · rw [if_pos h1, if_pos h1]
    obtain ⟨r, rfl⟩ := List.isPrefixOf_iff_prefix.mp h1
    have := cut_drop (enc ([58, 58] ++ r)) 1
    rw [show cut (enc ([58, 58] ++ r)) (some 1) none = (enc ([58, 58] ++ r)).drop 1 from this, enc_append]
    show _ = enc (58 :: r)
    rw [enc_cons]; rfl
  · rw [if_neg h1, if_neg h1]
    by_cases h2 : ([58, 58] : List Nat).isSuffixOf l = true
    · rw [if_pos h2, if_pos h2, cut_last]
      obtain ⟨r, rfl⟩ := List.isSuffixOf_iff_suffix.mp h2
      rw [show r ++ [58, 58] = (r ++ [58]) ++ [58] by simp, List.dropLast_concat, enc_append, enc_one, List.dropLast_concat]
    · rw [if_neg h2, if_neg h2]
/- what the groups of a text tell -/
noncomputable def TT (l : List Nat) : Option (List UInt8) := evalB ((spl 58 (trimN l)).map enc)
theorem tail_eval {l : List Nat} (hl : ∀ c ∈ l, Sgn c) : (chunksOk (trimF (enc l))).bind (fun cs => pairsTo cs.flatten 16) = TT l := by
  rw [chunks_eval, trim_enc hl]
  unfold TT
  have hs : ∀ c ∈ trimN l, Sgn c := fun c hc => by
    unfold trimN at hc
    split at hc
    · exact hl c (List.mem_of_mem_drop hc)
    · split at hc
      · exact hl c (List.dropLast_subset l hc)
      · exact hl c hc
  have := enc_spl hs (d := 58) (by decide)
  rw [show (58 : Nat).toUInt8 = (58 : UInt8) from rfl] at this
  rw [this]
/- ## empty parts -/
theorem empty_tail : ∀ {l : List Nat}, [] ∈ (spl 58 l).tail → l.getLast? = some 58 ∨ ∃ k, At2 l k
  | [], h => by simp [spl] at h
  | x :: r, h => by
    by_cases q : x = 58
    · subst q
      rw [spl, if_pos rfl] at h
      have h' : [] ∈ spl 58 r := h
      cases hr : spl 58 r with
      | nil => exact absurd hr (spl_ne _ _)
      | cons p ps =>
        rw [hr] at h'
        rcases List.mem_cons.mp h' with e | e
        · cases r with
          | nil => exact .inl rfl
          | cons y r' =>
            by_cases qy : y = 58
            · exact .inr ⟨0, by unfold At2; simp [qy]⟩
            · rw [spl, if_neg qy] at hr
              exfalso
              cases h2 : spl 58 r' with
              | nil => exact absurd h2 (spl_ne _ _)
              | cons p2 ps2 =>
                rw [h2] at hr
                have := (List.cons.inj hr).1
                rw [← this] at e; (first | exact nn e | exact sn e | exact tf e | exact ft e | cases e)
        · rcases empty_tail (l := r) (by rw [hr]; exact e) with h1 | ⟨k, hk⟩
          · left
            cases r with
            | nil => cases h1
            | cons y r' => rw [List.getLast?_cons_cons]; exact h1
          · exact .inr ⟨k + 1, at2_cons.mpr hk⟩
    · rw [spl, if_neg q] at h
      cases hr : spl 58 r with
      | nil => exact absurd hr (spl_ne _ _)
      | cons p ps =>
        rw [hr] at h
        have h' : [] ∈ ps := h
        rcases empty_tail (l := r) (by rw [hr]; exact h') with h1 | ⟨k, hk⟩
        · left
          cases r with
          | nil => cases h1
          | cons y r' => rw [List.getLast?_cons_cons]; exact h1
        · exact .inr ⟨k + 1, at2_cons.mpr hk⟩
theorem empty_part {l : List Nat} (h : [] ∈ spl 58 l) : l = [] ∨ l.head? = some 58 ∨ l.getLast? = some 58 ∨ ∃ k, At2 l k := by
  cases l with
  | nil => exact .inl rfl
  | cons x r =>
    by_cases q : x = 58
    · exact .inr (.inl (by rw [q]; rfl))
    · refine .inr (.inr (empty_tail ?_))
      cases hr : spl 58 r with
      | nil => exact absurd hr (spl_ne _ _)
      | cons p ps =>
        rw [spl, if_neg q, hr] at h ⊢
        rcases List.mem_cons.mp h with e | e
        · (first | exact nn e | exact sn e | exact tf e | exact ft e | cases e)
        · exact e
theorem spl_sgn {l : List Nat} (hl : ∀ c ∈ l, Sgn c) : ∀ p ∈ spl 58 l, ∀ c ∈ p, Sgn c := by
  intro p hp c hc
  refine hl c ?_
  have := glue_spl 58 l
  rw [← this]
  generalize spl 58 l = ps at hp
  induction ps with
  | nil => cases hp
  | cons q r ih =>
    cases r with
    | nil =>
      rw [List.mem_singleton.mp hp] at hc; exact hc
    | cons q2 r =>
      show c ∈ q ++ [58] ++ glue [58] (q2 :: r)
      rcases List.mem_cons.mp hp with e | e
      · subst e; simp [hc]
      · exact List.mem_append_right _ (ih e)
theorem okP_not {ps : List (List Nat)} (h : [] ∈ ps) : hexs ps = none := by
  unfold hexs
  rw [if_neg]
  intro q
  have := List.all_eq_true.mp q [] h
  rw [okP_nil] at this; (first | exact nn this | exact sn this | exact tf this | exact ft this | cases this)
theorem groups_plain {t : List Nat} {last : Bool} (hne : t ≠ []) (hq : last = true → ∀ z, (spl 58 t).getLast? = some z → occ z [46] = true → quadF z = none) : groupsF t last = hexs (spl 58 t) := by
  unfold groupsF
  rw [if_neg hne]
  exact gFrom_plain _ 0 _ last (by (first | lia | omega)) hq
/- the parts of a half -/
noncomputable def PP (t : List Nat) : List (List Nat) := if t = [] then [] else spl 58 t
theorem groups_PP {t : List Nat} {last : Bool} (hq : last = true → ∀ z, (spl 58 t).getLast? = some z → occ z [46] = true → quadF z = none) : groupsF t last = hexs (PP t) := by
  unfold PP
  by_cases h : t = []
  · rw [if_pos h, h]; rfl
  · rw [if_neg h]; exact groups_plain h hq
theorem map_mem_nil {ps : List (List Nat)} (h : [] ∈ ps) : ([] : List UInt8) ∈ ps.map enc := List.mem_map.mpr ⟨[], h, rfl⟩
/- two halves without an empty part -/
theorem halves_ok {pa pb : List (List Nat)} (sa : ∀ p ∈ pa, ∀ c ∈ p, Sgn c) (sb : ∀ p ∈ pb, ∀ c ∈ p, Sgn c) (ha : ∀ p ∈ pa, p ≠ []) (hb : ∀ p ∈ pb, p ≠ []) : evalB ((pa ++ [] :: pb).map enc) =
    if pa.length + pb.length ≤ 7 ∧ (pa.all okP) = true ∧ (pb.all okP) = true then some (flatV pa ++ (List.replicate (8 - pa.length - pb.length) 0).flatMap gocts ++ flatV pb) else none := by
  rw [List.map_append, List.map_cons, show enc [] = [] from rfl, R2 (fun x hx => by
      obtain ⟨p, hp, rfl⟩ := List.mem_map.mp hx; exact enc_ne (ha p hp)) (fun x hx => by
      obtain ⟨p, hp, rfl⟩ := List.mem_map.mp hx; exact enc_ne (hb p hp)), List.length_map, List.length_map, all_enc sa ha, all_enc sb hb]
  by_cases c : pa.length + pb.length ≤ 7 ∧ (pa.all okP) = true ∧ (pb.all okP) = true
  · rw [if_pos c, if_pos c, flat_enc c.2.1, flat_enc c.2.2]
  · rw [if_neg c, if_neg c]
theorem head_not_pair {a r : List Nat} (h1 : a ≠ []) (h2 : Free2 a) (h3 : a.getLast? ≠ some 58) : ([58, 58] : List Nat).isPrefixOf (a ++ 58 :: 58 :: r) = false := by
  rw [Bool.eq_false_iff]
  intro q
  obtain ⟨s, hs⟩ := List.isPrefixOf_iff_prefix.mp q
  match a, h1 with
  | [x], _ =>
    have : x = 58 := by have := congrArg List.head? hs; simpa using this.symm
    exact h3 (by rw [this]; rfl)
  | x :: y :: a', _ =>
    have e0 := congrArg (fun l : List Nat => l[0]?) hs
    have e1 := congrArg (fun l : List Nat => l[1]?) hs
    simp at e0 e1
    exact h2 0 (by unfold At2; simp [← e0, ← e1])
theorem free2_last {r : List Nat} (h : Free2 r) (hne : r ≠ []) {a : List Nat} (hs : ([58, 58] : List Nat).isSuffixOf (a ++ 58 :: 58 :: r) = true) : r = [58] := by
  obtain ⟨s, hs⟩ := List.isSuffixOf_iff_suffix.mp hs
  have e1 := congrArg List.reverse hs
  simp only [List.reverse_append, List.reverse_cons, List.append_assoc, List.reverse_nil, List.nil_append] at e1
  rcases List.eq_nil_or_concat r with q | ⟨r1, x, q⟩
  · exact absurd q hne
  subst q
  simp only [List.concat_eq_append, List.reverse_append, List.reverse_cons, List.reverse_nil, List.nil_append, List.cons_append, List.singleton_append] at e1
  have hx : x = 58 := by have := congrArg List.head? e1; simpa using this.symm
  rcases List.eq_nil_or_concat r1 with q | ⟨r2, y, q⟩
  · subst q; subst hx; rfl
  · subst q
    simp only [List.concat_eq_append, List.reverse_append, List.reverse_cons, List.reverse_nil, List.nil_append, List.cons_append, List.singleton_append] at e1
    have hy : y = 58 := by
      have := congrArg (fun l : List Nat => l[1]?) e1
      simpa using this.symm
    exfalso
    subst hx hy
    refine h r2.length ?_
    unfold At2
    simp
end

/- # L5 -/
section
open PySem PySem.Calls PyProof.Rows PySem.W

noncomputable def octetsN (l : List Nat) : Option (List UInt8) := (octF (spl2 l)).map fun x => x.map fun y => y.toNat.toUInt8
theorem octets_N {l : List Nat} (hl : ∀ c ∈ l, Sgn c) : octetsF l = octetsN l := by
  unfold octetsF octetsN
  rw [splS_pair l fun c hc => by rcases hl c hc with h | h <;> (first | lia | omega)]
theorem oct_two_none {a b : List Nat} (h : groupsF a false = none ∨ groupsF b true = none) : octF [a, b] = none := by
  unfold octF
  rw [if_neg (show ¬ 2 < [a, b].length by simp), if_neg (show ¬ [a, b].length = 1 by simp), show [a, b].getD 0 [] = a from rfl, show [a, b].getD 1 [] = b from rfl, show ([a, b].length == 1) = false from rfl]
  rcases h with h | h
  · rw [h]
  · rw [h]; cases groupsF a false <;> rfl
theorem last_of_pair {a r : List Nat} : (spl 58 (a ++ 58 :: 58 :: r)).getLast? = (spl 58 r).getLast? := by
  rw [spl_pair, show spl 58 a ++ [] :: spl 58 r = (spl 58 a ++ [[]]) ++ spl 58 r by simp, List.getLast?_append]
  cases h : spl 58 r with
  | nil => exact absurd h (spl_ne _ _)
  | cons p ps => rw [List.getLast?_cons]; rfl
/- the groups tell the law's octets, where no dotted quad ends the text -/
theorem main_eq {l : List Nat} (hl : ∀ c ∈ l, Sgn c) (h0 : l ≠ []) (h2 : l ≠ [58, 58]) (hE : ([58] : List Nat).isSuffixOf l = true → ([58, 58] : List Nat).isSuffixOf l = true)
    (hS : ([58] : List Nat).isPrefixOf l = true → ([58, 58] : List Nat).isPrefixOf l = true) (hq : ∀ z, (spl 58 l).getLast? = some z → occ z [46] = true → quadF z = none) : TT l = octetsN l := by
  unfold TT octetsN
  rcases spl2_cases l with ⟨hf, e⟩ | ⟨a, r, e, e2, fa, la⟩
  · rw [e]
    have np : ([58, 58] : List Nat).isPrefixOf l = false := by
      rw [Bool.eq_false_iff]; intro q
      obtain ⟨s, rfl⟩ := List.isPrefixOf_iff_prefix.mp q
      exact hf 0 (by unfold At2; simp)
    have ns : ([58, 58] : List Nat).isSuffixOf l = false := by
      rw [Bool.eq_false_iff]; intro q
      obtain ⟨s, rfl⟩ := List.isSuffixOf_iff_suffix.mp q
      exact hf s.length (by unfold At2; simp)
    have ht : trimN l = l := by unfold trimN; rw [np, ns]; rfl
    rw [ht]
    have hne : [] ∉ spl 58 l := fun q => by
      rcases empty_part q with h | h | h | ⟨k, hk⟩
      · exact h0 h
      · cases l with
        | nil => exact h0 rfl
        | cons x r =>
          have hx : x = 58 := by simpa using h
          have := hS (by subst hx; rfl)
          rw [np] at this; (first | exact nn this | exact sn this | exact tf this | exact ft this | cases this)
      · have := hE (by
          rw [List.isSuffixOf_iff_suffix]
          rcases List.eq_nil_or_concat l with q | ⟨r1, x, q⟩
          · exact absurd q h0
          · subst q
            have hx : x = 58 := by simpa using h
            exact ⟨r1, by rw [hx]; simp⟩)
        rw [ns] at this; (first | exact nn this | exact sn this | exact tf this | exact ft this | cases this)
      · exact hf k hk
    have hne' : ∀ p ∈ spl 58 l, p ≠ [] := fun p hp q => hne (q ▸ hp)
    rw [oct_one (groups_plain h0 fun _ => hq), R1 (fun x hx => by
      obtain ⟨p, hp, rfl⟩ := List.mem_map.mp hx; exact enc_ne (hne' p hp)), List.length_map, all_enc (spl_sgn hl) hne']
    by_cases c : (spl 58 l).length = 8 ∧ ((spl 58 l).all okP) = true
    · rw [if_pos c, if_pos c, flat_enc c.2]
    · rw [if_neg c, if_neg c]
  · have hsa : ∀ c ∈ a, Sgn c := fun c hc => hl c (by rw [e]; simp [hc])
    have hsr : ∀ c ∈ r, Sgn c := fun c hc => hl c (by rw [e]; simp [hc])
    have hspl : spl 58 l = spl 58 a ++ [] :: spl 58 r := by rw [e, spl_pair]
    have hqr : ∀ z, (spl 58 r).getLast? = some z → occ z [46] = true → quadF z = none := fun z hz => hq z (by rw [e, last_of_pair]; exact hz)
    -- the trimmed text's parts
    have hparts : (a = [] ∧ spl 58 (trimN l) = [] :: spl 58 r) ∨ (a ≠ [] ∧ ([58, 58] : List Nat).isSuffixOf l = true ∧ r = [] ∧ spl 58 (trimN l) = spl 58 a ++ [[]]) ∨
        (a ≠ [] ∧ r ≠ [] ∧ ([58, 58] : List Nat).isSuffixOf l = true ∧ spl 58 (trimN l) = spl 58 a ++ [] :: spl 58 r.dropLast) ∨ (a ≠ [] ∧ r ≠ [] ∧ spl 58 (trimN l) = spl 58 a ++ [] :: spl 58 r) := by
      by_cases ha : a = []
      · left
        refine ⟨ha, ?_⟩
        subst ha
        have : trimN l = 58 :: r := by
          unfold trimN
          rw [e, if_pos (by rfl)]; rfl
        rw [this, spl, if_pos rfl]
      · right
        have np : ([58, 58] : List Nat).isPrefixOf l = false := by rw [e]; exact head_not_pair ha fa la
        by_cases hs : ([58, 58] : List Nat).isSuffixOf l = true
        · have ht : trimN l = l.dropLast := by unfold trimN; rw [np, if_neg (by decide), if_pos hs]
          by_cases hr : r = []
          · left
            refine ⟨ha, hs, hr, ?_⟩
            rw [ht, e, hr, show a ++ [58, 58] = (a ++ [58]) ++ [58] by simp, List.dropLast_concat, spl_cat]; rfl
          · right; left
            refine ⟨ha, hr, hs, ?_⟩
            rw [ht, e, List.dropLast_append_of_ne_nil (by simp), List.dropLast_cons_of_ne_nil (by simp), List.dropLast_cons_of_ne_nil hr, spl_pair]
        · right; right
          have hr : r ≠ [] := fun q => hs (by rw [e, q, List.isSuffixOf_iff_suffix]; exact ⟨a, rfl⟩)
          refine ⟨ha, hr, ?_⟩
          have ht : trimN l = l := by unfold trimN; rw [np, if_neg (by decide), if_neg hs]
          rw [ht, hspl]
    rw [e2]
    rcases spl2_cases r with ⟨fr, er⟩ | ⟨b, c, er, er2, _, _⟩
    · rw [er]
      have hga : groupsF a false = hexs (PP a) := groups_PP (by intro q; (first | exact nn q | exact sn q | exact tf q | exact ft q | cases q))
      have hgr : groupsF r true = hexs (PP r) := groups_PP fun _ => hqr
      -- an empty part in a half
      have hbadA : a ≠ [] → [] ∈ spl 58 a → (octF [a, r]).map (fun x => x.map fun y => y.toNat.toUInt8) = none := fun h1 h2 => by
        rw [oct_two_none (.inl (by rw [hga]; unfold PP; rw [if_neg h1]; exact okP_not h2))]; rfl
      have hbadR : r ≠ [] → [] ∈ spl 58 r → (octF [a, r]).map (fun x => x.map fun y => y.toNat.toUInt8) = none := fun h1 h2 => by
        rw [oct_two_none (.inr (by rw [hgr]; unfold PP; rw [if_neg h1]; exact okP_not h2))]; rfl
      have good : ∀ {pa pb : List (List Nat)}, pa = PP a → pb = PP r → (∀ p ∈ pa, p ≠ []) → (∀ p ∈ pb, p ≠ []) → (∀ p ∈ pa, ∀ c ∈ p, Sgn c) → (∀ p ∈ pb, ∀ c ∈ p, Sgn c) → evalB ((pa ++ [] :: pb).map enc) = (octF [a, r]).map (fun x => x.map fun y => y.toNat.toUInt8) := by
        intro pa pb h1 h2 h3 h4 h5 h6
        have ga' : groupsF a false = hexs pa := by rw [h1]; exact hga
        have gr' : groupsF r true = hexs pb := by rw [h2]; exact hgr
        rw [halves_ok h5 h6 h3 h4, oct_two ga' gr']
      rcases hparts with ⟨ha, hp⟩ | ⟨ha, hs, hr, hp⟩ | ⟨ha, hr, hs, hp⟩ | ⟨ha, hr, hp⟩
      · have hr : r ≠ [] := fun q => h2 (by rw [e, ha, q]; rfl)
        rw [hp]
        by_cases q : [] ∈ spl 58 r
        · rw [hbadR hr q]
          show evalB (([] : List UInt8) :: (spl 58 r).map enc) = none
          exact R3 (xs := [[]]) (by simp) (map_mem_nil q)
        · exact good (pa := []) (by rw [ha]; rfl) (by unfold PP; rw [if_neg hr]) (fun _ h => by (first | exact nn h | exact sn h | exact tf h | exact ft h | cases h)) (fun p hp q' => q (q' ▸ hp)) (fun _ h => by (first | exact nn h | exact sn h | exact tf h | exact ft h | cases h)) (spl_sgn hsr)
      · rw [hp]
        by_cases q : [] ∈ spl 58 a
        · rw [hbadA ha q, List.map_append]
          exact R3 (map_mem_nil q) (map_mem_nil (by simp))
        · exact good (pa := spl 58 a) (pb := []) (by unfold PP; rw [if_neg ha]) (by rw [hr]; rfl) (fun p hp q' => q (q' ▸ hp)) (fun _ h => by (first | exact nn h | exact sn h | exact tf h | exact ft h | cases h)) (spl_sgn hsa) (fun _ h => by (first | exact nn h | exact sn h | exact tf h | exact ft h | cases h))
      · have hr58 : r = [58] := free2_last fr hr (by rw [← e]; exact hs)
        rw [hp, hbadR hr (by rw [hr58]; decide), hr58]
        rw [show spl 58 a ++ [] :: spl 58 ([58] : List Nat).dropLast = (spl 58 a ++ [[]]) ++ [[]] by simp [spl], List.map_append]
        exact R3 (map_mem_nil (by simp)) (map_mem_nil (by simp))
      · rw [hp]
        by_cases q : [] ∈ spl 58 a
        · rw [hbadA ha q, List.map_append]
          exact R3 (map_mem_nil q) (map_mem_nil (by simp))
        · by_cases q2 : [] ∈ spl 58 r
          · rw [hbadR hr q2, show spl 58 a ++ [] :: spl 58 r = (spl 58 a ++ [[]]) ++ spl 58 r by simp, List.map_append]
            exact R3 (map_mem_nil (by simp)) (map_mem_nil q2)
          · exact good (by unfold PP; rw [if_neg ha]) (by unfold PP; rw [if_neg hr]) (fun p hp q' => q (q' ▸ hp)) (fun p hp q' => q2 (q' ▸ hp)) (spl_sgn hsa) (spl_sgn hsr)
    · -- two pairs or more
      have hmore : 2 < (a :: spl2 r).length := by
        rw [er2]
        have := spl2_ne c
        cases h : spl2 c with
        | nil => exact absurd h this
        | cons p ps => simp
      rw [oct_more hmore]
      have hrr : [] ∈ spl 58 r := by rw [er, spl_pair]; simp
      have hr : r ≠ [] := by rw [er]; simp
      show evalB _ = none
      rcases hparts with ⟨ha, hp⟩ | ⟨ha, hs, hr', hp⟩ | ⟨ha, hr, hs, hp⟩ | ⟨ha, hr, hp⟩
      · rw [hp]
        show evalB (([] : List UInt8) :: (spl 58 r).map enc) = none
        exact R3 (xs := [[]]) (by simp) (map_mem_nil hrr)
      · exact absurd hr' hr
      · rw [hp, show spl 58 a ++ [] :: spl 58 r.dropLast = (spl 58 a ++ [[]]) ++ spl 58 r.dropLast by simp, List.map_append]
        refine R3 (map_mem_nil (by simp)) (map_mem_nil ?_)
        rw [er]
        by_cases hc : c = []
        · rw [hc, show b ++ [58, 58] = (b ++ [58]) ++ [58] by simp, List.dropLast_concat, spl_cat]; simp [spl]
        · rw [List.dropLast_append_of_ne_nil (by simp), List.dropLast_cons_of_ne_nil (by simp), List.dropLast_cons_of_ne_nil hc, spl_pair]; simp
      · rw [hp, show spl 58 a ++ [] :: spl 58 r = (spl 58 a ++ [[]]) ++ spl 58 r by simp, List.map_append]
        exact R3 (map_mem_nil (by simp)) (map_mem_nil hrr)
end

/- # L6 -/
section
open PySem PySem.Calls PyProof.Rows PySem.W

/- ## a last part replaced -/
noncomputable def appL (w : List Nat) : List (List Nat) → List (List Nat)
  | [] => [w]
  | [t] => [t ++ w]
  | t :: u :: r => t :: appL w (u :: r)
theorem appL_concat (w t : List Nat) : ∀ ini : List (List Nat), appL w (ini ++ [t]) = ini ++ [t ++ w]
  | [] => rfl
  | [a] => rfl
  | a :: b :: r => by
    show a :: appL w (b :: (r ++ [t])) = _
    have := appL_concat w t (b :: r)
    rw [show (b :: (r ++ [t])) = (b :: r) ++ [t] from rfl, this]; rfl
theorem appL_conH (w : List Nat) (x : Nat) {hs : List (List Nat)} (h : hs ≠ []) : appL w (conH x hs) = conH x (appL w hs) := by
  match hs, h with
  | [p], _ => rfl
  | p :: q :: r, _ => rfl
theorem spl2_app {w : List Nat} (hw : Free2 w) (h58 : w.head? ≠ some 58) : ∀ p : List Nat, spl2 (p ++ w) = appL w (spl2 p)
  | [] => by rw [List.nil_append, spl2_free hw]; rfl
  | [x] => by
    show spl2 (x :: w) = [[x] ++ w]
    cases w with
    | nil => rfl
    | cons y w =>
      have hy : y ≠ 58 := fun q => h58 (by rw [q]; rfl)
      rw [spl2, if_neg (fun q => hy q.2), spl2_free hw]; rfl
  | x :: y :: r => by
    show spl2 (x :: y :: (r ++ w)) = _
    rw [spl2, spl2]
    by_cases q : x = 58 ∧ y = 58
    · rw [if_pos q, if_pos q, spl2_app hw h58 r]
      cases h : spl2 r with
      | nil => exact absurd h (spl2_ne r)
      | cons p ps => rfl
    · rw [if_neg q, if_neg q]
      have := spl2_app hw h58 (y :: r)
      rw [show y :: (r ++ w) = (y :: r) ++ w from rfl, this, appL_conH _ _ (spl2_ne _)]
theorem spl2_colon : ∀ p : List Nat, ∃ ini t, spl2 (p ++ [58]) = ini ++ [t] ∧ (t = [] ∨ ∃ t', t = t' ++ [58])
  | [] => ⟨[], [58], rfl, .inr ⟨[], rfl⟩⟩
  | [x] => by
    show ∃ ini t, spl2 [x, 58] = ini ++ [t] ∧ _
    rw [spl2]
    by_cases q : x = 58 ∧ (58 : Nat) = 58
    · rw [if_pos q]; exact ⟨[[]], [], rfl, .inl rfl⟩
    · rw [if_neg q]; exact ⟨[], [x, 58], rfl, .inr ⟨[x], rfl⟩⟩
  | x :: y :: r => by
    show ∃ ini t, spl2 (x :: y :: (r ++ [58])) = ini ++ [t] ∧ _
    rw [spl2]
    by_cases q : x = 58 ∧ y = 58
    · rw [if_pos q]
      obtain ⟨ini, t, h1, h2⟩ := spl2_colon r
      exact ⟨[] :: ini, t, by rw [h1]; rfl, h2⟩
    · rw [if_neg q]
      obtain ⟨ini, t, h1, h2⟩ := spl2_colon (y :: r)
      rw [show y :: (r ++ [58]) = (y :: r) ++ [58] from rfl, h1]
      cases ini with
      | nil =>
        refine ⟨[], x :: t, rfl, .inr ?_⟩
        rcases h2 with e | ⟨t', e⟩
        · exfalso
          subst e
          -- spl2 ((y :: r) ++ [58]) = [[]]
          have h3 : spl2 ((y :: r) ++ [58]) = [[]] := h1
          cases r with
          | nil =>
            have h4 : spl2 [y, 58] = [[]] := h3
            rw [spl2] at h4
            split at h4
            · (first | exact nn h4 | exact sn h4 | exact tf h4 | exact ft h4 | cases h4)
            · simp [spl2, conH] at h4
          | cons z r' =>
            have h4 : spl2 (y :: z :: (r' ++ [58])) = [[]] := h3
            rw [spl2] at h4
            split at h4
            · have := (List.cons.inj h4).2
              exact spl2_ne _ this
            · cases h5 : spl2 (z :: (r' ++ [58])) with
              | nil => exact spl2_ne _ h5
              | cons p ps => rw [h5] at h4; simp [conH] at h4
        · exact ⟨x :: t', by rw [e]; rfl⟩
      | cons i ini => exact ⟨(x :: i) :: ini, t, rfl, h2⟩
theorem free2_of_not {w : List Nat} (h : 58 ∉ w) : Free2 w := fun k q => h (List.mem_of_getElem? q.1)
/- ## the law's octets, a quad or its groups at the end -/
theorem spl_last {t y : List Nat} (ht : t = [] ∨ ∃ t', t = t' ++ [58]) (hy : 58 ∉ y) : ∃ ts, spl 58 (t ++ y) = ts ++ [y] ∧ ∀ w, spl 58 (t ++ w) = ts ++ spl 58 w := by
  rcases ht with rfl | ⟨t', rfl⟩
  · exact ⟨[], by rw [List.nil_append, spl_free_of hy]; rfl, fun w => rfl⟩
  · refine ⟨spl 58 t', ?_, fun w => ?_⟩
    · rw [List.append_assoc, List.singleton_append, spl_cat, spl_free_of hy]
    · rw [List.append_assoc, List.singleton_append, spl_cat]
theorem quad_dot {y : List Nat} {vs : List Int} (h : quadF y = some vs) : occ y [46] = true := by
  rw [occ_sign, decide_eq_true_eq]
  apply Classical.byContradiction
  intro q
  unfold quadF at h
  rw [spl_free_of q] at h
  simp at h
theorem octN_quad {x y h1 h2 : List Nat} (hy : 58 ∉ y) (hdot : occ y [46] = true) (g1 : okP h1 = true) (g2 : okP h2 = true) (hv : quadF y = some [(valP h1 : Int), (valP h2 : Int)]) :
    octetsN (x ++ 58 :: y) = octetsN (x ++ 58 :: (h1 ++ 58 :: h2)) := by
  obtain ⟨n1, _, c1⟩ := okP_mem g1
  obtain ⟨n2, _, c2⟩ := okP_mem g2
  have f1 : 58 ∉ h1 := fun q => by have := c1 58 q; simp at this
  have f2 : 58 ∉ h2 := fun q => by have := c2 58 q; simp at this
  unfold octetsN
  congr 1
  obtain ⟨ini, t, e, ht⟩ := spl2_colon x
  have hyne : y ≠ [] := by
    intro q; rw [q, occ_sign] at hdot; simp at hdot
  have hfree : Free2 (h1 ++ 58 :: h2) := by
    intro k q
    unfold At2 at q
    obtain ⟨q1, q2⟩ := q
    rw [List.getElem?_append] at q1 q2
    by_cases c : k < h1.length
    · rw [if_pos c] at q1
      exact f1 (List.mem_of_getElem? q1)
    · rw [if_neg (show ¬ k + 1 < h1.length by (first | lia | omega))] at q2
      rw [show k + 1 - h1.length = (k - h1.length) + 1 by (first | lia | omega), List.getElem?_cons_succ] at q2
      exact f2 (List.mem_of_getElem? q2)
  have hhead : (h1 ++ 58 :: h2).head? ≠ some 58 := by
    cases h1 with
    | nil => exact absurd rfl n1
    | cons a b => intro q; exact f1 (by have : a = 58 := by simpa using q
                                        rw [this]; simp)
  have hyhead : y.head? ≠ some 58 := fun q => hy (List.mem_of_mem_head? q)
  rw [show x ++ 58 :: y = (x ++ [58]) ++ y by simp, show x ++ 58 :: (h1 ++ 58 :: h2) = (x ++ [58]) ++ (h1 ++ 58 :: h2) by simp, spl2_app (free2_of_not hy) hyhead, spl2_app hfree hhead, e, appL_concat, appL_concat]
  refine oct_last ?_
  obtain ⟨ts, s1, s2⟩ := spl_last ht hy
  have s3 := s2 (h1 ++ 58 :: h2)
  rw [spl_cat, spl_free_of f1, spl_free_of f2] at s3
  have hl : groupsF (t ++ y) true = if (ts.all okP) = true then some ((ts.map fun p => (valP p : Int)) ++ [(valP h1 : Int), (valP h2 : Int)]) else none := by
    unfold groupsF
    rw [if_neg (by simp [hyne]), s1, gFrom_quad hdot ts 0 _ (by simp), hv]; rfl
  have hr : groupsF (t ++ (h1 ++ 58 :: h2)) true = hexs (ts ++ [h1, h2]) := by
    rw [groups_plain (by simp) (fun _ z hz ho => by
      rw [s3, show ts ++ ([h1] ++ [h2]) = (ts ++ [h1]) ++ [h2] by simp, List.getLast?_concat] at hz
      obtain rfl := Option.some.inj hz
      rw [okP_dot ho] at g2; (first | exact nn g2 | exact sn g2 | exact tf g2 | exact ft g2 | cases g2)), s3]; rfl
  rw [hl, hr]
  unfold hexs
  rw [List.all_append, List.all_cons, List.all_cons, g1, g2, List.all_nil]
  cases ts.all okP with
  | false => rfl
  | true => simp
theorem octN_noquad {x y : List Nat} (hy : 58 ∉ y) (hdot : occ y [46] = true) (hv : quadF y = none) : octetsN (x ++ 58 :: y) = none := by
  unfold octetsN
  obtain ⟨ini, t, e, ht⟩ := spl2_colon x
  have hyhead : y.head? ≠ some 58 := fun q => hy (List.mem_of_mem_head? q)
  have hyne : y ≠ [] := by
    intro q; rw [q, occ_sign] at hdot; simp at hdot
  rw [show x ++ 58 :: y = (x ++ [58]) ++ y by simp, spl2_app (free2_of_not hy) hyhead, e, appL_concat, oct_last_none]
  · rfl
  obtain ⟨ts, s1, s2⟩ := spl_last ht hy
  unfold groupsF
  rw [if_neg (by simp [hyne]), s1, gFrom_quad hdot ts 0 _ (by simp), hv]
  split <;> rfl
/- ## an empty part refuses -/
theorem gFrom_empty : ∀ (ps : List (List Nat)) (i np : Nat) (last : Bool), [] ∈ ps → gFrom last np i ps = none
  | p :: r, i, np, last, h => by
    rw [gFrom]
    by_cases q : p = []
    · subst q
      have : gStep last np i [] = none := by
        rw [gStep_plain (by rw [show occ [] [46] = false by rw [occ_sign]; simp]; simp), okP_nil]; rfl
      rw [this]
    · have hr : [] ∈ r := by
        rcases List.mem_cons.mp h with e | e
        · exact absurd e.symm q
        · exact e
      rw [gFrom_empty r (i + 1) np last hr]
      cases gStep last np i p <;> rfl
theorem groups_empty {t : List Nat} {last : Bool} (h0 : t ≠ []) (h : [] ∈ spl 58 t) : groupsF t last = none := by
  unfold groupsF
  rw [if_neg h0, gFrom_empty _ _ _ _ h]
theorem oct_one_none {l : List Nat} (h : groupsF l true = none) : octF [l] = none := oct_last_none (ini := []) h
theorem octN_starts {l : List Nat} (h1 : ([58] : List Nat).isPrefixOf l = true) (h2 : ([58, 58] : List Nat).isPrefixOf l = false) : octetsN l = none := by
  unfold octetsN
  obtain ⟨s, hs⟩ := List.isPrefixOf_iff_prefix.mp h1
  have hl : l = 58 :: s := hs.symm
  rcases spl2_cases l with ⟨hf, e⟩ | ⟨a, r, e, e2, fa, la⟩
  · rw [e, oct_one_none (groups_empty (by rw [hl]; simp) (by rw [hl, spl, if_pos rfl]; simp))]; rfl
  · have ha : a ≠ [] := fun q => by
      rw [e, q] at h2
      have : ([58, 58] : List Nat).isPrefixOf ([] ++ 58 :: 58 :: r) = true := rfl
      rw [this] at h2; (first | exact nn h2 | exact sn h2 | exact tf h2 | exact ft h2 | cases h2)
    obtain ⟨x, a', rfl⟩ := List.exists_cons_of_ne_nil ha
    have hx : x = 58 := by rw [hl] at e; exact (List.cons.inj e).1.symm
    have hg : groupsF (x :: a') false = none := groups_empty (by simp) (by rw [hx, spl, if_pos rfl]; simp)
    rw [e2]
    rcases spl2_cases r with ⟨fr, er⟩ | ⟨b, c, er, er2, _, _⟩
    · rw [er, oct_two_none (.inl hg)]; rfl
    · rw [oct_more]
      · rfl
      · rw [er2]
        cases h : spl2 c with
        | nil => exact absurd h (spl2_ne c)
        | cons p ps => simp
theorem octN_ends {l : List Nat} (h1 : ([58] : List Nat).isSuffixOf l = true) (h2 : ([58, 58] : List Nat).isSuffixOf l = false) : octetsN l = none := by
  unfold octetsN
  obtain ⟨s, hs⟩ := List.isSuffixOf_iff_suffix.mp h1
  have hmem : ∀ u : List Nat, [] ∈ spl 58 (u ++ [58]) := fun u => by rw [spl_cat]; simp [spl]
  rcases spl2_cases l with ⟨hf, e⟩ | ⟨a, r, e, e2, fa, la⟩
  · rw [e, oct_one_none (groups_empty (by rw [← hs]; simp) (by rw [← hs]; exact hmem s))]; rfl
  · rw [e2]
    have hr : r ≠ [] := fun q => by
      rw [e, q] at h2
      have : ([58, 58] : List Nat).isSuffixOf (a ++ [58, 58]) = true := List.isSuffixOf_iff_suffix.mpr ⟨a, rfl⟩
      rw [this] at h2; (first | exact nn h2 | exact sn h2 | exact tf h2 | exact ft h2 | cases h2)
    rcases spl2_cases r with ⟨fr, er⟩ | ⟨b, c, er, er2, _, _⟩
    · rw [er, oct_two_none (.inr (groups_empty hr ?_))]
      · rfl
      · rcases List.eq_nil_or_concat r with q | ⟨r1, x, q⟩
        · exact absurd q hr
        · have hx : x = 58 := by
            have h4 : a ++ 58 :: 58 :: r = (a ++ 58 :: 58 :: r1) ++ [x] := by rw [q]; simp
            have h3 := congrArg List.getLast? (hs.trans (e.trans h4))
            rw [List.getLast?_concat, List.getLast?_concat] at h3
            exact (Option.some.inj h3).symm
          rw [q, hx, List.concat_eq_append]; exact hmem r1
    · rw [oct_more]
      · rfl
      · rw [er2]
        cases h : spl2 c with
        | nil => exact absurd h (spl2_ne c)
        | cons p ps => simp
/- a text without a colon -/
theorem octN_nocolon {l : List Nat} (h : 58 ∉ l) : octetsN l = none := by
  unfold octetsN
  rw [spl2_free (free2_of_not h)]
  have hlen : ∀ g, groupsF l true = some g → g.length ≤ 2 := by
    intro g hg
    unfold groupsF at hg
    split at hg
    · obtain rfl := Option.some.inj hg; simp
    · rw [spl_free_of h] at hg
      rw [gFrom] at hg
      cases q : gStep true [l].length 0 l with
      | none => rw [q] at hg; cases hg
      | some v =>
        rw [q] at hg
        have : v ++ [] = g := by simpa [gFrom] using hg
        rw [List.append_nil] at this
        subst this
        unfold gStep at q
        split at q
        · unfold quadF at q
          dsimp only at q
          split at q
          · (first | exact nn q | exact sn q | exact tf q | exact ft q | cases q)
          · split at q
            · (first | exact nn q | exact sn q | exact tf q | exact ft q | cases q)
            · split at q
              · (first | exact nn q | exact sn q | exact tf q | exact ft q | cases q)
              · obtain rfl := Option.some.inj q; simp
        · split at q
          · (first | exact nn q | exact sn q | exact tf q | exact ft q | cases q)
          · obtain rfl := Option.some.inj q; simp
  have : octF [l] = none := by
    cases q : groupsF l true with
    | none => exact oct_one_none q
    | some g =>
      have := hlen g q
      unfold octF
      rw [if_neg (show ¬ 2 < [l].length by simp), if_pos (show [l].length = 1 from rfl), show [l].getD 0 [] = l from rfl, show ([l].length == 1) = true from rfl, q]
      dsimp only
      rw [if_pos]
      have h3 : ((8 : Int) - (g.length : Int) - (([] : List Int).length : Int) != 0) = true := by simp; (first | lia | omega)
      rw [h3]; simp
  rw [this]; rfl
theorem TT_nocolon {l : List Nat} (h0 : l ≠ []) (h : 58 ∉ l) : TT l = none := by
  have np : ([58, 58] : List Nat).isPrefixOf l = false := by
    rw [Bool.eq_false_iff]; intro q
    obtain ⟨s, rfl⟩ := List.isPrefixOf_iff_prefix.mp q
    exact h (by simp)
  have ns : ([58, 58] : List Nat).isSuffixOf l = false := by
    rw [Bool.eq_false_iff]; intro q
    obtain ⟨s, rfl⟩ := List.isSuffixOf_iff_suffix.mp q
    exact h (by simp)
  unfold TT
  rw [show trimN l = l by unfold trimN; rw [np, ns]; rfl, spl_free_of h, R1 (fun x hx => by
    rw [List.map_cons, List.map_nil] at hx
    rw [List.mem_singleton.mp hx]; exact enc_ne h0), if_neg]
  intro q
  have := q.1
  simp at this
end

/- # L7 -/
section
open PySem PySem.Calls PyProof.Rows PySem.W

noncomputable def digP (p : List Nat) : Prop := p ≠ [] ∧ ∀ c ∈ p, 48 ≤ c ∧ c ≤ 57
theorem digits_enc {p : List Nat} (hp : ∀ c ∈ p, Sgn c) : digitsL (enc p) = true ↔ digP p := by
  rw [digitsL_all]
  constructor
  · rintro ⟨h1, h2⟩
    refine ⟨fun q => h1 (by rw [q]; rfl), fun c hc => ?_⟩
    rcases hp c hc with h | rfl
    · have h3 : c.toUInt8 ∈ enc p := List.mem_flatMap.mpr ⟨c, hc, by rw [utf8Of_low h]; simp⟩
      have := h2 _ h3
      rw [toU_nat (by (first | lia | omega))] at this
      exact this
    · have h3 : (195 : UInt8) ∈ enc p := List.mem_flatMap.mpr ⟨233, hc, by rw [utf8Of_e]; simp⟩
      have := h2 _ h3
      revert this; decide
  · rintro ⟨h1, h2⟩
    have hlow : ∀ c ∈ p, c < 128 := fun c hc => by have := h2 c hc; (first | lia | omega)
    refine ⟨enc_ne h1, fun b hb => ?_⟩
    rw [enc_low_of hlow] at hb
    obtain ⟨c, hc, rfl⟩ := List.mem_map.mp hb
    have := h2 c hc
    rw [toU_nat (by (first | lia | omega))]; exact this
noncomputable def V4 (y : List Nat) : Prop := (spl 46 y).length = 4 ∧ ∀ p ∈ spl 46 y, digP p
theorem spl46_enc {y : List Nat} (hy : ∀ c ∈ y, Sgn c) : spl 46 (enc y) = (spl 46 y).map enc := by
  have := enc_spl hy (d := 46) (by decide)
  rw [show (46 : Nat).toUInt8 = (46 : UInt8) from rfl] at this
  exact this
theorem spl46_sgn {l : List Nat} (hl : ∀ c ∈ l, Sgn c) : ∀ p ∈ spl 46 l, ∀ c ∈ p, Sgn c := by
  intro p hp c hc
  refine hl c ?_
  have := glue_spl 46 l
  rw [← this]
  generalize spl 46 l = ps at hp
  induction ps with
  | nil => cases hp
  | cons q r ih =>
    cases r with
    | nil =>
      rw [List.mem_singleton.mp hp] at hc; exact hc
    | cons q2 r =>
      show c ∈ q ++ [46] ++ glue [46] (q2 :: r)
      rcases List.mem_cons.mp hp with e | e
      · subst e; simp [hc]
      · exact List.mem_append_right _ (ih e)
theorem split_unique {x x' y y' : List UInt8} {c : UInt8} (h : x ++ c :: y = x' ++ c :: y') (hy : c ∉ y) (hy' : c ∉ y') : x = x' ∧ y = y' := by
  rcases List.append_eq_append_iff.mp h with ⟨a, h1, h2⟩ | ⟨a, h1, h2⟩
  · cases a with
    | nil =>
      have := List.cons.inj (show c :: y = [] ++ c :: y' from h2)
      exact ⟨by rw [h1]; simp, this.2⟩
    | cons b a =>
      have h3 : c :: y = b :: (a ++ c :: y') := h2
      have := (List.cons.inj h3).2
      exact absurd (by rw [this]; simp) hy
  · cases a with
    | nil =>
      have := List.cons.inj (show c :: y' = [] ++ c :: y from h2)
      exact ⟨by rw [h1]; simp, this.2.symm⟩
    | cons b a =>
      have h3 : c :: y' = b :: (a ++ c :: y) := h2
      have := (List.cons.inj h3).2
      exact absurd (by rw [this]; simp) hy'
theorem v4_nocolon {l : List Nat} (hl : ∀ c ∈ l, Sgn c) (hn : 10 ∉ l) (h : 58 ∉ l) : v4endF (enc l) = none := by
  have hn' : 10 ∉ enc l := fun q => hn ((enc_mem hl (d := 10) (by decide)).mp q)
  have hc' : 58 ∉ enc l := fun q => h ((enc_mem hl (d := 58) (by decide)).mp q)
  unfold v4endF
  rw [noNl_of hn']
  rcases rfindL_spec (enc l) 58 with ⟨h1, h2⟩ | ⟨x', y', h1, h2, h3⟩
  · rw [if_pos (by rw [h2]; simp)]
  · exact absurd (by rw [h1]; simp) hc'
open Classical in
theorem v4_char {x y : List Nat} (hl : ∀ c ∈ x ++ 58 :: y, Sgn c) (hn : 10 ∉ x ++ 58 :: y) (hy : 58 ∉ y) : v4endF (enc (x ++ 58 :: y)) = if V4 y then some (enc x, enc y) else none := by
  have hsy : ∀ c ∈ y, Sgn c := fun c hc => hl c (by simp [hc])
  have hn' : 10 ∉ enc (x ++ 58 :: y) := fun q => hn ((enc_mem hl (d := 10) (by decide)).mp q)
  have hy' : 58 ∉ enc y := fun q => hy ((enc_mem hsy (d := 58) (by decide)).mp q)
  have e : enc (x ++ 58 :: y) = enc x ++ 58 :: enc y := by rw [enc_append, enc_cons, utf8Of_low (by (first | lia | omega))]; rfl
  unfold v4endF
  rw [noNl_of hn']
  rcases rfindL_spec (enc (x ++ 58 :: y)) 58 with ⟨h1, h2⟩ | ⟨x', y', h1, h2, h3⟩
  · exact absurd (by rw [e]; simp) h1
  obtain ⟨e1, e2⟩ := split_unique (e.symm.trans h1) hy' h2
  rw [h3, show ((x'.length : Int) + 1) = ((x'.length + 1 : Nat) : Int) by (first | lia | omega), cut_drop, cut_take]
  have d1 : (enc (x ++ 58 :: y)).drop (x'.length + 1) = enc y := by rw [h1, e2]; simp [← List.drop_drop]
  have d2 : (enc (x ++ 58 :: y)).take x'.length = enc x := by rw [h1, e1]; simp
  rw [d1, d2, inL_one, decide_eq_false hn', spl46_enc hsy, List.length_map]
  have h0 : decide ((x'.length : Int) < 0) = false := decide_eq_false (by (first | lia | omega))
  rw [h0, Bool.false_or, Bool.false_or]
  have hany : ((spl 46 y).map enc).any (fun p => !digitsL p) = true ↔ ¬ ∀ p ∈ spl 46 y, digP p := by
    rw [List.any_eq_true]
    constructor
    · rintro ⟨q, hq, hd⟩ hall
      obtain ⟨p, hp, rfl⟩ := List.mem_map.mp hq
      have := (digits_enc (spl46_sgn hsy p hp)).mpr (hall p hp)
      rw [this] at hd; (first | exact nn hd | exact sn hd | exact tf hd | exact ft hd | cases hd)
    · intro hnot
      apply Classical.byContradiction
      intro hno
      refine hnot fun p hp => (digits_enc (spl46_sgn hsy p hp)).mp ?_
      cases q : digitsL (enc p) with
      | true => rfl
      | false => exact absurd ⟨enc p, List.mem_map.mpr ⟨p, hp, rfl⟩, by rw [q]; rfl⟩ hno
  by_cases c4 : (spl 46 y).length = 4
  · rw [if_neg (by simp [c4])]
    by_cases cd : ∀ p ∈ spl 46 y, digP p
    · rw [if_neg (fun q => hany.mp q cd), if_pos ⟨c4, cd⟩]
    · rw [if_pos (hany.mpr cd), if_neg (fun q => cd q.2)]
  · rw [if_pos (by simp [c4]), if_neg (fun q => c4 q.1)]
/- ## quads -/
noncomputable def lead (p : List Nat) : Bool := decide (1 < p.length) && p.getD 0 0 == 48
noncomputable def val10 (p : List Nat) : Nat := valOf 10 (p.map dig)
theorem dig_of {c : Nat} (h : 48 ≤ c ∧ c ≤ 57) : dig c = c - 48 := by
  have : ∀ c, c < 58 → 48 ≤ c → dig c = c - 48 := by decide +kernel
  exact this c (by (first | lia | omega)) h.1
theorem fold_ge (b : Nat) : ∀ (ds : List Nat) (acc : Nat), acc * b ^ ds.length ≤ ds.foldl (fun acc d => acc * b + d) acc
  | [], acc => by simp
  | d :: r, acc => by
    have := fold_ge b r (acc * b + d)
    rw [List.foldl_cons, List.length_cons, Nat.pow_succ]
    have h2 : acc * b * b ^ r.length ≤ (acc * b + d) * b ^ r.length := Nat.mul_le_mul_right _ (by (first | lia | omega))
    have h3 : acc * (b ^ r.length * b) = acc * b * b ^ r.length := by rw [Nat.mul_comm (b ^ r.length) b, Nat.mul_assoc]
    (first | lia | omega)
theorem short_of {p : List Nat} (hd : digP p) (hl : lead p = false) (hv : val10 p < 256) : p.length ≤ 3 := by
  apply Classical.byContradiction
  intro q
  obtain ⟨h1, h2⟩ := hd
  cases p with
  | nil => exact h1 rfl
  | cons c r =>
    have hc := h2 c (by simp)
    have hr : 3 ≤ r.length := by simp at q; (first | lia | omega)
    have hne : c ≠ 48 := fun e => by
      unfold lead at hl
      rw [e] at hl
      simp at hl
      rw [hl] at hr; simp at hr
    have h3 := fold_ge 10 (r.map dig) (dig c)
    have h4 : val10 (c :: r) = (r.map dig).foldl (fun acc d => acc * 10 + d) (dig c) := by
      unfold val10 valOf
      rw [List.map_cons, List.foldl_cons]; simp
    rw [dig_of hc, List.length_map] at h3
    rw [h4, dig_of hc] at hv
    have h5 : 10 ^ 3 ≤ 10 ^ r.length := Nat.pow_le_pow_right (by (first | lia | omega)) hr
    have h6 : 1 * 10 ^ 3 ≤ (c - 48) * 10 ^ r.length := Nat.mul_le_mul (by (first | lia | omega)) h5
    (first | lia | omega)
theorem badDec_of {p : List Nat} (hd : digP p) : badDec p = (decide (3 < p.length) || lead p) := by
  obtain ⟨h1, h2⟩ := hd
  unfold badDec lead
  have e1 : (p == []) = false := by simpa using h1
  have e2 : (p.filter fun c => !occ digs [c]).isEmpty = true := by
    rw [List.isEmpty_iff, List.filter_eq_nil_iff]
    intro c hc
    have := h2 c hc
    rw [occ_sign]
    have hm : c ∈ digs := by
      have : ∀ c, c < 58 → 48 ≤ c → c ∈ digs := by decide
      exact this c (by (first | lia | omega)) (by (first | lia | omega))
    rw [decide_eq_true hm]; decide
  rw [e1, e2, Bool.false_or, Bool.not_true, Bool.or_false]
  have e3 : decide (3 < (p.length : Int)) = decide (3 < p.length) := by rw [decide_eq_decide]; (first | lia | omega)
  rw [e3]
  congr 1
  match p, h1 with
  | [c], _ =>
    by_cases q : c = 48
    · subst q; rfl
    · simp [q]
  | c :: d :: r, _ =>
    have : ((c :: d :: r) != [48]) = true := by simp
    rw [this]; simp
theorem part_enc {p : List Nat} (hd : digP p) (hs : ∀ c ∈ p, Sgn c) : badPart (enc p) = lead p ∧ partV4 (enc p) = (val10 p : Int) := by
  have hlow : ∀ c ∈ p, c < 128 := fun c hc => by have := hd.2 c hc; (first | lia | omega)
  have e := enc_low_of hlow
  constructor
  · unfold badPart lead
    rw [(digits_enc hs).mpr hd, e, List.length_map]
    cases p with
    | nil => exact absurd rfl hd.1
    | cons c r =>
      have hc := hlow c (by simp)
      have : ((List.map (fun x : Nat => x.toUInt8) (c :: r)).getD 0 0).toNat = (c :: r).getD 0 0 := by
        show c.toUInt8.toNat = c
        exact toU_nat (by (first | lia | omega))
      rw [this]; rfl
  · unfold partV4 val10
    have : (enc p).map (fun x : UInt8 => x.toNat) = p := by
      rw [e, List.map_map]
      conv => rhs; rw [← List.map_id p]
      refine List.map_congr_left fun c hc => ?_
      have := hlow c hc
      show c.toUInt8.toNat = c
      exact toU_nat (by (first | lia | omega))
    rw [this]
theorem quad_some {y : List Nat} {vs : List Int} (h : quadF y = some vs) : V4 y := by
  unfold quadF at h
  dsimp only at h
  split at h
  · (first | exact nn h | exact sn h | exact tf h | exact ft h | cases h)
  rename_i c4
  split at h
  · (first | exact nn h | exact sn h | exact tf h | exact ft h | cases h)
  rename_i cb
  refine ⟨by (first | lia | omega), fun p hp => ?_⟩
  have hb : badDec p = false := by
    cases q : badDec p with
    | false => rfl
    | true => exact absurd (List.any_eq_true.mpr ⟨p, hp, q⟩) cb
  unfold badDec at hb
  obtain ⟨hb, h4⟩ := Bool.or_eq_false_iff.mp hb
  have h1 := (Bool.or_eq_false_iff.mp (Bool.or_eq_false_iff.mp hb).1).1
  have key : ∀ c ∈ digs, 48 ≤ c ∧ c ≤ 57 := by decide +kernel
  exact ⟨fun e => by rw [e] at h1; exact absurd h1 (by decide), fun c hc => key c (filter_in (List.isEmpty_iff.mp (of_not h4)) c hc)⟩
/- a part that both read, and its number -/
noncomputable def okQ (p : List Nat) : Bool := !lead p && decide (val10 p < 256)
theorem okQ_enc {p : List Nat} (hd : digP p) (hs : ∀ c ∈ p, Sgn c) : (!badPart (enc p) && decide (0 ≤ partV4 (enc p) ∧ partV4 (enc p) < 256)) = okQ p := by
  obtain ⟨a, b⟩ := part_enc hd hs
  rw [a, b]
  exact congrArg (!lead p && ·) (decide_eq_decide.mpr ⟨fun h => Int.ofNat_lt.mp h.2, fun h => ⟨Int.natCast_nonneg _, Int.ofNat_lt.mpr h⟩⟩)
theorem okQ_dec {p : List Nat} (hd : digP p) : (!badDec p && decide ((val10 p : Int) ≤ 255)) = okQ p := by
  rw [badDec_of hd]
  unfold okQ
  have e : decide ((val10 p : Int) ≤ 255) = decide (val10 p < 256) := decide_eq_decide.mpr ⟨fun h => Nat.lt_succ_of_le (Int.ofNat_le.mp h), fun h => Int.ofNat_le.mpr (Nat.le_of_lt_succ h)⟩
  rw [e]
  cases hl : lead p with
  | true => rw [Bool.or_true]
  | false =>
    by_cases hv : val10 p < 256
    · rw [decide_eq_false (Nat.not_lt.mpr (short_of hd hl hv))]; rfl
    · rw [decide_eq_false hv, Bool.and_false, Bool.and_false]
theorem len4 {α : Type} : ∀ {l : List α}, l.length = 4 → ∃ x y z w, l = [x, y, z, w]
  | [x, y, z, w], _ => ⟨x, y, z, w, rfl⟩
theorem two_ifs {α : Type} {a b : Prop} [Decidable a] [Decidable b] (x : Option α) : (if a then none else if b then x else none) = if ¬ a ∧ b then x else none := by
  by_cases ha : a <;> by_cases hb : b <;> simp [ha, hb]
theorem two_ifs' {α : Type} {a b : Prop} [Decidable a] [Decidable b] (x : Option α) : (if a then none else if b then none else x) = if ¬ a ∧ ¬ b then x else none := by
  by_cases ha : a <;> by_cases hb : b <;> simp [ha, hb]
theorem no_any {α : Type} (F : α → Bool) (l : List α) : ¬ (l.any F = true) ↔ ∀ x ∈ l, (!F x) = true := by
  rw [Bool.not_eq_true, List.any_eq_false]
  exact ⟨fun h x hx => by rw [Bool.eq_false_iff.mpr (h x hx)]; rfl, fun h x hx q => by have := h x hx; rw [q] at this; (first | exact nn this | exact sn this | exact tf this | exact ft this | cases this)⟩
theorem aton_okQ {ps : List (List Nat)} (hd : ∀ p ∈ ps, digP p) (hs : ∀ p ∈ ps, ∀ c ∈ p, Sgn c) : (¬ ((ps.map enc).any badPart = true) ∧ ((ps.map enc).map partV4).all (fun x => decide (0 ≤ x ∧ x < 256)) = true) ↔ ∀ p ∈ ps, okQ p = true := by
  rw [no_any, List.all_eq_true]
  constructor
  · rintro ⟨h1, h2⟩ p hp
    rw [← okQ_enc (hd p hp) (hs p hp), h1 _ (List.mem_map_of_mem hp), h2 _ (List.mem_map_of_mem (List.mem_map_of_mem hp))]; rfl
  · intro h
    have key : ∀ p ∈ ps, (!badPart (enc p)) = true ∧ decide (0 ≤ partV4 (enc p) ∧ partV4 (enc p) < 256) = true := fun p hp => Bool.and_eq_true_iff.mp ((okQ_enc (hd p hp) (hs p hp)).trans (h p hp))
    refine ⟨fun x hx => ?_, fun x hx => ?_⟩
    · obtain ⟨p, hp, rfl⟩ := List.mem_map.mp hx
      exact (key p hp).1
    · obtain ⟨y, hy, rfl⟩ := List.mem_map.mp hx
      obtain ⟨p, hp, rfl⟩ := List.mem_map.mp hy
      exact (key p hp).2
theorem quad_okQ {p0 p1 p2 p3 : List Nat} (hd : ∀ p ∈ [p0, p1, p2, p3], digP p) : (¬ ([p0, p1, p2, p3].any badDec = true) ∧ ¬ 255 < max (max (val10 p0 : Int) (val10 p1 : Int)) (max (val10 p2 : Int) (val10 p3 : Int))) ↔ ∀ p ∈ [p0, p1, p2, p3], okQ p = true := by
  rw [no_any, max4_iff, Classical.not_not]
  have hle : ((val10 p0 : Int) ≤ 255 ∧ (val10 p1 : Int) ≤ 255 ∧ (val10 p2 : Int) ≤ 255 ∧ (val10 p3 : Int) ≤ 255) ↔ ∀ p ∈ [p0, p1, p2, p3], (val10 p : Int) ≤ 255 := by
    simp only [List.forall_mem_cons, List.not_mem_nil, false_imp_iff, implies_true, and_true]
  rw [hle]
  refine ⟨fun h p hp => ?_, fun h => ⟨fun p hp => ?_, fun p hp => ?_⟩⟩
  · rw [← okQ_dec (hd p hp), h.1 p hp, decide_eq_true (h.2 p hp)]; rfl
  · exact (Bool.and_eq_true_iff.mp ((okQ_dec (hd p hp)).trans (h p hp))).1
  · exact of_decide_eq_true (Bool.and_eq_true_iff.mp ((okQ_dec (hd p hp)).trans (h p hp))).2
theorem quad_rel {y : List Nat} (hs : ∀ c ∈ y, Sgn c) (hv : V4 y) : (aton4F (enc y) = none ∧ quadF y = none) ∨
    ∃ q0 q1 q2 q3 : UInt8, aton4F (enc y) = some [q0, q1, q2, q3] ∧ quadF y = some [((q0.toNat * 256 + q1.toNat : Nat) : Int), ((q2.toNat * 256 + q3.toNat : Nat) : Int)] := by
  obtain ⟨h4, hd⟩ := hv
  have hss := spl46_sgn hs
  have hA : aton4F (enc y) = if ¬ (((spl 46 y).map enc).any badPart = true) ∧ (((spl 46 y).map enc).map partV4).all (fun x => decide (0 ≤ x ∧ x < 256)) = true then some ((((spl 46 y).map enc).map partV4).map fun x => x.toNat.toUInt8) else none := by
    unfold aton4F
    dsimp only
    rw [spl46_enc hs]
    exact (if_neg fun h => h ((List.length_map ..).trans h4)).trans (two_ifs _)
  have hQ : quadF y = if ¬ ((spl 46 y).any badDec = true) ∧ ¬ 255 < max (max (val10 ((spl 46 y).getD 0 []) : Int) (val10 ((spl 46 y).getD 1 []))) (max (val10 ((spl 46 y).getD 2 []) : Int) (val10 ((spl 46 y).getD 3 []))) then some [(val10 ((spl 46 y).getD 0 []) : Int) * 256 + val10 ((spl 46 y).getD 1 []), (val10 ((spl 46 y).getD 2 []) : Int) * 256 + val10 ((spl 46 y).getD 3 [])] else none := (if_neg fun h => h h4).trans (two_ifs' _)
  generalize spl 46 y = ps at h4 hd hss hA hQ
  obtain ⟨p0, p1, p2, p3, rfl⟩ := len4 h4
  have eA := aton_okQ hd hss
  have eQ := quad_okQ hd
  by_cases c : ∀ p ∈ [p0, p1, p2, p3], okQ p = true
  · right
    have vt : ∀ p ∈ [p0, p1, p2, p3], val10 p = (partV4 (enc p)).toNat.toUInt8.toNat := fun p hp => by
      rw [(part_enc (hd p hp) (hss p hp)).2, Int.toNat_natCast]
      exact (toU_nat (of_decide_eq_true (Bool.and_eq_true_iff.mp (c p hp)).2)).symm
    refine ⟨_, _, _, _, hA.trans (if_pos (eA.mpr c)), (hQ.trans (if_pos (eQ.mpr c))).trans ?_⟩
    rw [← vt p0 (.head _), ← vt p1 (.tail _ (.head _)), ← vt p2 (.tail _ (.tail _ (.head _))), ← vt p3 (.tail _ (.tail _ (.tail _ (.head _))))]
    rfl
  · exact .inl ⟨hA.trans (if_neg fun q => c (eA.mp q)), hQ.trans (if_neg fun q => c (eQ.mp q))⟩
theorem hexpair {a b : Nat} (ha : a < 256) (hb : b < 256) : okP (hex2 a ++ hex2 b) = true ∧ valP (hex2 a ++ hex2 b) = a * 256 + b := by
  have key : ∀ d, d < 16 → hx d ∈ hexAll ∧ dig (hx d) = d := by decide +kernel
  have k1 := key (a / 16) (by (first | lia | omega))
  have k2 := key (a % 16) (by (first | lia | omega))
  have k3 := key (b / 16) (by (first | lia | omega))
  have k4 := key (b % 16) (by (first | lia | omega))
  refine ⟨okP_of (by simp [hex2]) (by simp [hex2]) ?_, ?_⟩
  · intro c hc
    unfold hex2 at hc
    rw [List.cons_append, List.cons_append, List.nil_append] at hc
    rcases List.mem_cons.mp hc with rfl | hc
    · exact k1.1
    rcases List.mem_cons.mp hc with rfl | hc
    · exact k2.1
    rcases List.mem_cons.mp hc with rfl | hc
    · exact k3.1
    rw [List.mem_singleton.mp hc]; exact k4.1
  · unfold valP valOf hex2
    rw [List.cons_append, List.cons_append, List.nil_append, List.map_cons, List.map_cons, List.map_cons, List.map_cons, List.map_nil, k1.2, k2.2, k3.2, k4.2]
    simp only [List.foldl_cons, List.foldl_nil]
    (first | lia | omega)
end

/- # L8 -/
section
open PySem PySem.Calls PyProof.Rows PySem.W

theorem v4_dot {y : List Nat} (h : V4 y) : occ y [46] = true := by
  rw [occ_sign, decide_eq_true_eq]
  apply Classical.byContradiction
  intro q
  have := h.1
  rw [spl_free_of q] at this
  simp at this
theorem pre_same {x u v : List Nat} (h : x ≠ []) : ([58, 58] : List Nat).isPrefixOf (x ++ 58 :: u) = ([58, 58] : List Nat).isPrefixOf (x ++ 58 :: v) := by
  match x, h with
  | [c], _ => simp [List.isPrefixOf]
  | c :: d :: r, _ => simp [List.isPrefixOf]
theorem pre1_same {x u v : List Nat} (h : x ≠ []) : ([58] : List Nat).isPrefixOf (x ++ 58 :: u) = ([58] : List Nat).isPrefixOf (x ++ 58 :: v) := by
  match x, h with
  | c :: r, _ => simp [List.isPrefixOf]
/- from the ending on -/
theorem tail_eq {l : List Nat} (hl : ∀ c ∈ l, Sgn c) (hn : 10 ∉ l) (h0 : l ≠ []) (h2 : l ≠ [58, 58]) (hE : ([58] : List Nat).isSuffixOf l = true → ([58, 58] : List Nat).isSuffixOf l = true)
    (hS : ([58] : List Nat).isPrefixOf l = true → ([58, 58] : List Nat).isPrefixOf l = true) :
    (v4F (enc l)).bind (fun b3 => (chunksOk (trimF b3)).bind fun cs => pairsTo cs.flatten 16) = octetsN l := by
  by_cases hc : 58 ∈ l
  · -- the last part
    obtain ⟨x, y, e, hy⟩ : ∃ x y, l = x ++ 58 :: y ∧ 58 ∉ y := by
      clear hl hn h0 h2 hE hS
      induction l with
      | nil => cases hc
      | cons a r ih =>
        by_cases q : 58 ∈ r
        · obtain ⟨x, y, hq1⟩ := (ih q)
          refine and2 hq1 fun e hy => ?_
          exact ⟨a :: x, y, by rw [e]; rfl, hy⟩
        · have : a = 58 := by
            rcases List.mem_cons.mp hc with h | h
            · exact h.symm
            · exact absurd h q
          exact ⟨[], r, by rw [this]; rfl, q⟩
    have hsx : ∀ c ∈ x, Sgn c := fun c hc => hl c (by rw [e]; simp [hc])
    have hsy : ∀ c ∈ y, Sgn c := fun c hc => hl c (by rw [e]; simp [hc])
    have hch := v4_char (x := x) (y := y) (e ▸ hl) (e ▸ hn) hy
    rw [← e] at hch
    by_cases hv : V4 y
    · rw [if_pos hv] at hch
      have hx : x ≠ [] := fun q => by
        rw [e, q] at hS
        have h3 := hS (by rfl)
        obtain ⟨s, hs⟩ := List.isPrefixOf_iff_prefix.mp h3
        have h4 : 58 :: s = y := by
          have : 58 :: 58 :: s = 58 :: y := hs
          exact (List.cons.inj this).2
        exact hy (by rw [← h4]; simp)
      have hF : v4F (enc l) = (aton4F (enc y)).map fun q => enc x ++ [58] ++ hx4 q := by unfold v4F; rw [hch]
      rcases quad_rel hsy hv with ⟨r1, r2⟩ | ⟨q0, q1, q2, q3, r1, r2⟩
      · rw [hF, r1, e, octN_noquad hy (v4_dot hv) r2]; rfl
      · obtain ⟨g1, v1⟩ := hexpair q0.toNat_lt q1.toNat_lt
        obtain ⟨g2, v2⟩ := hexpair q2.toNat_lt q3.toNat_lt
        have r2' : quadF y = some [(valP (hex2 q0.toNat ++ hex2 q1.toNat) : Int), (valP (hex2 q2.toNat ++ hex2 q3.toNat) : Int)] := by rw [v1, v2]; exact r2
        rw [hF, r1, e, octN_quad hy (v4_dot hv) g1 g2 r2']
        generalize hh1 : hex2 q0.toNat ++ hex2 q1.toNat = a1 at g1 g2
        generalize hh2 : hex2 q2.toNat ++ hex2 q3.toNat = a2 at g1 g2
        have he : enc x ++ [58] ++ hx4 [q0, q1, q2, q3] = enc (x ++ 58 :: (a1 ++ 58 :: a2)) := by
          rw [← hh1, ← hh2, enc_append, enc_cons, enc_append, enc_cons, utf8Of_low (show (58 : Nat) < 128 by (first | lia | omega))]
          unfold hx4
          simp only [enc_append, List.append_assoc]
          rfl
        have hex_sgn : ∀ {p : List Nat}, okP p = true → ∀ c ∈ p, Sgn c := fun hp c hc => by
          exact .inl (hexAll_is c ((okP_mem hp).2.2 c hc)).2.2
        have hl3 : ∀ c ∈ x ++ 58 :: (a1 ++ 58 :: a2), Sgn c := fun c hc => by
          simp only [List.mem_append, List.mem_cons] at hc
          rcases hc with hc | hc | hc | hc | hc
          · exact hsx c hc
          · exact .inl (by (first | lia | omega))
          · exact hex_sgn g1 c hc
          · exact .inl (by (first | lia | omega))
          · exact hex_sgn g2 c hc
        show (chunksOk (trimF (enc x ++ [58] ++ hx4 [q0, q1, q2, q3]))).bind _ = _
        rw [he, tail_eval hl3]
        refine and3 (okP_mem g1) fun n1 _ c1 => ?_
        refine and3 (okP_mem g2) fun n2 _ c2 => ?_
        have f2 : 58 ∉ a2 := fun q => by have := c2 58 q; simp at this
        refine main_eq hl3 (by simp) (fun q => ?_) (fun q => ?_) (fun q => ?_) (fun z hz hzo => ?_)
        · have := congrArg List.length q
          have h3 : 0 < x.length := List.length_pos_iff.mpr hx
          have h4 : 0 < a1.length := List.length_pos_iff.mpr n1
          simp at this
          (first | lia | omega)
        · exfalso
          obtain ⟨s, hs⟩ := List.isSuffixOf_iff_suffix.mp q
          rcases List.eq_nil_or_concat a2 with e5 | ⟨u, w, e5⟩
          · exact n2 e5
          · have h4 : x ++ 58 :: (a1 ++ 58 :: a2) = (x ++ 58 :: (a1 ++ 58 :: u)) ++ [w] := by rw [e5]; simp
            have h3 := congrArg List.getLast? (hs.trans h4)
            rw [List.getLast?_concat, List.getLast?_concat] at h3
            exact f2 (by rw [e5, ← Option.some.inj h3]; simp)
        · rw [pre_same hx (v := y), ← e]
          exact hS (by rw [e, pre1_same hx (v := a1 ++ 58 :: a2)]; exact q)
        · rw [show x ++ 58 :: (a1 ++ 58 :: a2) = (x ++ 58 :: a1) ++ 58 :: a2 by simp, spl_cat, spl_free_of f2, List.getLast?_concat] at hz
          obtain rfl := Option.some.inj hz
          rw [okP_dot hzo] at g2; (first | exact nn g2 | exact sn g2 | exact tf g2 | exact ft g2 | cases g2)
    · rw [if_neg hv] at hch
      have hF : v4F (enc l) = some (enc l) := by unfold v4F; rw [hch]
      rw [hF]
      show (chunksOk (trimF _)).bind _ = _
      rw [tail_eval hl]
      refine main_eq hl h0 h2 hE hS fun z hz hzo => ?_
      rw [e, spl_cat, spl_free_of hy, List.getLast?_concat] at hz
      obtain rfl := Option.some.inj hz
      cases q : quadF y with
      | none => rfl
      | some vs => exact absurd (quad_some q) hv
  · have hF : v4F (enc l) = some (enc l) := by unfold v4F; rw [v4_nocolon hl hn hc]
    rw [hF]
    show (chunksOk (trimF _)).bind _ = _
    rw [tail_eval hl, TT_nocolon h0 hc, octN_nocolon hc]
theorem zero_pair : octetsN [48, 58, 58] = octetsN [58, 58] := by
  unfold octetsN
  rw [show spl2 [48, 58, 58] = [[48], []] from rfl, show spl2 [58, 58] = [[], []] from rfl]
  have g0 : groupsF [] true = hexs [] := rfl
  have g0' : groupsF [] false = hexs [] := rfl
  have g1 : groupsF [48] false = hexs [[48]] := by
    rw [groups_plain (by simp) (by intro q; (first | exact nn q | exact sn q | exact tf q | exact ft q | cases q))]; rfl
  rw [oct_two g1 g0, oct_two g0' g0]
  have k1 : okP [48] = true := okP_of (by simp) (by simp) (by simp)
  have k2 : flatV [[48]] = [0, 0] := by decide +kernel
  rw [if_pos ⟨by decide, by simp [k1], rfl⟩, if_pos ⟨by decide, rfl, rfl⟩, k2]
  rfl
theorem edge_code {l : List Nat} (hl : ∀ c ∈ l, Sgn c) : edgeF (enc l) = if l = [] then none else if (([58] : List Nat).isSuffixOf l && !([58, 58] : List Nat).isSuffixOf l) = true then none else
    if (([58] : List Nat).isPrefixOf l && !([58, 58] : List Nat).isPrefixOf l) = true then none else if l = [58, 58] then some (enc [48, 58, 58]) else some (enc l) := by
  unfold edgeF
  rw [endsL_eq, endsL_eq, startsL_eq, startsL_eq, pre_enc hl, suf_enc hl, pre1_enc hl, suf1_enc hl]
  have h0 : enc l = [] ↔ l = [] := ⟨fun q => Classical.byContradiction fun n => enc_ne n q, fun q => by rw [q]; rfl⟩
  have h2 : enc l = [58, 58] ↔ l = [58, 58] := by
    constructor
    · intro q
      have h3 := pre_enc hl
      rw [q] at h3
      obtain ⟨s, hs⟩ := List.isPrefixOf_iff_prefix.mp h3.symm
      rw [← hs, enc_append] at q
      have h4 : enc s = [] := by
        have := congrArg (fun t : List UInt8 => t.drop 2) q
        simpa [enc_cons, enc, utf8Of_low] using this
      have : s = [] := Classical.byContradiction fun n => enc_ne n h4
      rw [← hs, this]; rfl
    · intro q; rw [q]; rfl
  by_cases c0 : l = []
  · rw [if_pos c0, if_pos (h0.mpr c0)]
  rw [if_neg c0, if_neg (fun q => c0 (h0.mp q))]
  split
  · rfl
  split
  · rfl
  by_cases c2 : l = [58, 58]
  · rw [if_pos c2, if_pos (h2.mpr c2)]; rfl
  · rw [if_neg c2, if_neg (fun q => c2 (h2.mp q))]
theorem after_scope {l : List Nat} (hl : ∀ c ∈ l, Sgn c) (hn : 10 ∉ l) : (edgeF (enc l)).bind (fun b2 => (v4F b2).bind fun b3 => (chunksOk (trimF b3)).bind fun cs => pairsTo cs.flatten 16) = octetsN l := by
  rw [edge_code hl]
  by_cases c0 : l = []
  · rw [if_pos c0, c0, octN_nocolon (by simp)]; rfl
  rw [if_neg c0]
  by_cases c1 : (([58] : List Nat).isSuffixOf l && !([58, 58] : List Nat).isSuffixOf l) = true
  · rw [if_pos c1]
    rw [Bool.and_eq_true, Bool.not_eq_true'] at c1
    rw [octN_ends c1.1 c1.2]; rfl
  rw [if_neg c1]
  by_cases c2 : (([58] : List Nat).isPrefixOf l && !([58, 58] : List Nat).isPrefixOf l) = true
  · rw [if_pos c2]
    rw [Bool.and_eq_true, Bool.not_eq_true'] at c2
    rw [octN_starts c2.1 c2.2]; rfl
  rw [if_neg c2]
  have hE : ([58] : List Nat).isSuffixOf l = true → ([58, 58] : List Nat).isSuffixOf l = true := fun q => by
    cases h : ([58, 58] : List Nat).isSuffixOf l with
    | true => rfl
    | false => exact absurd (by rw [q, h]; rfl) c1
  have hS : ([58] : List Nat).isPrefixOf l = true → ([58, 58] : List Nat).isPrefixOf l = true := fun q => by
    cases h : ([58, 58] : List Nat).isPrefixOf l with
    | true => rfl
    | false => exact absurd (by rw [q, h]; rfl) c2
  by_cases c3 : l = [58, 58]
  · rw [if_pos c3, c3, ← zero_pair, Option.bind_some]
    refine tail_eq (fun c hc => ?_) (by simp) (by simp) (by simp) (fun _ => rfl) (fun q => by (first | exact nn q | exact sn q | exact tf q | exact ft q | cases q))
    simp at hc
    exact .inl (by (first | lia | omega))
  · rw [if_neg c3, Option.bind_some]
    exact tail_eq hl hn c0 c3 hE hS
theorem due_law {l : List Nat} (hf : Fine l) : aton6F (enc l) false = octetsF l := by
  have hl : ∀ c ∈ l, Sgn c := fun c hc => (hf.2 c hc).1
  have hn : 10 ∉ l := fun hc => (hf.2 10 hc).2 rfl
  rw [octets_N hl, ← after_scope hl hn]
  rfl
theorem scope_law {l : List Nat} (hf : Fine l) : aton6F (enc l) true = if (spl 37 l).length < 3 then octetsF ((spl 37 l).getD 0 []) else none := by
  have hl : ∀ c ∈ l, Sgn c := fun c hc => (hf.2 c hc).1
  have hn : 10 ∉ l := fun hc => (hf.2 10 hc).2 rfl
  have hsp := enc_spl hl (d := 37) (by decide)
  rw [show (37 : Nat).toUInt8 = (37 : UInt8) from rfl] at hsp
  have hA : aton6F (enc l) true = (scopeF (enc l) true).bind fun b1 => (edgeF b1).bind (fun b2 => (v4F b2).bind fun b3 => (chunksOk (trimF b3)).bind fun cs => pairsTo cs.flatten 16) := rfl
  have hS : scopeF (enc l) true = if (spl 37 (enc l)).length = 2 then some ((spl 37 (enc l)).getD 0 []) else if 2 < (spl 37 (enc l)).length then none else some (enc l) := rfl
  rw [hsp, List.length_map] at hS
  have hg := glue_spl 37 l
  cases q : spl 37 l with
  | nil => exact absurd q (spl_ne _ _)
  | cons p ps =>
    rw [q] at hS hg
    have hp : ∀ c ∈ p, c ∈ l := fun c hc => by
      rw [← hg]
      cases ps with
      | nil => exact hc
      | cons p2 ps => show c ∈ p ++ [37] ++ glue [37] (p2 :: ps); simp [hc]
    have hlp : ∀ c ∈ p, Sgn c := fun c hc => hl c (hp c hc)
    have hnp : 10 ∉ p := fun hc => hn (hp 10 hc)
    show _ = if (p :: ps).length < 3 then octetsF p else none
    match ps with
    | [] =>
      have : p = l := hg
      rw [if_neg (by simp), if_neg (by simp)] at hS
      rw [if_pos (by simp), hA, hS, Option.bind_some, this, octets_N hl]
      exact after_scope hl hn
    | [p2] =>
      rw [if_pos (by simp)] at hS
      rw [if_pos (by simp), hA, hS, Option.bind_some, octets_N hlp]
      exact after_scope hlp hnp
    | p2 :: p3 :: r =>
      rw [if_neg (by simp), if_pos (by simp)] at hS
      rw [if_neg (by simp), hA, hS]; rfl
end

/- # L9 -/
section
open PySem PySem.Calls PyProof.Rows PySem.W

/- ## a group's text -/
theorem lstrip_zero (l : List Nat) : lstripL l [48] = l.dropWhile (· == 48) := by
  have hg : ∀ c : Nat, (⟨[48].toArray⟩ : Str).cps.contains c = (c == 48) := by intro c; simp [Bool.beq_eq_decide_eq]
  have hlo : stripLo (⟨[48].toArray⟩ : Str).cps.contains true ⟨l.toArray⟩ = (l.takeWhile (· == 48)).length := by
    unfold stripLo
    rw [if_pos rfl]
    show (l.takeWhile _).length = _
    congr 1
    congr 1
    funext c; exact hg c
  have hdrop : l.drop (l.takeWhile (· == 48)).length = l.dropWhile (· == 48) := by
    conv => lhs; rw [← List.takeWhile_append_dropWhile (p := (· == 48)) (l := l)]
    rw [List.takeWhile_append_dropWhile]
    have := List.takeWhile_append_dropWhile (p := (· == 48)) (l := l)
    conv => lhs; arg 2; rw [← this]
    exact List.drop_left
  have hhi : stripHi (⟨[48].toArray⟩ : Str).cps.contains false ⟨l.toArray⟩ (stripLo (⟨[48].toArray⟩ : Str).cps.contains true ⟨l.toArray⟩) = l.length := by
    unfold stripHi; rw [if_neg (by decide)]; exact str_len l
  unfold lstripL Txt.lstripChars Txt.stripBy
  by_cases hs : stripSame (⟨[48].toArray⟩ : Str).cps.contains true false ⟨l.toArray⟩ = true
  · rw [if_pos hs]
    unfold stripSame at hs
    rw [Bool.and_eq_true, hlo, beq_iff_eq] at hs
    rw [← hdrop, hs.1]; simp
  · rw [if_neg hs]
    unfold PySem.stripped
    rw [hhi, hlo, StrLaws.strSub_toList]
    show (l.drop _).take _ = _
    rw [hdrop, List.take_of_length_le]
    rw [← hdrop, List.length_drop]; exact Nat.le_refl _
theorem hx_key : ∀ d, d < 16 → hexN.getD d 0 = hx d ∧ ((hx d == 48) = (d == 0)) ∧ hx d ∈ hexAll ∧ dig (hx d) = d := by decide +kernel
theorem hexF_eq {d3 d2 d1 d0 : Nat} (h3 : d3 < 16) (h2 : d2 < 16) (h1 : d1 < 16) (h0 : d0 < 16) :
    hexF (((d3 * 16 + d2) * 16 + d1) * 16 + d0) = strip0 [hx d3, hx d2, hx d1, hx d0] := by
  obtain ⟨a3, b3, _⟩ := hx_key d3 h3
  obtain ⟨a2, b2, _⟩ := hx_key d2 h2
  obtain ⟨a1, b1, _⟩ := hx_key d1 h1
  obtain ⟨a0, b0, _⟩ := hx_key d0 h0
  unfold strip0
  rw [lstrip_zero]
  unfold hexF
  have s0 : ∀ {k d : Nat} {t : List Nat}, d < 16 → ¬ (k * 16 + d = 0 ∧ t ≠ []) → hexAcc (k * 16 + d) t = hexAcc k (hx d :: t) := by
    intro k d t hd hn
    rw [hexAcc_step hn, show (k * 16 + d) / 16 = k by (first | lia | omega), show (k * 16 + d) % 16 = d by (first | lia | omega), (hx_key d hd).1]
  rw [s0 h0 (by simp)]
  by_cases c3 : d3 = 0
  · by_cases c2 : d2 = 0
    · by_cases c1 : d1 = 0
      · subst c3 c2 c1
        rw [show ((0 * 16 + 0) * 16 + 0 : Nat) = 0 from rfl, hexAcc_done (by simp)]
        by_cases c0 : d0 = 0
        · subst c0; rfl
        · have e0 : (hx d0 == 48) = false := by rw [b0]; simp [c0]
          have z0 : (hx 0 == 48) = true := rfl
          simp [List.dropWhile, e0, z0]
      · subst c3 c2
        have e1 : (hx d1 == 48) = false := by rw [b1]; simp [c1]
        have z0 : (hx 0 == 48) = true := rfl
        rw [s0 h1 (by (first | lia | omega)), show ((0 * 16 + 0) : Nat) = 0 from rfl, hexAcc_done (by simp)]
        simp [List.dropWhile, e1, z0]
    · subst c3
      have e2 : (hx d2 == 48) = false := by rw [b2]; simp [c2]
      have z0 : (hx 0 == 48) = true := rfl
      rw [s0 h1 (by (first | lia | omega)), s0 h2 (by (first | lia | omega)), hexAcc_done (by simp)]
      simp [List.dropWhile, e2, z0]
  · have e3 : (hx d3 == 48) = false := by rw [b3]; simp [c3]
    rw [s0 h1 (by (first | lia | omega)), s0 h2 (by (first | lia | omega)), show d3 = 0 * 16 + d3 by (first | lia | omega), s0 h3 (by (first | lia | omega)), hexAcc_done (by simp), show 0 * 16 + d3 = d3 by (first | lia | omega)]
    simp [List.dropWhile, e3]
theorem hexS_drop : ∀ (i : Nat) (b : List UInt8), (hexS b).drop (2 * i) = hexS (b.drop i)
  | 0, b => rfl
  | i + 1, [] => by simp [hexS]
  | i + 1, x :: r => by
    show (hex2 x.toNat ++ hexS r).drop _ = hexS (r.drop i)
    rw [← hexS_drop i r, show 2 * (i + 1) = 2 + 2 * i by (first | lia | omega), ← List.drop_drop]; rfl
noncomputable def grpN (b : List UInt8) (k : Nat) : Nat := (b.getD (2 * k) 0).toNat * 256 + (b.getD (2 * k + 1) 0).toNat
theorem grpN_lt (b : List UInt8) (k : Nat) : grpN b k < 65536 := by
  unfold grpN
  have h1 := (b.getD (2 * k) 0).toNat_lt
  have h2 := (b.getD (2 * k + 1) 0).toNat_lt
  (first | lia | omega)
theorem chunk_hex {b : List UInt8} (h : b.length = 16) {k : Nat} (hk : k < 8) : chunkF b k = hexF (grpN b k) := by
  unfold chunkF
  have i0 : 2 * k < b.length := by (first | lia | omega)
  have i1 : 2 * k + 1 < b.length := by (first | lia | omega)
  have g0 : b.getD (2 * k) 0 = b[2 * k] := by simp [List.getD, i0]
  have g1 : b.getD (2 * k + 1) 0 = b[2 * k + 1] := by simp [List.getD, i1]
  rw [show 4 * k = 2 * (2 * k) by (first | lia | omega), hexS_drop, List.drop_eq_getElem_cons i0, List.drop_eq_getElem_cons i1]
  unfold grpN
  rw [g0, g1]
  generalize b[2 * k] = x
  generalize b[2 * k + 1] = y
  have hx' := x.toNat_lt
  have hy' := y.toNat_lt
  have e : (hexS (x :: y :: b.drop (2 * k + 1 + 1))).take 4 = [hx (x.toNat / 16), hx (x.toNat % 16), hx (y.toNat / 16), hx (y.toNat % 16)] := rfl
  rw [e, ← hexF_eq (by (first | lia | omega)) (by (first | lia | omega)) (by (first | lia | omega)) (by (first | lia | omega))]
  congr 1
  (first | lia | omega)
theorem valP4 {d3 d2 d1 d0 : Nat} (h3 : d3 < 16) (h2 : d2 < 16) (h1 : d1 < 16) (h0 : d0 < 16) : valP [hx d3, hx d2, hx d1, hx d0] = ((d3 * 16 + d2) * 16 + d1) * 16 + d0 := by
  unfold valP valOf
  rw [List.map_cons, List.map_cons, List.map_cons, List.map_cons, List.map_nil, (hx_key d3 h3).2.2.2, (hx_key d2 h2).2.2.2, (hx_key d1 h1).2.2.2, (hx_key d0 h0).2.2.2]
  simp
theorem valP_strip : ∀ l : List Nat, valP (l.dropWhile (· == 48)) = valP l
  | [] => rfl
  | c :: r => by
    rw [List.dropWhile_cons]
    by_cases q : (c == 48) = true
    · rw [if_pos q, valP_strip r]
      have : c = 48 := by simpa using q
      subst this
      unfold valP valOf
      rw [List.map_cons, List.foldl_cons]
      rfl
    · rw [if_neg q]
theorem mem_dropWhile {p : Nat → Bool} {c : Nat} : ∀ {l : List Nat}, c ∈ l.dropWhile p → c ∈ l
  | x :: r, h => by
    rw [List.dropWhile_cons] at h
    split at h
    · exact List.mem_cons_of_mem _ (mem_dropWhile h)
    · exact h
theorem dropWhile_len (p : Nat → Bool) : ∀ l : List Nat, (l.dropWhile p).length ≤ l.length
  | [] => Nat.le_refl _
  | x :: r => by
    rw [List.dropWhile_cons]
    split
    · have := dropWhile_len p r; simp; (first | lia | omega)
    · exact Nat.le_refl _
/- a group's text tells the group -/
theorem hexF_ok {v : Nat} (hv : v < 65536) : okP (hexF v) = true ∧ valP (hexF v) = v := by
  have e : v = ((v / 4096 * 16 + v / 256 % 16) * 16 + v / 16 % 16) * 16 + v % 16 := by (first | lia | omega)
  have h3 : v / 4096 < 16 := by (first | lia | omega)
  have h2 : v / 256 % 16 < 16 := by (first | lia | omega)
  have h1 : v / 16 % 16 < 16 := by (first | lia | omega)
  have h0 : v % 16 < 16 := by (first | lia | omega)
  have hF : hexF v = strip0 [hx (v / 4096), hx (v / 256 % 16), hx (v / 16 % 16), hx (v % 16)] := by
    conv => lhs; rw [e]
    exact hexF_eq h3 h2 h1 h0
  have hval := valP4 h3 h2 h1 h0
  have hmem : ∀ c ∈ [hx (v / 4096), hx (v / 256 % 16), hx (v / 16 % 16), hx (v % 16)], c ∈ hexAll := by
    intro c hc
    rcases List.mem_cons.mp hc with rfl | hc
    · exact (hx_key _ h3).2.2.1
    rcases List.mem_cons.mp hc with rfl | hc
    · exact (hx_key _ h2).2.2.1
    rcases List.mem_cons.mp hc with rfl | hc
    · exact (hx_key _ h1).2.2.1
    rw [List.mem_singleton.mp hc]; exact (hx_key _ h0).2.2.1
  rw [← e] at hval
  have hlen : [hx (v / 4096), hx (v / 256 % 16), hx (v / 16 % 16), hx (v % 16)].length = 4 := rfl
  rw [hF]
  generalize [hx (v / 4096), hx (v / 256 % 16), hx (v / 16 % 16), hx (v % 16)] = l at hval hmem hlen
  unfold strip0
  rw [lstrip_zero]
  have hs := valP_strip l
  have hl := dropWhile_len (· == 48) l
  split
  · rename_i c
    refine ⟨okP_of (fun q => by rw [q] at c; simp at c) (by (first | lia | omega)) (fun c hc => hmem c (mem_dropWhile hc)), by rw [hs, hval]⟩
  · rename_i c
    have hd : l.dropWhile (· == 48) = [] := by
      simp at c
      exact List.eq_nil_of_length_eq_zero (by simpa using c)
    rw [hd] at hs
    refine ⟨okP_of (by simp) (by simp) (by simp), ?_⟩
    rw [← hval, ← hs]; decide
end

/- # L10 -/
section
open PySem PySem.Calls PyProof.Rows PySem.W

theorem groups_N (b : List UInt8) : groupsOf b = (List.range 8).map fun k => (grpN b k : Int) := rfl
theorem texts_chunks {b : List UInt8} (h : b.length = 16) : chunksF b = textsOf b := by
  unfold chunksF textsOf
  rw [groups_N, List.map_map]
  refine List.map_congr_left fun k hk => ?_
  rw [List.mem_range] at hk
  rw [chunk_hex h hk]; rfl
theorem hexF_zero {v : Nat} (hv : v < 65536) : (hexF v == [48]) = decide (v = 0) := by
  rw [Bool.eq_iff_iff, beq_iff_eq, decide_eq_true_eq]
  constructor
  · intro q
    have := (hexF_ok hv).2
    rw [q] at this
    rw [← this]; decide
  · intro q; subst q
    rw [show (0 : Nat) = ((0 * 16 + 0) * 16 + 0) * 16 + 0 from rfl, hexF_eq (by (first | lia | omega)) (by (first | lia | omega)) (by (first | lia | omega)) (by (first | lia | omega))]
    unfold strip0
    rw [lstrip_zero]; decide
theorem hexF_ffff {v : Nat} (hv : v < 65536) : (hexF v == ffffS) = decide (v = 65535) := by
  rw [Bool.eq_iff_iff, beq_iff_eq, decide_eq_true_eq]
  constructor
  · intro q
    have := (hexF_ok hv).2
    rw [q] at this
    rw [← this]; decide +kernel
  · intro q; subst q
    rw [show (65535 : Nat) = ((15 * 16 + 15) * 16 + 15) * 16 + 15 from rfl, hexF_eq (by (first | lia | omega)) (by (first | lia | omega)) (by (first | lia | omega)) (by (first | lia | omega))]
    unfold strip0
    rw [lstrip_zero]; decide
/- ## the longest run, by the pattern of zeros -/
theorem sRun_congr {z z' : Nat → Bool} : ∀ n, (∀ k, k < n → z k = z' k) → sRun z n = sRun z' n
  | 0, _ => rfl
  | n + 1, h => by rw [sRun, sRun, sRun_congr n fun k hk => h k (by (first | lia | omega)), h n (by (first | lia | omega))]
noncomputable def hitZ (zs : List Bool) (m s : Nat) : Bool := ((zs.drop s).take m) == List.replicate m true
noncomputable def searchZ (zs : List Bool) : List Nat → Option (Nat × Nat)
  | [] => none
  | m :: r => match (List.range (9 - m)).find? (hitZ zs m) with
    | some s => some (m, s)
    | none => searchZ zs r
noncomputable def runZ (zs : List Bool) : Int × Int := sEnd (sRun (fun k => zs.getD k false) 8)
noncomputable def agreeZ (zs : List Bool) : Bool := match searchZ zs manysL with
  | some (m, s) => runZ zs == ((s : Int), (m : Int)) && decide (2 ≤ m) && decide (s + m ≤ 8) && hitZ zs m s
  | none => decide ((runZ zs).2 ≤ 1)
theorem agree_all : ∀ a b c d e f g h : Bool, agreeZ [a, b, c, d, e, f, g, h] = true := by decide +kernel
noncomputable def zerosB (b : List UInt8) : List Bool := (List.range 8).map fun k => decide (grpN b k = 0)
theorem zerosB_get (b : List UInt8) {k : Nat} (hk : k < 8) : (zerosB b).getD k false = decide (grpN b k = 0) := by
  unfold zerosB
  simp [List.getD, List.getElem?_map, List.getElem?_range, hk]
theorem agree_b (b : List UInt8) : agreeZ (zerosB b) = true := agree_all _ _ _ _ _ _ _ _
theorem run_Z {b : List UInt8} (h : b.length = 16) : runOf b = runZ (zerosB b) := by
  unfold runOf runZ
  congr 1
  refine sRun_congr 8 fun k hk => ?_
  rw [zerosB_get b hk]
  unfold zeroAt
  rw [chunk_hex h hk, hexF_zero (grpN_lt b k)]
theorem rep_beq : ∀ (l : List Nat) (m : Nat), ((l.map fun (v : Nat) => (v : Int)) == List.replicate m 0) = ((l.map fun v => decide (v = 0)) == List.replicate m true)
  | [], 0 => rfl
  | [], m + 1 => rfl
  | v :: r, 0 => rfl
  | v :: r, m + 1 => by
    rw [List.map_cons, List.map_cons, List.replicate_succ, List.replicate_succ]
    have ih := rep_beq r m
    show (((v : Int) == 0) && ((r.map fun (v : Nat) => (v : Int)) == List.replicate m 0)) = ((decide (v = 0) == true) && ((r.map fun v => decide (v = 0)) == List.replicate m true))
    rw [ih]
    congr 1
    by_cases q : v = 0
    · subst q; rfl
    · have : ((v : Int) == 0) = false := by rw [beq_eq_false_iff_ne]; (first | lia | omega)
      rw [this]; simp [q]
theorem hit_Z (b : List UInt8) {m s : Nat} (hs : s + m ≤ 8) : hitAt (groupsOf b) m s = hitZ (zerosB b) m s := by
  unfold hitAt hitZ zerosB
  rw [cut_mid _ _ _ (by rw [groupsOf_len]; exact hs), show s + m - s = m by (first | lia | omega), groups_N, ← List.map_drop, ← List.map_take, ← List.map_drop, ← List.map_take]
  have := rep_beq (((List.range 8).drop s |>.take m).map (grpN b)) m
  rw [List.map_map, List.map_map] at this
  exact this
theorem find_congr {p q : Nat → Bool} : ∀ {l : List Nat}, (∀ x ∈ l, p x = q x) → l.find? p = l.find? q
  | [], _ => rfl
  | x :: r, h => by rw [List.find?_cons, List.find?_cons, h x (by simp), find_congr fun y hy => h y (by simp [hy])]
theorem search_Z (b : List UInt8) : ∀ ms : List Nat, (∀ m ∈ ms, m ≤ 8) → search (groupsOf b) ms = searchZ (zerosB b) ms
  | [], _ => rfl
  | m :: r, h => by
    have hm := h m (by simp)
    rw [search, searchZ, find_congr (q := hitZ (zerosB b) m) fun s hs => by
      rw [List.mem_range] at hs
      exact hit_Z b (by (first | lia | omega)), search_Z b r fun x hx => h x (by simp [hx])]
    try (cases (List.range (9 - m)).find? (hitZ (zerosB b) m) <;> rfl)
/- the run that both find -/
theorem run_search {b : List UInt8} (h : b.length = 16) : (∃ m s, search (groupsOf b) manysL = some (m, s) ∧ runOf b = ((s : Int), (m : Int)) ∧ 2 ≤ m ∧ s + m ≤ 8 ∧ ∀ k, s ≤ k → k < s + m → grpN b k = 0) ∨
    (search (groupsOf b) manysL = none ∧ (runOf b).2 ≤ 1) := by
  have ha := agree_b b
  rw [search_Z b manysL (by decide), run_Z h]
  unfold agreeZ at ha
  cases q : searchZ (zerosB b) manysL with
  | none =>
    rw [q] at ha
    exact .inr ⟨rfl, of_decide_eq_true ha⟩
  | some p =>
    obtain ⟨m, s⟩ := p
    rw [q] at ha
    simp only [Bool.and_eq_true, beq_iff_eq, decide_eq_true_eq] at ha
    obtain ⟨⟨⟨h1, h2⟩, h3⟩, h4⟩ := ha
    refine .inl ⟨m, s, rfl, h1, h2, h3, fun k hk1 hk2 => ?_⟩
    unfold hitZ at h4
    have h5 := congrArg (fun l : List Bool => l[k - s]?) (beq_iff_eq.mp h4)
    rw [List.getElem?_take_of_lt (by (first | lia | omega)), List.getElem?_drop, show s + (k - s) = k by (first | lia | omega), List.getElem?_replicate, if_pos (by (first | lia | omega))] at h5
    unfold zerosB at h5
    rw [List.getElem?_map, List.getElem?_range (by (first | lia | omega))] at h5
    simpa using h5
theorem quad_oct {b : List UInt8} (h : b.length = 16) : quadS (b.drop 12) = octS b := by
  unfold octS quadS decB
  rw [show (12 : Int) = ((12 : Nat) : Int) from rfl, cut_drop]
  have h4 : (b.drop 12).length = 4 := by simp [h]
  generalize b.drop 12 = d at h4
  match d, h4 with
  | [x, y, z, w], _ =>
    rw [joinL_glue]
    show decS x.toNat ++ [46] ++ decS y.toNat ++ [46] ++ decS z.toNat ++ [46] ++ decS w.toNat = decS x.toNat ++ [46] ++ (decS y.toNat ++ [46] ++ (decS z.toNat ++ [46] ++ decS w.toNat))
    simp only [List.append_assoc]
theorem way_law {b : List UInt8} (h : b.length = 16) : ntoaF b = wayF b := by
  unfold ntoaF wayF
  rcases run_search h with ⟨m, s, e1, e2, h2, h8, _⟩ | ⟨e1, e2⟩
  · rw [e1, e2, if_pos (show (1 : Int) < (m : Int) by (first | lia | omega))]
    have he : embeds b ((s : Int), (m : Int)) = (s == 0 && (m == 6 || (m == 5 && (groupsOf b).getD 5 0 == 65535))) := by
      unfold embeds
      have c1 : ((s : Int) == 0) = (s == 0) := cast_beq s 0
      have c2 : ((m : Int) == 6) = (m == 6) := cast_beq m 6
      have c3 : ((m : Int) == 5) = (m == 5) := cast_beq m 5
      have c4 : (chunkF b 5 == ffffS) = ((groupsOf b).getD 5 0 == 65535) := by
        rw [chunk_hex h (by (first | lia | omega)), hexF_ffff (grpN_lt b 5), groups_N]
        have : ((List.range 8).map fun k => (grpN b k : Int)).getD 5 0 = (grpN b 5 : Int) := rfl
        rw [this]
        have c5 : ((grpN b 5 : Int) == 65535) = (grpN b 5 == 65535) := cast_beq _ 65535
        rw [c5, Bool.beq_eq_decide_eq]
      simp only [c1, c2, c3, c4]
    rw [he]
    show _ = wayOut b m s
    unfold wayOut
    have c2 : ((m : Int) == 6) = (m == 6) := cast_beq m 6
    simp only [c2, quad_oct h, texts_chunks h]
    rw [show ((s : Int) + (m : Int)) = ((s + m : Nat) : Int) by (first | lia | omega)]
  · rw [e1, if_neg (by (first | lia | omega)), texts_chunks h]
end

/- # L11 -/
section
open PySem PySem.Calls PyProof.Rows PySem.W

theorem ok_free {p : List Nat} (h : okP p = true) : 58 ∉ p := fun q => by have := (okP_mem h).2.2 58 q; simp at this
theorem spl_glue_ok {xs : List (List Nat)} (hne : xs ≠ []) (h : ∀ p ∈ xs, okP p = true) : spl 58 (glue [58] xs) = xs := spl_glue hne fun p hp => ok_free (h p hp)
theorem glue_ne {xs : List (List Nat)} (hne : xs ≠ []) (h : ∀ p ∈ xs, okP p = true) : glue [58] xs ≠ [] := by
  intro q
  have h1 := spl_glue_ok hne h
  rw [q] at h1
  have h2 : okP [] = true := h [] (by rw [← h1]; simp [spl])
  rw [okP_nil] at h2; (first | exact nn h2 | exact sn h2 | exact tf h2 | exact ft h2 | cases h2)
theorem PP_glue {xs : List (List Nat)} (h : ∀ p ∈ xs, okP p = true) : PP (glue [58] xs) = xs := by
  unfold PP
  cases xs with
  | nil => rfl
  | cons p r => rw [if_neg (glue_ne (by simp) h), spl_glue_ok (by simp) h]
theorem at2_spl {l : List Nat} {k : Nat} (h : At2 l k) : [] ∈ spl 58 l := by
  obtain ⟨b1, c1⟩ := List.getElem?_eq_some_iff.mp h.1
  obtain ⟨b2, c2⟩ := List.getElem?_eq_some_iff.mp h.2
  have e : l = l.take k ++ 58 :: 58 :: l.drop (k + 2) := by
    conv => lhs; rw [← List.take_append_drop k l]
    rw [List.drop_eq_getElem_cons b1, List.drop_eq_getElem_cons b2, c1, c2]
  rw [e, spl_pair]; simp
theorem no_empty {xs : List (List Nat)} (h : ∀ p ∈ xs, okP p = true) : [] ∉ xs := fun q => by
  have := h [] q
  rw [okP_nil] at this; (first | exact nn this | exact sn this | exact tf this | exact ft this | cases this)
theorem free2_glue {xs : List (List Nat)} (h : ∀ p ∈ xs, okP p = true) : Free2 (glue [58] xs) := by
  cases xs with
  | nil => exact free2_nil
  | cons p r =>
    intro k hk
    have := at2_spl hk
    rw [spl_glue_ok (by simp) h] at this
    exact no_empty h this
theorem last_glue {xs : List (List Nat)} (h : ∀ p ∈ xs, okP p = true) : (glue [58] xs).getLast? ≠ some 58 := by
  intro q
  cases xs with
  | nil => cases q
  | cons p r =>
    have h1 := spl_glue_ok (by simp) h
    rcases List.eq_nil_or_concat (glue [58] (p :: r)) with e | ⟨u, w, e⟩
    · rw [e] at q; (first | exact nn q | exact sn q | exact tf q | exact ft q | cases q)
    · rw [List.concat_eq_append] at e
      rw [e, List.getLast?_concat] at q
      rw [e, Option.some.inj q, spl_cat] at h1
      exact no_empty h (by rw [← h1]; simp [spl])
theorem first_pair {a r : List Nat} (h1 : Free2 a) (h2 : a.getLast? ≠ some 58) : ∀ k, k < a.length → ¬ At2 (a ++ 58 :: 58 :: r) k := by
  intro k hk q
  unfold At2 at q
  rw [List.getElem?_append_left hk] at q
  by_cases c : k + 1 < a.length
  · rw [List.getElem?_append_left c] at q
    exact h1 k q
  · have : k = a.length - 1 := by (first | lia | omega)
    rw [List.getLast?_eq_getElem?, ← this] at h2
    exact h2 q.1
theorem okP_noquad {xs : List (List Nat)} (h : ∀ p ∈ xs, okP p = true) : ∀ z, xs.getLast? = some z → occ z [46] = true → quadF z = none := fun z hz ho => by
  have := h z (List.mem_of_mem_getLast? hz)
  rw [okP_dot ho] at this; (first | exact nn this | exact sn this | exact tf this | exact ft this | cases this)
theorem groups_glue {xs : List (List Nat)} {last : Bool} (h : ∀ p ∈ xs, okP p = true) : groupsF (glue [58] xs) last = hexs xs := by
  cases xs with
  | nil => rfl
  | cons p r =>
    rw [groups_plain (glue_ne (by simp) h) (fun _ => by rw [spl_glue_ok (by simp) h]; exact okP_noquad h), spl_glue_ok (by simp) h]
theorem octN_glue2 {xs ys : List (List Nat)} (hx : ∀ p ∈ xs, okP p = true) (hy : ∀ p ∈ ys, okP p = true) (h7 : xs.length + ys.length ≤ 7) :
    octetsN (glue [58] xs ++ 58 :: 58 :: glue [58] ys) = some (flatV xs ++ (List.replicate (8 - xs.length - ys.length) 0).flatMap gocts ++ flatV ys) := by
  unfold octetsN
  rw [spl2_first (first_pair (free2_glue hx) (last_glue hx)), spl2_free (free2_glue hy), oct_two (groups_glue hx) (groups_glue hy), if_pos]
  exact ⟨h7, List.all_eq_true.mpr hx, List.all_eq_true.mpr hy⟩
theorem octN_glue1 {xs : List (List Nat)} (hx : ∀ p ∈ xs, okP p = true) (h8 : xs.length = 8) : octetsN (glue [58] xs) = some (flatV xs) := by
  unfold octetsN
  rw [spl2_free (free2_glue hx), oct_one (groups_glue hx), if_pos ⟨h8, List.all_eq_true.mpr hx⟩]
/- ## the texts of sixteen octets -/
noncomputable def tx (b : List UInt8) : List (List Nat) := (List.range 8).map fun k => hexF (grpN b k)
theorem texts_tx (b : List UInt8) : textsOf b = tx b := by
  unfold textsOf tx
  rw [groups_N, List.map_map]; rfl
theorem tx_ok (b : List UInt8) : ∀ p ∈ tx b, okP p = true := by
  intro p hp
  obtain ⟨k, hq1⟩ := (List.mem_map.mp hp)
  refine and2 hq1 fun _ he2 => ?_
  clear hq1
  obtain rfl := he2
  exact (hexF_ok (grpN_lt b k)).1
theorem tx_len (b : List UInt8) : (tx b).length = 8 := by unfold tx; simp
theorem gocts_pair (x y : UInt8) : gocts (x.toNat * 256 + y.toNat) = [x, y] := by
  unfold gocts
  have h1 := y.toNat_lt
  rw [show (x.toNat * 256 + y.toNat) / 256 = x.toNat by (first | lia | omega), show (x.toNat * 256 + y.toNat) % 256 = y.toNat by (first | lia | omega)]
  simp [Nat.toUInt8]
theorem pairs_back : ∀ (n : Nat) (b : List UInt8), b.length = 2 * n → (List.range n).flatMap (fun k => gocts ((b.getD (2 * k) 0).toNat * 256 + (b.getD (2 * k + 1) 0).toNat)) = b
  | 0, [], _ => rfl
  | 0, _ :: _, h => absurd h (Nat.succ_ne_zero _)
  | n + 1, [], h => absurd h.symm (Nat.succ_ne_zero _)
  | n + 1, [_], h => absurd (Nat.succ.inj h).symm (Nat.succ_ne_zero _)
  | n + 1, x :: y :: r, h => by
    rw [List.range_succ_eq_map, List.flatMap_cons, List.flatMap_map]
    exact (congrArg (· ++ _) (gocts_pair x y)).trans (congrArg (x :: y :: ·) (pairs_back n r (Nat.succ.inj (Nat.succ.inj h))))
theorem flat_tx {b : List UInt8} (h : b.length = 16) : flatV (tx b) = b := by
  have e : flatV (tx b) = (List.range 8).flatMap fun k => gocts (grpN b k) := by
    unfold flatV tx
    rw [List.flatMap_map]
    unfold List.flatMap
    congr 1
    refine List.map_congr_left fun k _ => ?_
    rw [(hexF_ok (grpN_lt b k)).2]
  rw [e]
  exact pairs_back 8 b h
theorem flat_append (a b : List (List Nat)) : flatV (a ++ b) = flatV a ++ flatV b := by unfold flatV; rw [List.flatMap_append]
theorem flat_zero : ∀ ps : List (List Nat), (∀ p ∈ ps, valP p = 0) → flatV ps = (List.replicate ps.length 0).flatMap gocts
  | [], _ => rfl
  | p :: r, h => by
    have ih := flat_zero r fun q hq => h q (by simp [hq])
    unfold flatV at ih ⊢
    rw [List.flatMap_cons, ih, h p (by simp), List.length_cons, List.replicate_succ, List.flatMap_cons]
theorem tx_cut {b : List UInt8} (h : b.length = 16) {m s : Nat} (h8 : s + m ≤ 8) (hz : ∀ k, s ≤ k → k < s + m → grpN b k = 0) :
    flatV ((tx b).take s) ++ (List.replicate m 0).flatMap gocts ++ flatV ((tx b).drop (s + m)) = b := by
  have hmid : flatV (((tx b).drop s).take m) = (List.replicate m 0).flatMap gocts := by
    have hl : (((tx b).drop s).take m).length = m := by rw [List.length_take, List.length_drop, tx_len]; (first | lia | omega)
    rw [flat_zero, hl]
    intro p hp
    obtain ⟨j, hj, hjp⟩ := List.getElem_of_mem hp
    rw [hl] at hj
    have h1 : (((tx b).drop s).take m)[j]? = some p := by rw [← hjp]; exact List.getElem?_eq_getElem _
    rw [List.getElem?_take_of_lt hj, List.getElem?_drop] at h1
    unfold tx at h1
    rw [List.getElem?_map, List.getElem?_range (by (first | lia | omega))] at h1
    have h2 : hexF (grpN b (s + j)) = p := by simpa using h1
    rw [← h2, (hexF_ok (grpN_lt b _)).2]
    exact hz _ (by (first | lia | omega)) (by (first | lia | omega))
  rw [← hmid, ← flat_append, ← flat_append, show ((tx b).take s ++ ((tx b).drop s).take m) ++ (tx b).drop (s + m) = tx b by
    rw [List.append_assoc, ← List.drop_drop, List.take_append_drop, List.take_append_drop], flat_tx h]
/- ## the dotted end -/
theorem dec_key : ∀ k, k < 256 → ((decS (k : Nat) ≠ [] ∧ ∀ c ∈ decS (k : Nat), 48 ≤ c ∧ c ≤ 57) ∧ (decS (k : Nat)).length ≤ 3 ∧ lead (decS (k : Nat)) = false ∧ val10 (decS (k : Nat)) = k) := by decide +kernel
theorem quad_val {p0 p1 p2 p3 : List Nat} {n0 n1 n2 n3 : Nat} (d0 : digP p0) (d1 : digP p1) (d2 : digP p2) (d3 : digP p3) (s0 : p0.length ≤ 3) (s1 : p1.length ≤ 3) (s2 : p2.length ≤ 3) (s3 : p3.length ≤ 3)
    (l0 : lead p0 = false) (l1 : lead p1 = false) (l2 : lead p2 = false) (l3 : lead p3 = false) (v0 : val10 p0 = n0) (v1 : val10 p1 = n1) (v2 : val10 p2 = n2) (v3 : val10 p3 = n3) (b0 : n0 < 256) (b1 : n1 < 256) (b2 : n2 < 256) (b3 : n3 < 256) :
    quadF (glue [46] [p0, p1, p2, p3]) = some [((n0 * 256 + n1 : Nat) : Int), ((n2 * 256 + n3 : Nat) : Int)] := by
  have hfree : ∀ {p : List Nat}, digP p → 46 ∉ p := fun hd q => by have := hd.2 46 q; (first | lia | omega)
  have hs : spl 46 (glue [46] [p0, p1, p2, p3]) = [p0, p1, p2, p3] := spl_glue (by simp) (by
    intro p hp
    simp only [List.mem_cons, List.not_mem_nil, or_false] at hp
    rcases hp with rfl | rfl | rfl | rfl
    · exact hfree d0
    · exact hfree d1
    · exact hfree d2
    · exact hfree d3)
  have hQ : quadF (glue [46] [p0, p1, p2, p3]) = if (spl 46 (glue [46] [p0, p1, p2, p3])).length ≠ 4 then none else if (spl 46 (glue [46] [p0, p1, p2, p3])).any badDec then none else
      if 255 < max (max ((valOf 10 (((spl 46 (glue [46] [p0, p1, p2, p3])).getD 0 []).map dig) : Nat) : Int) ((valOf 10 (((spl 46 (glue [46] [p0, p1, p2, p3])).getD 1 []).map dig) : Nat) : Int)) (max ((valOf 10 (((spl 46 (glue [46] [p0, p1, p2, p3])).getD 2 []).map dig) : Nat) : Int) ((valOf 10 (((spl 46 (glue [46] [p0, p1, p2, p3])).getD 3 []).map dig) : Nat) : Int)) then none else
        some [((valOf 10 (((spl 46 (glue [46] [p0, p1, p2, p3])).getD 0 []).map dig) : Nat) : Int) * 256 + ((valOf 10 (((spl 46 (glue [46] [p0, p1, p2, p3])).getD 1 []).map dig) : Nat) : Int), ((valOf 10 (((spl 46 (glue [46] [p0, p1, p2, p3])).getD 2 []).map dig) : Nat) : Int) * 256 + ((valOf 10 (((spl 46 (glue [46] [p0, p1, p2, p3])).getD 3 []).map dig) : Nat) : Int)] := rfl
  rw [hs] at hQ
  rw [if_neg (by simp)] at hQ
  have hb : ([p0, p1, p2, p3].any badDec) = false := by
    simp only [List.any_cons, List.any_nil, Bool.or_false, badDec_of d0, badDec_of d1, badDec_of d2, badDec_of d3, l0, l1, l2, l3]
    simp; (first | lia | omega)
  rw [if_neg (by rw [hb]; decide)] at hQ
  have hQ' : quadF (glue [46] [p0, p1, p2, p3]) = if 255 < max (max (val10 p0 : Int) (val10 p1 : Int)) (max (val10 p2 : Int) (val10 p3 : Int)) then none else some [(val10 p0 : Int) * 256 + (val10 p1 : Int), (val10 p2 : Int) * 256 + (val10 p3 : Int)] := hQ
  rw [v0, v1, v2, v3, if_neg (by (first | lia | omega))] at hQ'
  rw [hQ']
  congr 2
theorem quad_mem {P : Nat → Prop} {p q r t : List Nat} (h0 : ∀ c ∈ p, P c) (h1 : ∀ c ∈ q, P c) (h2 : ∀ c ∈ r, P c) (h3 : ∀ c ∈ t, P c) : ∀ c ∈ glue [46] [p, q, r, t], P c ∨ c = 46 := by
  have one : ∀ {u v : List Nat}, (∀ c ∈ u, P c ∨ c = 46) → (∀ c ∈ v, P c ∨ c = 46) → ∀ c ∈ u ++ v, P c ∨ c = 46 := fun hu hv c hc => (List.mem_append.mp hc).elim (hu c) (hv c)
  have dot : ∀ c ∈ [46], P c ∨ c = 46 := fun c hc => .inr (List.mem_singleton.mp hc)
  exact one (one (fun c hc => .inl (h0 c hc)) dot) (one (one (fun c hc => .inl (h1 c hc)) dot) (one (one (fun c hc => .inl (h2 c hc)) dot) fun c hc => .inl (h3 c hc)))
theorem octS_facts2 {b : List UInt8} (h : b.length = 16) : quadF (octS b) = some [(grpN b 6 : Int), (grpN b 7 : Int)] ∧ (∀ c ∈ octS b, (48 ≤ c ∧ c ≤ 57) ∨ c = 46) ∧ (octS b).length ≤ 16 := by
  unfold octS
  rw [show (12 : Int) = ((12 : Nat) : Int) from rfl, cut_drop]
  have gd : ∀ k, b.getD (12 + k) 0 = (b.drop 12).getD k 0 := fun k => by rw [List.getD_eq_getElem?_getD, List.getD_eq_getElem?_getD, List.getElem?_drop]
  have g6 : grpN b 6 = ((b.drop 12).getD 0 0).toNat * 256 + ((b.drop 12).getD 1 0).toNat := by rw [← gd, ← gd]; rfl
  have g7 : grpN b 7 = ((b.drop 12).getD 2 0).toNat * 256 + ((b.drop 12).getD 3 0).toNat := by rw [← gd, ← gd]; rfl
  rw [g6, g7]
  have hl : (b.drop 12).length = 4 := by rw [List.length_drop, h]
  generalize b.drop 12 = d at hl
  obtain ⟨x, y, z, w, rfl⟩ := len4 hl
  rw [joinL_glue]
  refine and4 (dec_key _ x.toNat_lt) fun d0 s0 l0 v0 => ?_
  refine and4 (dec_key _ y.toNat_lt) fun d1 s1 l1 v1 => ?_
  refine and4 (dec_key _ z.toNat_lt) fun d2 s2 l2 v2 => ?_
  refine and4 (dec_key _ w.toNat_lt) fun d3 s3 l3 v3 => ?_
  refine ⟨quad_val d0 d1 d2 d3 s0 s1 s2 s3 l0 l1 l2 l3 v0 v1 v2 v3 x.toNat_lt y.toNat_lt z.toNat_lt w.toNat_lt, quad_mem d0.2 d1.2 d2.2 d3.2, ?_⟩
  exact Nat.le_trans (glue_len (k := 3) [46] [decS x.toNat, decS y.toNat, decS z.toNat, decS w.toNat] (by
    intro p hp
    simp only [List.mem_cons, List.not_mem_nil, or_false] at hp
    rcases hp with rfl | rfl | rfl | rfl <;> assumption)) (Nat.le_refl 16)
/- the embedded quad -/
theorem octN_embed {b : List UInt8} (h : b.length = 16) {x : List Nat} {ys : List (List Nat)} (hx : ∀ w, x ++ 58 :: w = 58 :: 58 :: glue [58] ys ++ (if ys = [] then w else 58 :: w)) (hy : ∀ p ∈ ys, okP p = true) (hl : ys.length ≤ 1) :
    octetsN (x ++ 58 :: octS b) = some ((List.replicate (6 - ys.length) 0).flatMap gocts ++ flatV ys ++ gocts (grpN b 6) ++ gocts (grpN b 7)) := by
  refine and3 (octS_facts2 h) fun hq hc _ => ?_
  have g6 : grpN b 6 = (b.getD 12 0).toNat * 256 + (b.getD 13 0).toNat := rfl
  have g7 : grpN b 7 = (b.getD 14 0).toNat * 256 + (b.getD 15 0).toNat := rfl
  obtain ⟨k1, v1⟩ := hexpair (b.getD 12 0).toNat_lt (b.getD 13 0).toNat_lt
  obtain ⟨k2, v2⟩ := hexpair (b.getD 14 0).toNat_lt (b.getD 15 0).toNat_lt
  rw [← g6] at v1
  rw [← g7] at v2
  generalize hex2 (b.getD 12 0).toNat ++ hex2 (b.getD 13 0).toNat = h1 at k1 v1
  generalize hex2 (b.getD 14 0).toNat ++ hex2 (b.getD 15 0).toNat = h2 at k2 v2
  have hfree : 58 ∉ octS b := fun q => by
    rcases hc 58 q with h | h
    · (first | lia | omega)
    · (first | lia | omega)
  rw [octN_quad hfree (quad_dot hq) k1 k2 (by rw [v1, v2]; exact hq)]
  have hok : ∀ p ∈ ys ++ [h1, h2], okP p = true := fun p hp => by
    rcases List.mem_append.mp hp with hp | hp
    · exact hy p hp
    · rcases List.mem_cons.mp hp with rfl | hp
      · exact k1
      · rw [List.mem_singleton.mp hp]; exact k2
  have e : x ++ 58 :: (h1 ++ 58 :: h2) = glue [58] [] ++ 58 :: 58 :: glue [58] (ys ++ [h1, h2]) := by
    rw [hx]
    match ys, hl with
    | [], _ => simp [glue]
    | [p], _ => simp [glue]
  rw [e, octN_glue2 (by simp) hok (by first | (simp; done) | (simp; (first | lia | omega)))]
  congr 1
  have : 8 - ([] : List (List Nat)).length - (ys ++ [h1, h2]).length = 6 - ys.length := by simp
  rw [this, flat_append]
  unfold flatV
  simp [v1, v2]
theorem back_N {b : List UInt8} (h : b.length = 16) : octetsN (wayF b) = some b := by
  unfold wayF
  rcases run_search h with ⟨m, s, e1, _, h2, h8, hz⟩ | ⟨e1, _⟩
  · rw [e1]
    show octetsN (wayOut b m s) = some b
    unfold wayOut
    by_cases c : (s == 0 && (m == 6 || (m == 5 && (groupsOf b).getD 5 0 == 65535))) = true
    · rw [if_pos c]
      simp only [Bool.and_eq_true, Bool.or_eq_true, beq_iff_eq] at c
      obtain ⟨hs0, hm⟩ := c
      subst hs0
      have hcut := tx_cut h (m := 5) (s := 0) (by (first | lia | omega)) (fun k h1 h3 => hz k h1 (by rcases hm with rfl | ⟨rfl, _⟩ <;> (first | lia | omega)))
      have hdrop : (tx b).drop (0 + 5) = [hexF (grpN b 5), hexF (grpN b 6), hexF (grpN b 7)] := rfl
      have hflat : flatV [hexF (grpN b 5), hexF (grpN b 6), hexF (grpN b 7)] = gocts (grpN b 5) ++ (gocts (grpN b 6) ++ gocts (grpN b 7)) := by
        unfold flatV
        simp [(hexF_ok (grpN_lt b 5)).2, (hexF_ok (grpN_lt b 6)).2, (hexF_ok (grpN_lt b 7)).2]
      rw [hdrop, hflat] at hcut
      have hcut' : (List.replicate 5 0).flatMap gocts ++ (gocts (grpN b 5) ++ (gocts (grpN b 6) ++ gocts (grpN b 7))) = b := by simpa [flatV] using hcut
      rcases hm with rfl | ⟨rfl, h5⟩
      · have hz5 : grpN b 5 = 0 := hz 5 (by (first | lia | omega)) (by (first | lia | omega))
        rw [if_pos (show ((6 : Nat) == 6) = true from rfl)]
        show octetsN ([58] ++ 58 :: octS b) = some b
        rw [octN_embed h (ys := []) (by intro w; rfl) (by simp) (by simp)]
        congr 1
        rw [hz5] at hcut'
        refine Eq.trans ?_ hcut'
        have h6 : (List.replicate 6 0).flatMap gocts = (List.replicate 5 0).flatMap gocts ++ gocts 0 := by decide
        show (((List.replicate 6 0).flatMap gocts ++ []) ++ gocts (grpN b 6)) ++ gocts (grpN b 7) = _
        rw [h6]
        simp only [List.append_assoc, List.append_nil, List.nil_append]
      · rw [if_neg (by decide)]
        have h5' : grpN b 5 = 65535 := by
          have : (groupsOf b).getD 5 0 = (grpN b 5 : Int) := rfl
          rw [this] at h5; (first | lia | omega)
        have kf : okP ffffS = true ∧ valP ffffS = 65535 := by
          have := hexF_ok (v := 65535) (by (first | lia | omega))
          have e : hexF 65535 = ffffS := by
            have := hexF_ffff (v := 65535) (by (first | lia | omega))
            simpa using this
          rw [e] at this; exact this
        show octetsN ([58, 58, 102, 102, 102, 102] ++ 58 :: octS b) = some b
        rw [octN_embed h (ys := [ffffS]) (by intro w; rfl) (fun p hp => by rw [List.mem_singleton.mp hp]; exact kf.1) (by simp)]
        congr 1
        rw [h5'] at hcut'
        refine Eq.trans ?_ hcut'
        have : flatV [ffffS] = gocts 65535 := by unfold flatV; simp [kf.2]
        rw [this]
        show (((List.replicate 5 0).flatMap gocts ++ gocts 65535) ++ gocts (grpN b 6)) ++ gocts (grpN b 7) = _
        simp only [List.append_assoc]
    · rw [if_neg c, cut_take, cut_drop, texts_tx, joinL_glue, joinL_glue]
      have hx : ∀ p ∈ (tx b).take s, okP p = true := fun p hp => tx_ok b p (List.mem_of_mem_take hp)
      have hy : ∀ p ∈ (tx b).drop (s + m), okP p = true := fun p hp => tx_ok b p (List.mem_of_mem_drop hp)
      have l1 : ((tx b).take s).length = s := by rw [List.length_take, tx_len]; (first | lia | omega)
      have l2 : ((tx b).drop (s + m)).length = 8 - (s + m) := by rw [List.length_drop, tx_len]
      rw [show glue [58] ((tx b).take s) ++ colon2 ++ glue [58] ((tx b).drop (s + m)) = glue [58] ((tx b).take s) ++ 58 :: 58 :: glue [58] ((tx b).drop (s + m)) by simp [colon2], octN_glue2 hx hy (by (first | lia | omega)), l1, l2, show 8 - s - (8 - (s + m)) = m by (first | lia | omega), tx_cut h h8 hz]
  · rw [e1]
    show octetsN (joinL [58] (textsOf b)) = some b
    rw [texts_tx, joinL_glue, octN_glue1 (tx_ok b) (tx_len b), flat_tx h]
/- ## what is written -/
noncomputable def Wr (c : Nat) : Prop := c ∈ hexAll ∨ c = 58 ∨ c = 46
theorem Wr.low {c : Nat} (h : Wr c) : c < 128 ∧ c ≠ 10 := by
  have key : ∀ c ∈ hexAll, c < 128 ∧ c ≠ 10 := by decide +kernel
  rcases h with h | rfl | rfl
  · exact key c h
  · decide
  · decide
theorem glue_mem {sep : List Nat} : ∀ {ps : List (List Nat)} {c : Nat}, c ∈ glue sep ps → c ∈ sep ∨ ∃ p ∈ ps, c ∈ p
  | [p], c, h => .inr ⟨p, by simp, h⟩
  | p :: q :: r, c, h => by
    rw [glue] at h
    rcases List.mem_append.mp h with h | h
    · rcases List.mem_append.mp h with h | h
      · exact .inr ⟨p, by simp, h⟩
      · exact .inl h
    · rcases glue_mem h with h | ⟨x, hx, hc⟩
      · exact .inl h
      · exact .inr ⟨x, List.mem_cons_of_mem _ hx, hc⟩
theorem glue_ok_len {xs : List (List Nat)} (h : ∀ p ∈ xs, okP p = true) : (glue [58] xs).length ≤ xs.length * 5 := glue_len [58] (k := 4) xs fun p hp => (okP_mem (h p hp)).2.1
theorem glue_wr {xs : List (List Nat)} (h : ∀ p ∈ xs, okP p = true) : ∀ c ∈ glue [58] xs, Wr c := fun c hc => by
  rcases glue_mem hc with hc | ⟨p, hp, hc⟩
  · exact .inr (.inl (by simpa using hc))
  · exact .inl ((okP_mem (h p hp)).2.2 c hc)
theorem way_wr {b : List UInt8} (h : b.length = 16) : (wayF b).length ≤ 100 ∧ ∀ c ∈ wayF b, Wr c := by
  have hoct : ∀ c ∈ octS b, Wr c := fun c hc => by
    rcases (octS_facts2 h).2.1 c hc with hc | hc
    · left
      have : ∀ c, c < 58 → 48 ≤ c → c ∈ hexAll := by decide
      exact this c (by (first | lia | omega)) hc.1
    · exact .inr (.inr hc)
  have hol := (octS_facts2 h).2.2
  unfold wayF
  rcases run_search h with ⟨m, s, e1, _, h2, h8, hz⟩ | ⟨e1, _⟩
  · rw [e1]
    show (wayOut b m s).length ≤ 100 ∧ ∀ c ∈ wayOut b m s, Wr c
    unfold wayOut
    split
    · have key : ∀ pre : List Nat, (pre = colon2 ∨ pre = v4mapS) → (pre ++ octS b).length ≤ 100 ∧ ∀ c ∈ pre ++ octS b, Wr c := by
        intro pre hp
        refine ⟨?_, fun c hc => ?_⟩
        · rw [List.length_append]
          rcases hp with rfl | rfl
          · simp [colon2]; (first | lia | omega)
          · simp [v4mapS]; (first | lia | omega)
        · rcases List.mem_append.mp hc with hc | hc
          · rcases hp with rfl | rfl
            · exact .inr (.inl (by simpa [colon2] using hc))
            · have hc' : c = 58 ∨ c = 102 := by simp [v4mapS] at hc; (first | lia | omega)
              rcases hc' with hc | hc
              · exact .inr (.inl hc)
              · exact .inl (by rw [hc]; decide)
          · exact hoct c hc
      split
      · exact key colon2 (.inl rfl)
      · exact key v4mapS (.inr rfl)
    · rw [cut_take, cut_drop, texts_tx, joinL_glue, joinL_glue]
      have hx : ∀ p ∈ (tx b).take s, okP p = true := fun p hp => tx_ok b p (List.mem_of_mem_take hp)
      have hy : ∀ p ∈ (tx b).drop (s + m), okP p = true := fun p hp => tx_ok b p (List.mem_of_mem_drop hp)
      have l1 : ((tx b).take s).length = s := by rw [List.length_take, tx_len]; (first | lia | omega)
      have l2 : ((tx b).drop (s + m)).length = 8 - (s + m) := by rw [List.length_drop, tx_len]
      have m1 := glue_ok_len hx
      have m2 := glue_ok_len hy
      rw [l1] at m1
      rw [l2] at m2
      refine ⟨?_, fun c hc => ?_⟩
      · simp only [List.length_append, colon2, List.length_cons, List.length_nil]; (first | lia | omega)
      · simp only [List.mem_append] at hc
        rcases hc with (hc | hc) | hc
        · exact glue_wr hx c hc
        · exact .inr (.inl (by simpa [colon2] using hc))
        · exact glue_wr hy c hc
  · rw [e1]
    show (joinL [58] (textsOf b)).length ≤ 100 ∧ ∀ c ∈ joinL [58] (textsOf b), Wr c
    rw [texts_tx, joinL_glue]
    have := glue_ok_len (tx_ok b)
    rw [tx_len] at this
    exact ⟨by (first | lia | omega), glue_wr (tx_ok b)⟩
theorem upper_low {l : List Nat} (h : ∀ c ∈ l, c < 128 ∧ c ≠ 10) : (upperL l).length = l.length ∧ ∀ c ∈ upperL l, c < 128 ∧ c ≠ 10 := by
  have e : upperL l = l.map up1 := by
    unfold upperL
    rw [upper_ascii (x := ⟨l.toArray⟩) fun c hc => (h c (by simpa using hc)).1]
    simp
  rw [e]
  refine ⟨by simp, fun c hc => ?_⟩
  obtain ⟨d, hq3⟩ := (List.mem_map.mp hc)
  refine and2 hq3 fun hd he4 => ?_
  clear hq3
  obtain rfl := he4
  have := h d hd
  unfold up1
  split <;> (first | lia | omega)
theorem laws : Laws where
  way := fun o h => way_law h
  back := fun o h => by
    have hw := way_wr h
    rw [way_law h]
    have hf : Fine (wayF o) := ⟨by (first | lia | omega), fun c hc => ⟨.inl ((hw.2 c hc).low).1, ((hw.2 c hc).low).2⟩⟩
    rw [due_law hf, octets_N (fun c hc => (hf.2 c hc).1), back_N h]
  due := fun l h => due_law h
  scope := fun l h => scope_law h
  written := fun o h => by
    have hw := way_wr h
    rw [way_law h]
    exact ⟨hw.1, fun c hc => ⟨.inl ((hw.2 c hc).low).1, ((hw.2 c hc).low).2⟩⟩
  upper := fun o h => by
    have hw := way_wr h
    rw [way_law h]
    have hu := upper_low fun c hc => (hw.2 c hc).low
    exact ⟨by (first | lia | omega), fun c hc => ⟨.inl (hu.2 c hc).1, (hu.2 c hc).2⟩⟩
end

end Mine
theorem PySem.Challenge.cw_jf0013_01_holds : PySem.Challenge.rw_jf0013_01.Holds := by
  exact Mine.all_of Mine.laws
