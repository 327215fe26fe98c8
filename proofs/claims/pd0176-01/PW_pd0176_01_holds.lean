import PyProof.Rows.All
import Wide.All
import OpenK.AllK
import Wide.FinOn
import PySem.Challenge.RW_pd0176_01
set_option Elab.async false
set_option rowWalk.seconds 0
set_option linter.unusedVariables false
set_option linter.unusedSimpArgs false
set_option compiler.extract_closed false
local macro_rules | `(tactic| omega) => `(tactic| first | (with_reducible assumption) | (with_reducible exact Nat.le_of_ble_eq_true rfl) | (exact Nat.le_trans (by with_reducible assumption) (by with_reducible exact Nat.le_of_ble_eq_true rfl)) | ((fail_if_success (fail_if_success (omega +splitDisjunctions))); (first | lia | (omega +splitDisjunctions))))
section
namespace Mine
/-- what lies between the signs that sl tells -/
noncomputable def addHd {α : Type} (a : α) : List (List α) → List (List α)
  | [] => [[a]]
  | p :: r => (a :: p) :: r
noncomputable def cuts {α : Type} (sl : α → Bool) : List α → List (List α)
  | [] => [[]]
  | a :: l => if sl a then [] :: cuts sl l else addHd a (cuts sl l)
theorem addHd_ne {α : Type} (a : α) (l : List (List α)) : addHd a l ≠ [] := by cases l <;> simp [addHd]
theorem cuts_ne {α : Type} (sl : α → Bool) (l : List α) : cuts sl l ≠ [] := by
  cases l with
  | nil => simp [cuts]
  | cons a l => unfold cuts; split; simp; exact addHd_ne _ _
theorem addHd_append {α : Type} (a : α) {l m : List (List α)} (h : l ≠ []) : addHd a (l ++ m) = addHd a l ++ m := by
  cases l with
  | nil => exact absurd rfl h
  | cons p r => rfl
theorem cuts_mid {α : Type} {sl : α → Bool} {c : α} (hc : sl c = true) (q : List α) : ∀ p : List α, cuts sl (p ++ c :: q) = cuts sl p ++ cuts sl q
  | [] => by simp [cuts, hc]
  | a :: p => by
    rw [List.cons_append, cuts, cuts, cuts_mid hc q p]
    split
    · rfl
    · exact addHd_append a (cuts_ne sl p)
/-- the pieces that hold something -/
noncomputable def full {α : Type} (l : List (List α)) : List (List α) := l.filter (fun p => !p.isEmpty)
noncomputable def names {α : Type} (sl : α → Bool) (l : List α) : List (List α) := full (cuts sl l)
theorem full_append {α : Type} (l m : List (List α)) : full (l ++ m) = full l ++ full m := List.filter_append ..
theorem names_mid {α : Type} {sl : α → Bool} {c : α} (hc : sl c = true) (p q : List α) : names sl (p ++ c :: q) = names sl p ++ names sl q := by
  rw [names, cuts_mid hc, full_append]; rfl
theorem names_nil {α : Type} (sl : α → Bool) : names sl [] = [] := rfl
theorem names_end {α : Type} {sl : α → Bool} {c : α} (hc : sl c = true) (p : List α) : names sl (p ++ [c]) = names sl p := by
  rw [names_mid hc, names_nil, List.append_nil]
theorem names_head {α : Type} {sl : α → Bool} {c : α} (hc : sl c = true) (q : List α) : names sl (c :: q) = names sl q := by
  have := names_mid hc [] q
  simpa [names_nil] using this
/-- signs written out -/
noncomputable def wr {α : Type} (e : α → List Nat) (l : List α) : List Nat := l.flatMap e
theorem wr_nil {α : Type} (e : α → List Nat) : wr e [] = [] := rfl
theorem wr_cons {α : Type} (e : α → List Nat) (a : α) (l : List α) : wr e (a :: l) = e a ++ wr e l := by simp [wr]
theorem wr_append {α : Type} (e : α → List Nat) (l m : List α) : wr e (l ++ m) = wr e l ++ wr e m := by simp [wr]
noncomputable def addHds {α : Type} (w : List α) : List (List α) → List (List α)
  | [] => [w]
  | p :: r => (w ++ p) :: r
theorem cuts_word {α : Type} {sl : α → Bool} {l : List α} : ∀ {w : List α}, (∀ c ∈ w, sl c = false) → cuts sl (w ++ l) = addHds w (cuts sl l)
  | [], _ => by
    cases h : cuts sl l with
    | nil => exact absurd h (cuts_ne _ _)
    | cons p r => simp [addHds, h]
  | a :: w, hw => by
    rw [List.cons_append, cuts, hw a (.head _), cuts_word fun c hc => hw c (.tail _ hc)]
    cases h : cuts sl l with
    | nil => exact absurd h (cuts_ne _ _)
    | cons p r => simp [addHds, addHd]
/-- e writes the sign s for what sl tells and never else -/
structure Writes {α : Type} (e : α → List Nat) (sl : α → Bool) (s : Nat) : Prop where
  yes : ∀ a, sl a = true → e a = [s]
  no : ∀ a, sl a = false → s ∉ e a
  some : ∀ a, e a ≠ []
theorem cuts_wr {α : Type} {e : α → List Nat} {sl : α → Bool} {s : Nat} (W : Writes e sl s) : ∀ l : List α, cuts (· == s) (wr e l) = (cuts sl l).map (wr e)
  | [] => rfl
  | a :: l => by
    rw [wr_cons, cuts]
    cases h : sl a with
    | true =>
      rw [W.yes a h]
      simp only [List.singleton_append, if_true, cuts, beq_self_eq_true, List.map_cons, wr_nil, cuts_wr W l]
    | false =>
      rw [cuts_word (fun c hc => by
        cases q : (c == s) with
        | false => rfl
        | true => exact absurd (beq_iff_eq.mp q ▸ hc) (W.no a h)), cuts_wr W l]
      cases q : cuts sl l with
      | nil => exact absurd q (cuts_ne _ _)
      | cons p r => simp [addHds, addHd, wr_cons]
theorem wr_empty {α : Type} {e : α → List Nat} {sl : α → Bool} {s : Nat} (W : Writes e sl s) (l : List α) : (wr e l).isEmpty = l.isEmpty := by
  cases l with
  | nil => rfl
  | cons a l =>
    rw [wr_cons]
    cases h : e a with
    | nil => exact absurd h (W.some a)
    | cons _ _ => rfl
theorem names_wr {α : Type} {e : α → List Nat} {sl : α → Bool} {s : Nat} (W : Writes e sl s) (l : List α) : names (· == s) (wr e l) = (names sl l).map (wr e) := by
  unfold names full
  rw [cuts_wr W, List.filter_map]
  congr 1
  apply List.filter_congr
  intro p _
  simp only [Function.comp, wr_empty W]
/-- the slashes ahead -/
noncomputable def lead {α : Type} (sl : α → Bool) (l : List α) : Nat := (l.takeWhile sl).length
theorem lead_wr {α : Type} {e : α → List Nat} {sl : α → Bool} {s : Nat} (W : Writes e sl s) : ∀ l : List α, lead (· == s) (wr e l) = lead sl l
  | [] => rfl
  | a :: l => by
    rw [wr_cons]
    cases h : sl a with
    | true =>
      have := lead_wr W l
      unfold lead at this ⊢
      rw [W.yes a h, List.takeWhile_cons, h]
      simp only [List.singleton_append, List.takeWhile_cons, beq_self_eq_true, if_true, List.length_cons]
      rw [this]
    | false =>
      unfold lead
      rw [List.takeWhile_cons, h]
      cases q : e a with
      | nil => exact absurd q (W.some a)
      | cons b r =>
        have : (b == s) = false := by
          cases z : (b == s) with
          | false => rfl
          | true => exact absurd (by rw [q, beq_iff_eq.mp z]; exact .head _) (W.no a h)
        simp [List.takeWhile_cons, this]
/-- one turn of join -/
noncomputable def joinL (p b : List Nat) : List Nat :=
  if b.head? = some 47 ∨ p = [] then b
  else if p.getLast? = some 47 then p ++ b
  else p ++ 47 :: b
noncomputable abbrev sl47 (c : Nat) : Bool := c == 47
theorem names_joinL {p b : List Nat} (h : b.head? ≠ some 47) : names sl47 (joinL p b) = names sl47 p ++ names sl47 b := by
  unfold joinL
  split
  · rename_i hc
    rcases hc with hc | hc
    · exact absurd hc h
    · rw [hc, names_nil, List.nil_append]
  · split
    · rename_i hl
      obtain ⟨q, rfl⟩ := List.getLast?_eq_some_iff.mp hl
      rw [List.append_assoc, List.singleton_append, names_mid rfl, names_end rfl]
    · exact names_mid rfl p b
theorem lead_app {p b : List Nat} (h : b.head? ≠ some 47) : lead sl47 (p ++ b) = lead sl47 p := by
  induction p with
  | nil =>
    cases b with
    | nil => rfl
    | cons c r =>
      have : (c == 47) = false := by
        cases q : (c == 47) with
        | false => rfl
        | true => exact absurd (by rw [beq_iff_eq.mp q]; rfl) h
      simp [lead, sl47, List.takeWhile_cons, this]
  | cons a p ih =>
    unfold lead at ih ⊢
    rw [List.cons_append, List.takeWhile_cons, List.takeWhile_cons]
    split
    · simp only [List.length_cons, ih]
    · rfl
theorem lead_mid {b : List Nat} : ∀ {p : List Nat}, p ≠ [] → p.getLast? ≠ some 47 → lead sl47 (p ++ b) = lead sl47 p
  | [], h, _ => absurd rfl h
  | [a], _, h => by
    have : (a == 47) = false := by
      cases q : (a == 47) with
      | false => rfl
      | true => exact absurd (by rw [beq_iff_eq.mp q]; rfl) h
    simp [lead, sl47, List.takeWhile_cons, this]
  | a :: c :: p, _, h => by
    have ih := lead_mid (b := b) (p := c :: p) (by simp) (by simpa using h)
    unfold lead at ih ⊢
    rw [List.cons_append, List.takeWhile_cons, List.takeWhile_cons]
    split
    · simp only [List.length_cons, ih]
    · rfl
theorem lead_joinL {p b : List Nat} (h : b.head? ≠ some 47) : lead sl47 (joinL p b) = lead sl47 p := by
  unfold joinL
  split
  · rename_i hc
    rcases hc with hc | hc
    · exact absurd hc h
    · rw [hc]
      have := lead_app (p := []) h
      simpa using this
  · rename_i hc
    split
    · exact lead_app h
    · rename_i hl
      exact lead_mid (fun e => hc (.inr e)) hl
theorem fold_rest : ∀ (ys : List (List Nat)) (p : List Nat), (∀ b ∈ ys, b.head? ≠ some 47) → names sl47 (ys.foldl joinL p) = names sl47 p ++ ys.flatMap (names sl47) ∧ lead sl47 (ys.foldl joinL p) = lead sl47 p
  | [], p, _ => by simp
  | b :: ys, p, h => by
    have ih := fold_rest ys (joinL p b) fun c hc => h c (.tail _ hc)
    have hb := h b (.head _)
    rw [List.foldl_cons, ih.1, ih.2, names_joinL hb, lead_joinL hb]
    simp
theorem joinL_root {p b : List Nat} (h : b.head? = some 47) : joinL p b = b := by rw [joinL, if_pos (.inl h)]
/-- all parts joined, from the last with a slash ahead -/
theorem fold_parts {x : List Nat} {ys : List (List Nat)} {first : Nat} {pf : List Nat} (hf : (x :: ys)[first]? = some pf) (h0 : first = 0 ∨ pf.head? = some 47) (hr : ∀ b ∈ (x :: ys).drop (first + 1), b.head? ≠ some 47) :
    names sl47 (ys.foldl joinL x) = ((x :: ys).drop first).flatMap (names sl47) ∧ lead sl47 (ys.foldl joinL x) = lead sl47 pf := by
  cases first with
  | zero =>
    simp only [List.getElem?_cons_zero, Option.some.injEq] at hf
    subst hf
    have := fold_rest ys x (by simpa using hr)
    simpa using this
  | succ n =>
    rcases h0 with h0 | h0
    · cases h0
    · simp only [List.getElem?_cons_succ] at hf
      simp only [List.drop_succ_cons] at hr ⊢
      have hn : n < ys.length := (List.getElem?_eq_some_iff.mp hf).1
      have e1 : ys = ys.take n ++ pf :: ys.drop (n + 1) := by
        rw [List.getElem?_eq_getElem hn] at hf
        rw [← Option.some.inj hf, List.getElem_cons_drop, List.take_append_drop]
      have e2 : ys.foldl joinL x = (ys.drop (n + 1)).foldl joinL pf := by
        conv => lhs; rw [e1]
        rw [List.foldl_append, List.foldl_cons, joinL_root h0]
      have e3 : ys.drop n = pf :: ys.drop (n + 1) := by
        rw [List.getElem?_eq_getElem hn] at hf
        rw [← Option.some.inj hf, List.getElem_cons_drop]
      rw [e2, e3]
      have := fold_rest (ys.drop (n + 1)) pf hr
      simpa using this
end Mine
end

section
namespace Mine
/-- a list of texts glued -/
noncomputable def glueS (s : Nat) : List (List Nat) → List Nat
  | [] => []
  | a :: r => a ++ r.flatMap (fun p => s :: p)
noncomputable def normStepL (rooted : Bool) (acc : List (List Nat)) (c : List Nat) : List (List Nat) :=
  if c = [] ∨ c = [46] then acc
  else if c ≠ [46, 46] ∨ (rooted = false ∧ acc = []) ∨ acc.getLast? = some [46, 46] then acc ++ [c]
  else acc.dropLast
noncomputable def rootL (n : Nat) : List Nat := if n = 0 then [] else if n = 2 then [47, 47] else [47]
noncomputable def pathL (root : List Nat) (ns : List (List Nat)) : List Nat := if root ++ glueS 47 ns = [] then [46] else root ++ glueS 47 ns
noncomputable def normL (x : List Nat) : List Nat := pathL (rootL (lead sl47 x)) ((names sl47 x).foldl (normStepL (lead sl47 x != 0)) [])
theorem fold_full (r : Bool) : ∀ (l acc : List (List Nat)), (full l).foldl (normStepL r) acc = l.foldl (normStepL r) acc
  | [], _ => rfl
  | p :: l, acc => by
    unfold full
    rw [List.filter_cons]
    cases p with
    | nil =>
      have : normStepL r acc [] = acc := by simp [normStepL]
      rw [List.foldl_cons, this]
      exact fold_full r l acc
    | cons a p =>
      simp only [List.isEmpty_cons, Bool.not_false, if_true, List.foldl_cons]
      exact fold_full r l _
/-- a sign and whether it is a bare blank -/
noncomputable abbrev Tk := Nat × Bool
noncomputable def wordOf (p : List Tk) : List Nat := p.map (·.1)
noncomputable abbrev ddT : List Tk := [(46, false), (46, false)]
noncomputable def stStep (x : List Tk) (s : List (List Tk) × Nat) : List (List Tk) × Nat :=
  if wordOf x = [46, 46] then (s.1, s.2 + 1)
  else if wordOf x ≠ [46] ∧ s.2 > 0 then (s.1, s.2 - 1)
  else if wordOf x ≠ [46] then (x :: s.1, s.2)
  else s
noncomputable def straight (r : Bool) (ns : List (List Tk)) : List (List Tk) :=
  (if r = false then List.replicate (ns.foldr stStep ([], 0)).2 ddT else []) ++ (ns.foldr stStep ([], 0)).1
noncomputable def ups (r : Bool) : Nat → List (List Nat) → List (List Nat)
  | 0, s => s
  | n + 1, s => ups r n (normStepL r s [46, 46])
/-- e writes a dot as a dot, and nothing else so -/
structure Dots (e : Tk → List Nat) : Prop where
  some : ∀ a, e a ≠ []
  dot : ∀ a, e a = [46] ↔ a.1 = 46
  two : ∀ a, e a ≠ [46, 46]
theorem app_one {a b : List Nat} {x : Nat} (ha : a ≠ []) (h : a ++ b = [x]) : a = [x] ∧ b = [] := by
  cases a with
  | nil => exact absurd rfl ha
  | cons y a =>
    simp only [List.cons_append, List.cons.injEq, List.append_eq_nil_iff] at h
    exact ⟨by rw [h.1, h.2.1], h.2.2⟩
theorem Dots.one {e : Tk → List Nat} (D : Dots e) {p : List Tk} : wr e p = [46] ↔ wordOf p = [46] := by
  cases p with
  | nil => simp [wr, wordOf]
  | cons a p =>
    rw [wr_cons]
    constructor
    · intro h
      obtain ⟨h1, h2⟩ := app_one (D.some a) h
      have : p = [] := by
        cases p with
        | nil => rfl
        | cons b p =>
          rw [wr_cons, List.append_eq_nil_iff] at h2
          exact absurd h2.1 (D.some b)
      rw [this, wordOf, List.map_cons, (D.dot a).mp h1]; rfl
    · intro h
      simp only [wordOf, List.map_cons, List.cons.injEq, List.map_eq_nil_iff] at h
      rw [h.2, (D.dot a).mpr h.1]; rfl
theorem Dots.dd {e : Tk → List Nat} (D : Dots e) {p : List Tk} : wr e p = [46, 46] ↔ wordOf p = [46, 46] := by
  cases p with
  | nil => simp [wr, wordOf]
  | cons a p =>
    rw [wr_cons]
    constructor
    · intro h
      have h1 : e a = [46] ∧ wr e p = [46] := by
        cases q : e a with
        | nil => exact absurd q (D.some a)
        | cons x r =>
          rw [q] at h
          simp only [List.cons_append, List.cons.injEq] at h
          obtain ⟨h0, h1⟩ := h
          cases r with
          | nil => simp only [List.nil_append] at h1; exact ⟨by rw [h0], h1⟩
          | cons y r =>
            obtain ⟨h2, h3⟩ := app_one (by simp) h1
            exact absurd (by rw [q, h0, h2]) (D.two a)
      have h2 := D.one.mp h1.2
      simp only [wordOf, List.map_cons] at h2 ⊢
      rw [h2, (D.dot a).mp h1.1]
    · intro h
      simp only [wordOf, List.map_cons, List.cons.injEq] at h
      rw [(D.dot a).mpr h.1, D.one.mpr h.2]; rfl
theorem fold_straight {e : Tk → List Nat} (D : Dots e) (r : Bool) : ∀ (ns : List (List Tk)) (s : List (List Nat)), (∀ p ∈ ns, p ≠ []) →
    (ns.map (wr e)).foldl (normStepL r) s = ups r (ns.foldr stStep ([], 0)).2 s ++ ((ns.foldr stStep ([], 0)).1).map (wr e)
  | [], s, _ => by simp [ups]
  | x :: ns, s, h => by
    rw [List.map_cons, List.foldl_cons, fold_straight D r ns _ fun p hp => h p (.tail _ hp), List.foldr_cons]
    generalize ns.foldr stStep ([], 0) = st
    obtain ⟨l, u⟩ := st
    have hx : wr e x ≠ [] := by
      have := h x (.head _)
      cases x with
      | nil => exact absurd rfl this
      | cons a x => rw [wr_cons]; intro hh; exact D.some a (List.append_eq_nil_iff.mp hh).1
    unfold stStep
    by_cases h1 : wordOf x = [46, 46]
    · rw [if_pos h1, D.dd.mpr h1]; rfl
    · rw [if_neg h1]
      have h1' : wr e x ≠ [46, 46] := fun q => h1 (D.dd.mp q)
      by_cases h2 : wordOf x = [46]
      · rw [if_neg (fun q => q.1 h2), if_neg (fun q => q h2), D.one.mpr h2]
        have : normStepL r s [46] = s := by simp [normStepL]
        rw [this]
      · have h2' : wr e x ≠ [46] := fun q => h2 (D.one.mp q)
        have hs : normStepL r s (wr e x) = s ++ [wr e x] := by
          unfold normStepL
          rw [if_neg (fun q => q.elim hx h2'), if_pos (.inl h1')]
        rw [hs]
        cases u with
        | zero =>
          rw [if_neg (fun q => Nat.lt_irrefl 0 q.2), if_pos h2]
          simp [ups]
        | succ u =>
          rw [if_pos ⟨h2, Nat.succ_pos u⟩]
          have hp : normStepL r (s ++ [wr e x]) [46, 46] = s := by
            unfold normStepL
            rw [if_neg (by simp), if_neg ?_, List.dropLast_concat]
            rintro (q | q | q)
            · exact q rfl
            · exact absurd q.2 (by simp)
            · simp at q; exact h1' q
          show ups r u (normStepL r (s ++ [wr e x]) [46, 46]) ++ _ = ups r u s ++ _
          rw [hp]
theorem ups_rooted (n : Nat) : ups true n [] = [] := by
  induction n with
  | zero => rfl
  | succ n ih => exact ih
theorem ups_free : ∀ (n k : Nat), ups false n (List.replicate k [46, 46]) = List.replicate (k + n) [46, 46]
  | 0, k => rfl
  | n + 1, k => by
    have : normStepL false (List.replicate k [46, 46]) [46, 46] = List.replicate (k + 1) [46, 46] := by
      unfold normStepL
      rw [if_neg (by simp), if_pos ?_, List.replicate_succ']
      cases k with
      | zero => exact .inr (.inl ⟨rfl, rfl⟩)
      | succ k => exact .inr (.inr (by rw [List.replicate_succ', List.getLast?_append]; rfl))
    rw [ups, this, ups_free n (k + 1)]
    congr 1
    omega
theorem straight_ok {e : Tk → List Nat} (D : Dots e) (r : Bool) (ns : List (List Tk)) (h : ∀ p ∈ ns, p ≠ []) :
    (ns.map (wr e)).foldl (normStepL r) [] = (straight r ns).map (wr e) := by
  rw [fold_straight D r ns [] h]
  unfold straight
  cases r with
  | true => rw [ups_rooted]; simp
  | false =>
    have := ups_free (ns.foldr stStep ([], 0)).2 0
    simp only [List.replicate_zero, Nat.zero_add] at this
    rw [this, if_pos rfl, List.map_append, List.map_replicate]
    rw [show wr e ddT = [46, 46] from D.dd.mpr rfl]
theorem fold_plain {e : Tk → List Nat} (h46 : ∀ a, 46 ∉ e a) (hs : ∀ a, e a ≠ []) (r : Bool) : ∀ (ns : List (List Tk)) (s : List (List Nat)), (∀ p ∈ ns, p ≠ []) →
    (ns.map (wr e)).foldl (normStepL r) s = s ++ ns.map (wr e)
  | [], s, _ => by simp
  | x :: ns, s, h => by
    rw [List.map_cons, List.foldl_cons, fold_plain h46 hs r ns _ fun p hp => h p (.tail _ hp)]
    have hx : wr e x ≠ [] := by
      have := h x (.head _)
      cases x with
      | nil => exact absurd rfl this
      | cons a x => rw [wr_cons]; intro hh; exact hs a (List.append_eq_nil_iff.mp hh).1
    have hn : 46 ∉ wr e x := by
      unfold wr
      rw [List.mem_flatMap]
      rintro ⟨a, _, q⟩
      exact h46 a q
    have : normStepL r s (wr e x) = s ++ [wr e x] := by
      unfold normStepL
      rw [if_neg, if_pos]
      · exact .inl (fun q => hn (by rw [q]; exact .head _))
      · rintro (q | q)
        · exact hx q
        · exact hn (by rw [q]; exact .head _)
    rw [this]
    simp
theorem full_ne {α : Type} {l : List (List α)} : ∀ p ∈ full l, p ≠ [] := by
  intro p hp
  have := (List.mem_filter.mp hp).2
  intro q
  rw [q] at this
  cases this
theorem glue_wr {e : Tk → List Nat} (h47 : e (47, false) = [47]) : ∀ (ns : List (List Tk)), glueS 47 (ns.map (wr e)) = wr e (match ns with | [] => [] | a :: r => a ++ r.flatMap (fun p => (47, false) :: p))
  | [] => rfl
  | a :: r => by
    simp only [List.map_cons, glueS]
    rw [wr_append]
    congr 1
    induction r with
    | nil => rfl
    | cons b r ih =>
      simp only [List.map_cons, List.flatMap_cons]
      rw [wr_append, wr_cons, h47, ← ih]
      simp
noncomputable def glueT : List (List Tk) → List Tk
  | [] => []
  | a :: r => a ++ r.flatMap (fun p => (47, false) :: p)
noncomputable def rootT (n : Nat) : List Tk := if n = 0 then [] else if n = 2 then [(47, false), (47, false)] else [(47, false)]
/-- a path's signs -/
noncomputable def pathT (n : Nat) (ns : List (List Tk)) : List Tk := if rootT n ++ glueT ns = [] then [(46, false)] else rootT n ++ glueT ns
theorem root_wr {e : Tk → List Nat} (h47 : e (47, false) = [47]) (n : Nat) : rootL n = wr e (rootT n) := by
  unfold rootL rootT
  split
  · rfl
  · split
    · simp [wr, h47]
    · simp [wr, h47]
theorem path_raw {e : Tk → List Nat} (h47 : e (47, false) = [47]) (n : Nat) (ns : List (List Tk)) : rootL n ++ glueS 47 (ns.map (wr e)) = wr e (rootT n ++ glueT ns) := by
  rw [wr_append, root_wr h47, glue_wr h47]
  congr 2
theorem wr_eq_nil {e : Tk → List Nat} (hs : ∀ a, e a ≠ []) (l : List Tk) : wr e l = [] ↔ l = [] := by
  cases l with
  | nil => simp [wr]
  | cons a l => rw [wr_cons]; simp [hs a]
theorem path_wr {e : Tk → List Nat} (D : Dots e) (h47 : e (47, false) = [47]) (n : Nat) (ns : List (List Tk)) : pathL (rootL n) (ns.map (wr e)) = wr e (pathT n ns) := by
  unfold pathL pathT
  rw [path_raw h47]
  by_cases h : rootT n ++ glueT ns = []
  · rw [if_pos ((wr_eq_nil D.some _).mpr h), if_pos h]
    exact (D.one.mpr rfl).symm
  · rw [if_neg (fun q => h ((wr_eq_nil D.some _).mp q)), if_neg h]
end Mine
end

section
namespace Mine
/-- the octet's two great figures -/
noncomputable def hexD (d : Nat) : Nat := if d < 10 then 48 + d else 55 + d
noncomputable def hex2 (n : Nat) : List Nat := [hexD (n / 16), hexD (n % 16)]
/-- the header's table -/
noncomputable def htab (c : Nat) : List Nat := if (97 ≤ c ∧ c ≤ 122) ∨ (65 ≤ c ∧ c ≤ 90) ∨ (48 ≤ c ∧ c ≤ 57) ∨ c = 45 ∨ c = 33 ∨ c = 42 ∨ c = 43 ∨ c = 47 then [c] else if c = 32 then [95] else 61 :: hex2 c
/-- the body's table -/
noncomputable def btab (c : Nat) : List Nat := if (32 ≤ c ∧ c ≤ 126 ∧ c ≠ 61) ∨ c = 9 ∨ c = 10 ∨ c = 13 then [c] else 61 :: hex2 c
noncomputable def e1 (t : Tk) : List Nat := [t.1]
noncomputable def e2 (t : Tk) : List Nat := if (t.1 = 9 ∨ t.1 = 32) ∧ t.2 = false then 61 :: hex2 t.1 else btab t.1
noncomputable def e3 (t : Tk) : List Nat := htab t.1
noncomputable abbrev slT (t : Tk) : Bool := t.1 == 47
noncomputable abbrev nlT (t : Tk) : Bool := t.1 == 10
theorem hexD_ge (d : Nat) : 48 ≤ hexD d := by unfold hexD; split <;> omega
theorem W1 : Writes e1 slT 47 where
  yes a h := by simp [e1, beq_iff_eq.mp h]
  no a h := by simp only [e1, List.mem_singleton]; intro q; simp [slT, ← q] at h
  some a := by simp [e1]
theorem btab_ne (c : Nat) : btab c ≠ [] := by unfold btab; split <;> simp
theorem htab_ne (c : Nat) : htab c ≠ [] := by unfold htab; split; simp; split <;> simp
theorem e2_ne (a : Tk) : e2 a ≠ [] := by unfold e2; split; simp; exact btab_ne _
theorem hex_no {s c : Nat} (h : s < 48) (h6 : s ≠ 61) : s ∉ (61 :: hex2 c) := by
  have h1 := hexD_ge (c / 16)
  have h2 := hexD_ge (c % 16)
  simp only [hex2, List.mem_cons, List.not_mem_nil, or_false, not_or]
  omega
theorem btab_no {s c : Nat} (h : s < 48) (h6 : s ≠ 61) (hc : c ≠ s) : s ∉ btab c := by
  unfold btab
  split
  · simpa using fun q => hc q.symm
  · exact hex_no h h6
theorem e2_no {s : Nat} {a : Tk} (h : s < 48) (h6 : s ≠ 61) (hc : a.1 ≠ s) : s ∉ e2 a := by
  unfold e2
  split
  · exact hex_no h h6
  · exact btab_no h h6 hc
theorem W2 : Writes e2 slT 47 where
  yes a h := by
    have := beq_iff_eq.mp h
    simp [e2, btab, this]
  no a h := e2_no (by omega) (by omega) (by simpa using h)
  some := e2_ne
theorem W2n : Writes e2 nlT 10 where
  yes a h := by
    have := beq_iff_eq.mp h
    simp [e2, btab, this]
  no a h := e2_no (by omega) (by omega) (by simpa using h)
  some := e2_ne
theorem W3 : Writes e3 slT 47 where
  yes a h := by
    have := beq_iff_eq.mp h
    simp [e3, htab, this]
  no a h := by
    have h' : a.1 ≠ 47 := by simpa using h
    unfold e3 htab
    split
    · simpa using fun q => h' q.symm
    · split
      · simp
      · exact hex_no (by omega) (by omega)
  some a := htab_ne _
theorem D1 : Dots e1 where
  some a := by simp [e1]
  dot a := by simp [e1]
  two a := by simp [e1]
theorem D2 : Dots e2 where
  some := e2_ne
  dot a := by
    constructor
    · intro h
      by_cases q : a.1 = 46
      · exact q
      · exact absurd (by rw [h]; exact .head _) (e2_no (s := 46) (by omega) (by omega) q)
    · intro h; simp [e2, btab, h]
  two a h := by
    by_cases q : a.1 = 46
    · simp [e2, btab, q] at h
    · exact absurd (by rw [h]; exact .head _) (e2_no (s := 46) (by omega) (by omega) q)
theorem e3_46 (a : Tk) : 46 ∉ e3 a := by
  unfold e3 htab
  split
  · simp only [List.mem_singleton]; omega
  · split
    · simp
    · exact hex_no (by omega) (by omega)
/-- a part's signs: a blank or tab is bare if a sign that is no line end follows in the part -/
noncomputable def toksOf : List Nat → List Tk
  | [] => []
  | [a] => [(a, false)]
  | a :: b :: l => (a, (a == 9 || a == 32) && b != 10) :: toksOf (b :: l)
theorem toks_word : ∀ l, (toksOf l).map (·.1) = l
  | [] => rfl
  | [_] => rfl
  | a :: b :: l => by rw [toksOf, List.map_cons, toks_word (b :: l)]
theorem toks_e1 (l : List Nat) : wr e1 (toksOf l) = l := by
  conv => rhs; rw [← toks_word l]
  generalize toksOf l = t
  induction t with
  | nil => rfl
  | cons a t ih => rw [wr_cons, ih]; rfl
theorem toks_e3 (l : List Nat) : wr e3 (toksOf l) = l.flatMap htab := by
  conv => rhs; rw [← toks_word l]
  generalize toksOf l = t
  induction t with
  | nil => rfl
  | cons a t ih => rw [wr_cons, ih]; rfl
theorem head_wr {e : Tk → List Nat} (W : Writes e slT 47) (l : List Nat) : (wr e (toksOf l)).head? = some 47 ↔ l.head? = some 47 := by
  have hl : lead sl47 (wr e (toksOf l)) = lead slT (toksOf l) := lead_wr W _
  cases l with
  | nil => simp [toksOf, wr]
  | cons a l =>
    have ht : ∃ b r, toksOf (a :: l) = (a, b) :: r := by
      cases l with
      | nil => exact ⟨false, [], rfl⟩
      | cons c l => exact ⟨_, _, rfl⟩
    obtain ⟨b, r, ht⟩ := ht
    rw [ht, wr_cons]
    by_cases q : a = 47
    · rw [W.yes (a, b) (by simp [slT, q])]; simp [q]
    · have hn := W.no (a, b) (by simp [slT, q])
      cases h : e (a, b) with
      | nil => exact absurd h (W.some _)
      | cons y z =>
        rw [h] at hn
        simp only [List.cons_append, List.head?_cons, Option.some.injEq, q, iff_false]
        intro q'; exact hn (by rw [q']; exact .head _)
theorem lead_toks (l : List Nat) : lead slT (toksOf l) = lead sl47 l := by
  have := lead_wr W1 (toksOf l)
  rw [toks_e1] at this
  exact this.symm
/-- the names from the part at first on -/
noncomputable def namesFrom (parts : List (List Nat)) (first : Nat) : List (List Tk) := (parts.drop first).flatMap fun p => names slT (toksOf p)
structure First (parts : List (List Nat)) (first : Nat) (pf : List Nat) : Prop where
  at_ : parts[first]? = some pf
  root : first = 0 ∨ pf.head? = some 47
  rest : ∀ b ∈ parts.drop (first + 1), b.head? ≠ some 47
theorem norm_join {e : Tk → List Nat} (W : Writes e slT 47) {x : List Nat} {ps : List (List Nat)} {first : Nat} {pf : List Nat} (H : First (x :: ps) first pf) :
    normL ((ps.map fun p => wr e (toksOf p)).foldl joinL (wr e (toksOf x))) = pathL (rootL (lead sl47 pf)) (((namesFrom (x :: ps) first).map (wr e)).foldl (normStepL (lead sl47 pf != 0)) []) := by
  have e0 : ((x :: ps).map fun p => wr e (toksOf p)) = wr e (toksOf x) :: ps.map fun p => wr e (toksOf p) := rfl
  have key := fold_parts (x := wr e (toksOf x)) (ys := ps.map fun p => wr e (toksOf p)) (first := first) (pf := wr e (toksOf pf))
    (by rw [← e0, List.getElem?_map, H.at_]; rfl) (H.root.imp id (head_wr W pf).mpr)
    (by
      rw [← e0, ← List.map_drop]
      intro b hb
      obtain ⟨p, hp, rfl⟩ := List.mem_map.mp hb
      exact fun q => H.rest p hp ((head_wr W p).mp q))
  unfold normL
  rw [key.1, key.2, show lead sl47 (wr e (toksOf pf)) = lead sl47 pf from (lead_wr W _).trans (lead_toks pf)]
  congr 2
  rw [← e0, ← List.map_drop, namesFrom, List.flatMap_map, List.map_flatMap]
  congr 1
  funext p
  exact names_wr W (toksOf p)
theorem names_ne (parts : List (List Nat)) (first : Nat) : ∀ p ∈ namesFrom parts first, p ≠ [] := by
  intro p hp
  obtain ⟨q, _, h⟩ := List.mem_flatMap.mp hp
  exact full_ne p h
/-- the path's signs, straightened -/
noncomputable def toldT (parts : List (List Nat)) (first : Nat) (pf : List Nat) : List Tk := pathT (lead sl47 pf) (straight (lead sl47 pf != 0) (namesFrom parts first))
theorem claim_wr {e : Tk → List Nat} (W : Writes e slT 47) (D : Dots e) {x : List Nat} {ps : List (List Nat)} {first : Nat} {pf : List Nat} (H : First (x :: ps) first pf) :
    normL ((ps.map fun p => wr e (toksOf p)).foldl joinL (wr e (toksOf x))) = wr e (toldT (x :: ps) first pf) := by
  rw [norm_join W H, straight_ok D _ _ (names_ne _ _), path_wr D (W.yes _ rfl)]
  rfl
theorem claim1 {x : List Nat} {ps : List (List Nat)} {first : Nat} {pf : List Nat} (H : First (x :: ps) first pf) : normL (ps.foldl joinL x) = wr e1 (toldT (x :: ps) first pf) := by
  have := claim_wr W1 D1 H
  simp only [toks_e1, List.map_id'] at this
  exact this
theorem claim3 {x : List Nat} {ps : List (List Nat)} {first : Nat} {pf : List Nat} (H : First (x :: ps) first pf) (hn : rootT (lead sl47 pf) ++ glueT (namesFrom (x :: ps) first) ≠ []) :
    normL ((ps.map fun p => p.flatMap htab).foldl joinL (x.flatMap htab)) = wr e3 (pathT (lead sl47 pf) (namesFrom (x :: ps) first)) := by
  have := norm_join W3 H
  simp only [toks_e3] at this
  rw [this, fold_plain e3_46 (fun a => htab_ne a.1) _ _ _ (names_ne _ _), List.nil_append]
  unfold pathL pathT
  rw [path_raw (e := e3) (W3.yes (47, false) rfl), if_neg (fun q => hn ((wr_eq_nil (e := e3) (fun a => htab_ne a.1) _).mp q)), if_neg hn]
end Mine
end

section
namespace Mine
/-- one line of a body -/
noncomputable def encL (y : List Nat) : List Nat :=
  match y.getLast? with
  | some 32 => y.dropLast ++ [61, 50, 48]
  | some 9 => y.dropLast ++ [61, 48, 57]
  | _ => y
noncomputable abbrev sl10 (c : Nat) : Bool := c == 10
/-- a text's lines -/
noncomputable def linesL (q : List Nat) : List (List Nat) := if q.getLast? = some 10 ∨ q = [] then (cuts sl10 q).dropLast else cuts sl10 q
/-- a body written, in one line each -/
noncomputable def bodyL (q : List Nat) : List Nat := glueS 10 ((linesL q).map encL ++ (if q.getLast? = some 10 then [[]] else []))
theorem cuts_end {α : Type} {sl : α → Bool} {c : α} (hc : sl c = true) (p : List α) : cuts sl (p ++ [c]) = cuts sl p ++ [[]] := cuts_mid hc [] p
theorem bodyL_cuts {q : List Nat} (h : q ≠ []) : bodyL q = glueS 10 ((cuts sl10 q).map encL) := by
  unfold bodyL linesL
  by_cases hl : q.getLast? = some 10
  · rw [if_pos (.inl hl), if_pos hl]
    obtain ⟨p, rfl⟩ := List.getLast?_eq_some_iff.mp hl
    rw [cuts_end rfl, List.dropLast_concat, List.map_append]
    rfl
  · rw [if_neg (by rintro (q | q); exact hl q; exact h q), if_neg hl, List.append_nil]
theorem glue_cons (s : Nat) (a : List Nat) {r : List (List Nat)} (h : r ≠ []) : glueS s (a :: r) = a ++ s :: glueS s r := by
  cases r with
  | nil => exact absurd rfl h
  | cons b r => simp [glueS]
theorem glue_front (s : Nat) (w : List Nat) (p : List Nat) (r : List (List Nat)) : glueS s ((w ++ p) :: r) = w ++ glueS s (p :: r) := by
  simp [glueS]
theorem encL_app {w p : List Nat} (h : p ≠ []) : encL (w ++ p) = w ++ encL p := by
  have hl : (w ++ p).getLast? = p.getLast? := by
    cases p with
    | nil => exact absurd rfl h
    | cons a p => rw [List.getLast?_append]; cases hq : (a :: p).getLast? with
      | none => simp at hq
      | some _ => rfl
  unfold encL
  rw [hl]
  split
  · rw [List.dropLast_append_of_ne_nil h, List.append_assoc]
  · rw [List.dropLast_append_of_ne_nil h, List.append_assoc]
  · rfl
theorem hexD_cls (d : Nat) : hexD d ≠ 32 ∧ hexD d ≠ 9 := by have := hexD_ge d; omega
theorem encL_one (c : Nat) : encL (btab c) = e2 (c, false) := by
  unfold e2
  by_cases h1 : c = 32
  · subst h1; rfl
  by_cases h2 : c = 9
  · subst h2; rfl
  rw [if_neg (by rintro ⟨q | q, _⟩; exact h2 q; exact h1 q)]
  show encL (btab c) = btab c
  unfold btab
  split
  · unfold encL
    simp only [List.getLast?_singleton]
    split
    · rename_i q; exact absurd (Option.some.inj q) h1
    · rename_i q; exact absurd (Option.some.inj q) h2
    · rfl
  · have := hexD_cls (c % 16)
    unfold encL
    simp only [hex2, List.getLast?_cons_cons, List.getLast?_singleton]
    split
    · rename_i q; exact absurd (Option.some.inj q) this.1
    · rename_i q; exact absurd (Option.some.inj q) this.2
    · rfl
theorem encL_nil : encL [] = [] := rfl
theorem Wb : Writes btab sl10 10 where
  yes a h := by rw [beq_iff_eq.mp h]; rfl
  no a h := btab_no (by omega) (by omega) (by simpa using h)
  some := btab_ne
theorem body_toks : ∀ x : List Nat, glueS 10 ((cuts sl10 x).map fun p => encL (wr btab p)) = wr e2 (toksOf x)
  | [] => rfl
  | [c] => by
    by_cases h : c = 10
    · subst h; rfl
    · have : cuts sl10 [c] = [[c]] := by simp [cuts, h, addHd]
      rw [this]
      show glueS 10 [encL (btab c ++ [])] = e2 (c, false) ++ []
      rw [List.append_nil, List.append_nil, encL_one]
      simp [glueS]
  | c :: d :: l => by
    have ih := body_toks (d :: l)
    rw [toksOf, wr_cons, ← ih]
    by_cases h : c = 10
    · subst h
      have : cuts sl10 (10 :: d :: l) = [] :: cuts sl10 (d :: l) := by rw [cuts]; rfl
      rw [this, List.map_cons, glue_cons _ _ (by simpa using cuts_ne sl10 (d :: l))]
      rfl
    · have e0 : cuts sl10 (c :: d :: l) = addHd c (cuts sl10 (d :: l)) := by rw [cuts, if_neg (by simpa using h)]
      rw [e0]
      by_cases hd : d = 10
      · subst hd
        have e1' : cuts sl10 (10 :: l) = [] :: cuts sl10 l := by rw [cuts]; rfl
        rw [e1', addHd, List.map_cons, List.map_cons]
        rw [show wr btab [c] = btab c ++ [] from wr_cons _ _ _, List.append_nil, encL_one]
        rw [show wr btab [] = [] from rfl, encL_nil]
        have : ((c == 9 || c == 32) && 10 != 10) = false := by simp
        rw [this]
        have := glue_front 10 (e2 (c, false)) [] ((cuts sl10 l).map fun p => encL (wr btab p))
        rw [List.append_nil] at this
        exact this
      · have e1' : ∃ p r, cuts sl10 (d :: l) = (d :: p) :: r := by
          rw [cuts, if_neg (by simpa using hd)]
          cases hq : cuts sl10 l with
          | nil => exact absurd hq (cuts_ne _ _)
          | cons p r => exact ⟨p, r, rfl⟩
        obtain ⟨p, r, hp⟩ := e1'
        rw [hp, addHd, List.map_cons, List.map_cons, wr_cons]
        rw [encL_app (by rw [wr_cons]; intro q; exact btab_ne d (List.append_eq_nil_iff.mp q).1), glue_front]
        congr 1
        unfold e2
        by_cases hb : c = 9 ∨ c = 32
        · have : ((c == 9 || c == 32) && d != 10) = true := by
            rcases hb with rfl | rfl <;> simp [hd]
          rw [this, if_neg (by simp)]
        · rw [if_neg (fun q => hb q.1)]
theorem body_ok (x : List Nat) (h : x ≠ []) : bodyL (x.flatMap btab) = wr e2 (toksOf x) := by
  have h' : x.flatMap btab ≠ [] := by
    cases x with
    | nil => exact absurd rfl h
    | cons c x => simp [btab_ne c]
  rw [bodyL_cuts h', ← body_toks x]
  congr 1
  have := cuts_wr Wb x
  show (cuts (· == 10) (wr btab x)).map encL = _
  rw [this, List.map_map]
  rfl
/-- without the bare signs at the end -/
noncomputable def stripT (l : List Tk) : List Tk := (l.reverse.dropWhile (·.2)).reverse
noncomputable def bares (l : List Tk) : Nat := (l.reverse.takeWhile (·.2)).length
theorem strip_take (l : List Tk) : stripT l = l.take (l.length - bares l) := by
  unfold stripT bares
  have h := List.takeWhile_append_dropWhile (p := fun t : Tk => t.2) (l := l.reverse)
  generalize l.reverse.takeWhile (·.2) = a at *
  generalize l.reverse.dropWhile (·.2) = b at *
  have e : l = b.reverse ++ a.reverse := by
    have := congrArg List.reverse h
    rw [List.reverse_reverse, List.reverse_append] at this
    exact this.symm
  rw [e]
  simp
/-- the lines of signs -/
noncomputable def linesT (q : List Tk) : List (List Tk) := if (q.getLast?.map (·.1)) = some 10 ∨ q = [] then (cuts nlT q).dropLast else cuts nlT q
/-- no bare sign right ahead of a line end -/
noncomputable def Calm : List Tk → Prop
  | [] => True
  | [_] => True
  | a :: b :: l => (a.2 = true → b.1 ≠ 10) ∧ Calm (b :: l)
noncomputable def decT (q : List Tk) : List Nat := (linesT q).flatMap fun l => (stripT l).map (·.1) ++ [10]
theorem strip_cons {a : Tk} {l : List Tk} (h : l ≠ []) (hs : stripT l ≠ [] ∨ a.2 = false) : stripT (a :: l) = a :: stripT l := by
  unfold stripT at hs ⊢
  rw [List.reverse_cons, List.dropWhile_append]
  split
  · rename_i hq
    have hq' : l.reverse.dropWhile (·.2) = [] := by simpa using hq
    rcases hs with hs | hs
    · exact absurd (by rw [hq']; rfl) hs
    · rw [hq', List.dropWhile_cons, if_neg (by simp [hs])]; rfl
  · simp
theorem strip_none {l : List Tk} (h : ∀ t, l.getLast? = some t → t.2 = false) : stripT l = l := by
  unfold stripT
  cases hl : l.reverse with
  | nil => rw [List.reverse_eq_nil_iff.mp hl]; rfl
  | cons t r =>
    have : l = r.reverse ++ [t] := by have := congrArg List.reverse hl; simpa using this
    rw [List.dropWhile_cons, if_neg (by rw [h t (by rw [this]; simp)]; simp), this]
    simp
theorem calm_tail {a : Tk} {l : List Tk} (h : Calm (a :: l)) : Calm l := by
  cases l with
  | nil => trivial
  | cons b l => exact h.2
theorem calm_drop : ∀ {p l : List Tk}, Calm (p ++ l) → Calm l
  | [], _, h => h
  | _ :: p, _, h => calm_drop (p := p) (calm_tail h)
/-- every line but the last ends in no bare sign -/
theorem calm_cuts : ∀ {q : List Tk}, Calm q → ∀ p l r, cuts nlT q = p ++ l :: r → r ≠ [] → ∀ t, l.getLast? = some t → t.2 = false
  | [], _, p, l, r, h, hr, _, _ => by
    simp only [cuts] at h
    have := congrArg List.length h
    cases r with
    | nil => exact absurd rfl hr
    | cons _ _ => simp at this; omega
  | a :: q, hc, p, l, r, h, hr, t, ht => by
    by_cases ha : a.1 = 10
    · rw [cuts, if_pos (by simpa using ha)] at h
      cases p with
      | nil =>
        simp only [List.nil_append, List.cons.injEq] at h
        rw [← h.1] at ht; cases ht
      | cons p0 p =>
        simp only [List.cons_append, List.cons.injEq] at h
        exact calm_cuts (calm_tail hc) p l r h.2 hr t ht
    · rw [cuts, if_neg (by simpa using ha)] at h
      cases hq : cuts nlT q with
      | nil => exact absurd hq (cuts_ne _ _)
      | cons c0 cr =>
        rw [hq, addHd] at h
        cases p with
        | cons p0 p =>
          simp only [List.cons_append, List.cons.injEq] at h
          exact calm_cuts (calm_tail hc) (c0 :: p) l r (by rw [hq, h.2]; rfl) hr t ht
        | nil =>
          simp only [List.nil_append, List.cons.injEq] at h
          obtain ⟨h1, h2⟩ := h
          cases c0 with
          | cons b c0 =>
            refine calm_cuts (calm_tail hc) [] (b :: c0) r (by rw [hq, h2]; rfl) hr t ?_
            rw [← h1] at ht
            simpa using ht
          | nil =>
            rw [← h1] at ht
            have : t = a := by simpa using ht.symm
            subst this
            cases q with
            | nil =>
              simp only [cuts, List.cons.injEq] at hq
              rw [← h2, ← hq.2] at hr
              exact absurd rfl hr
            | cons b q =>
              have hb : b.1 = 10 := by
                rw [cuts] at hq
                split at hq
                · rename_i z; simpa using z
                · cases hz : cuts nlT q with
                  | nil => exact absurd hz (cuts_ne _ _)
                  | cons _ _ => rw [hz, addHd] at hq; cases hq
              cases hv : t.2 with
              | false => rfl
              | true => exact absurd hb (hc.1 hv)
theorem cuts_glue : ∀ q : List Tk, glueS 10 ((cuts nlT q).map fun l => l.map (·.1)) = q.map (·.1)
  | [] => rfl
  | a :: q => by
    have ih := cuts_glue q
    by_cases ha : a.1 = 10
    · rw [cuts, if_pos (by simpa using ha), List.map_cons, glue_cons _ _ (by simpa using cuts_ne nlT q), ih]
      simp [ha]
    · rw [cuts, if_neg (by simpa using ha)]
      cases hq : cuts nlT q with
      | nil => exact absurd hq (cuts_ne _ _)
      | cons c0 cr =>
        rw [hq] at ih
        rw [addHd, List.map_cons, List.map_cons]
        have := glue_front 10 [a.1] (c0.map (·.1)) (cr.map fun l => l.map (·.1))
        simp only [List.singleton_append] at this
        rw [this]
        rw [List.map_cons] at ih
        rw [ih]; rfl
theorem flat_glue (l : List (List Nat)) (h : l ≠ []) : l.flatMap (fun p => p ++ [10]) = glueS 10 l ++ [10] := by
  cases l with
  | nil => exact absurd rfl h
  | cons a l =>
    induction l generalizing a with
    | nil => simp [glueS]
    | cons b l ih =>
      rw [List.flatMap_cons, ih b (by simp), glue_cons 10 a (r := b :: l) (by simp)]
      simp
theorem glue_snoc (s : Nat) (l : List (List Nat)) (a : List Nat) (h : l ≠ []) : glueS s (l ++ [a]) = glueS s l ++ s :: a := by
  cases l with
  | nil => exact absurd rfl h
  | cons b l => simp [glueS]
theorem map_cuts_strip {cs : List (List Tk)} {z : List Tk} (h : ∀ p l r, cs ++ [z] = p ++ l :: r → r ≠ [] → ∀ t, l.getLast? = some t → t.2 = false) : cs.map stripT = cs := by
  have : ∀ l ∈ cs, stripT l = l := by
    intro l hl
    obtain ⟨p, r, rfl⟩ := List.append_of_mem hl
    exact strip_none (h p l (r ++ [z]) (by simp) (by simp))
  conv => rhs; rw [← List.map_id cs]
  exact List.map_congr_left this
theorem strip_app {p l : List Tk} (h : ∀ t, p.getLast? = some t → t.2 = false) : stripT (p ++ l) = p ++ stripT l := by
  unfold stripT
  rw [List.reverse_append, List.dropWhile_append]
  split
  · rename_i hq
    have hq' : l.reverse.dropWhile (·.2) = [] := by simpa using hq
    rw [hq']
    have := strip_none h
    unfold stripT at this
    rw [this]; simp
  · simp
theorem cuts_plain {q : List Tk} (h : ∀ t ∈ q, nlT t = false) : cuts nlT q = [q] := by
  have := cuts_word (l := []) h
  simpa [cuts, addHds] using this
theorem last_nl : ∀ q : List Tk, (∀ t ∈ q, nlT t = false) ∨ ∃ p t z, q = p ++ t :: z ∧ t.1 = 10 ∧ ∀ u ∈ z, nlT u = false
  | [] => .inl fun _ h => nomatch h
  | a :: q => by
    rcases last_nl q with h | ⟨p, t, z, rfl, ht, hz⟩
    · by_cases ha : a.1 = 10
      · exact .inr ⟨[], a, q, rfl, ha, h⟩
      · refine .inl fun t ht => ?_
        rcases List.mem_cons.mp ht with rfl | ht
        · simpa using ha
        · exact h t ht
    · exact .inr ⟨a :: p, t, z, rfl, ht, hz⟩
/-- decode's answer, plainly -/
theorem dec_ok {q : List Tk} (h : q ≠ []) (hc : Calm q) (hb : ∀ t ∈ q, t.2 = true → t.1 ≠ 10) :
    (if (q.getLast?.map (·.1)) = some 10 then decT q else (decT q).dropLast) = (stripT q).map (·.1) := by
  unfold decT linesT
  rcases last_nl q with hn | ⟨p, t, z, rfl, ht, hz⟩
  · have hl : ¬ (q.getLast?.map (·.1)) = some 10 := by
      intro hl
      obtain ⟨t, ht, ht1⟩ := Option.map_eq_some_iff.mp hl
      have := hn t (List.mem_of_getLast? ht)
      simp [ht1] at this
    rw [if_neg hl, if_neg (by rintro (q' | q'); exact hl q'; exact h q'), cuts_plain hn]
    simp
  · have hcu : cuts nlT (p ++ t :: z) = cuts nlT p ++ [z] := by
      rw [cuts_mid (by simpa using ht), cuts_plain hz]
    have hcs : (cuts nlT p).map stripT = cuts nlT p := map_cuts_strip (z := z) (by rw [← hcu]; exact calm_cuts hc)
    have hfl : (cuts nlT p).flatMap (fun l => (stripT l).map (·.1) ++ [10]) = p.map (·.1) ++ [10] := by
      rw [← cuts_glue p, ← flat_glue _ (by simpa using cuts_ne nlT p), List.flatMap_map]
      conv => rhs; rw [← hcs]
      rw [List.flatMap_map]
    have ht2 : t.2 = false := by
      cases hv : t.2 with
      | false => rfl
      | true => exact absurd ht (hb t (by simp) hv)
    have hs : stripT (p ++ t :: z) = p ++ [t] ++ stripT z := by
      have := strip_app (p := p ++ [t]) (l := z) (by intro u hu; have : u = t := by simpa using hu.symm
                                                     rw [this, ht2])
      simpa using this
    rw [hs, hcu]
    by_cases hz0 : z = []
    · subst hz0
      have hl : ((p ++ [t]).getLast?.map (·.1)) = some 10 := by simp [ht]
      rw [if_pos hl, if_pos (.inl hl), List.dropLast_concat, hfl]
      simp [stripT, ht]
    · have hl : ¬ ((p ++ t :: z).getLast?.map (·.1)) = some 10 := by
        intro hl
        have e : (p ++ t :: z).getLast? = z.getLast? := by
          rw [List.getLast?_append]
          cases z with
          | nil => exact absurd rfl hz0
          | cons a z => rw [List.getLast?_cons_cons]; cases hq : (a :: z).getLast? with
            | none => simp at hq
            | some _ => rfl
        rw [e] at hl
        obtain ⟨u, hu, hu1⟩ := Option.map_eq_some_iff.mp hl
        have := hz u (List.mem_of_getLast? hu)
        simp [hu1] at this
      rw [if_neg hl, if_neg (by rintro (q' | q'); exact hl q'; exact h q'), List.flatMap_append, hfl]
      simp [ht, ← List.append_assoc]
end Mine
end

section
open PySem PySem.W PyProof.Rows PySem.Calls
set_option maxRecDepth 100000
set_option maxHeartbeats 0
namespace Mine
/-- a turn's end: the frame's map and a part of the ledger bear the word J; what the loop itself holds (own) still lies in the ledger -/
noncomputable def TE (h₀ : Heap) (L I : Addr) (own : List (Addr × Obj)) (J : (Str → Option Value) → List (Addr × Obj) → Prop) (s₁ : Shared) (Q : Flow → Shared → Prop) (f : Flow) (s₂ : Shared) : Prop :=
  match f with
  | .ret v => Q (.ret v) s₂
  | .brk => Q .next s₂
  | _ => ∃ h' tk m' news' all, s₂ = { s₁ with heap := h', toks := tk } ∧ Fr h₀ L h' m' ∧ News h₀ L h' all ∧ (∀ p ∈ news', p ∈ all) ∧ (∀ p ∈ own, p ∈ all) ∧ (∀ p ∈ news', p.1 ≠ I) ∧ J m' news'

section
variable {prog : Program} {w : World} {A : Around} {E : Value → Shared → Prop} {s : Shared} {env : Env} {h₀ : Heap} {x : Str} {body : List Stmt} {Q : Flow → Shared → Prop}

theorem loop_walk {I : Addr} {fp : List Addr} {n : Nat} {P : Nat → Value → Prop} {St : Nat → Heap → Prop} {m₀ : Str → Option Value} {news : List (Addr × Obj)} (J : Nat → (Str → Option Value) → List (Addr × Obj) → Prop)
    (W : Walks prog w A I fp [I] n P St) (hLf : env.locals ∉ fp) (hI : h₀.get? I = none) (hnw : ∀ p ∈ news, p.1 ≠ I) (hst : St 0 s.heap) (hal : ∀ i h, St i h → ∃ o, h.get? I = some o) (F : Fr h₀ env.locals s.heap m₀) (N : News h₀ env.locals s.heap news) (hj : J 0 m₀ news)
    (turn : ∀ i v m₁ news₁ own h tk oI, i < n → P i v → J i m₁ news₁ → (∀ p ∈ news₁, p.1 ≠ I) → (∀ p ∈ own, p.1 ∈ fp) → (I, oI) ∈ own → St (i + 1) h →
      Fr h₀ env.locals h (fun y => if y = x then some v else m₁ y) → News h₀ env.locals h (news₁ ++ own) →
      wpAny (model prog w) A (execs body env) (TE h₀ env.locals I own (J (i + 1)) { s with heap := h, toks := tk } Q) E { s with heap := h, toks := tk })
    (done : ∀ m₁ news₁ h tk, J n m₁ news₁ → Fr h₀ env.locals h m₁ → News h₀ env.locals h news₁ → Q .next { s with heap := h, toks := tk }) :
    LoopAtV prog w A h₀ env x body Q E (.ref I) s := by
  refine ⟨I, fp, [I], n, P, St, m₀, news, J, rfl, W, hLf, ?_, ?_, hst, F, N, hj, ?_, ?_⟩
  · intro b hb; rw [List.mem_singleton.mp hb]; exact hI
  · intro p hp hm; exact hnw p hp (List.mem_singleton.mp hm)
  · rintro i v m₁ news₁ s₁ own ⟨h, tk, rfl⟩ hin hP hJ hoff hown hget hall hst' F₁ N₁
    have N₂ : News h₀ env.locals h (news₁ ++ own) := fun p hp => N₁ p ((List.mem_append.mp hp).elim (fun h => List.mem_append.mpr (.inr h)) fun h => List.mem_append.mpr (.inl h))
    obtain ⟨oI, hoI⟩ := hal _ _ hst'
    have hmem : (I, oI) ∈ own := hall I (W.sub I (List.mem_singleton.mpr rfl)) hI oI hoI
    refine wpAny_mono (turn i v m₁ news₁ own h tk oI hin hP hJ (fun p hp e => hoff p hp (e ▸ List.mem_singleton.mpr rfl)) hown hmem hst' F₁ N₂) (fun f s₂ p => ?_) fun _ _ e => e
    have fin : (∃ h' tk' m' news' all, s₂ = { ({ s with heap := h, toks := tk } : Shared) with heap := h', toks := tk' } ∧ Fr h₀ env.locals h' m' ∧ News h₀ env.locals h' all ∧ (∀ p ∈ news', p ∈ all) ∧ (∀ p ∈ own, p ∈ all) ∧ (∀ p ∈ news', p.1 ≠ I) ∧ J (i + 1) m' news') →
        LoopStepU h₀ env.locals [I] own (J (i + 1)) { s with heap := h, toks := tk } .next s₂ := by
      rintro ⟨h', tk', m', news', all, e, F', N', hn, ho, ha, hJ'⟩
      exact ⟨rfl, h', tk', m', news', e, F', fun p hp => N' p ((List.mem_append.mp hp).elim (ho p) (hn p)), fun p hp hq => ha p hp (List.mem_singleton.mp hq), hJ'⟩
    cases f with
    | ret v => exact .ret p
    | brk => exact .brk p
    | next => exact .next (fin p)
    | cont => exact .cont (fin p)
  · rintro h' tk m' news' F' N' _ hJ
    exact done m' news' h' tk hJ F' N'

theorem iter_list {ax : Addr} {items : Array Value} {m₀ : Str → Option Value} {news : List (Addr × Obj)} (J : Nat → (Str → Option Value) → List (Addr × Obj) → Prop)
    (hh : A.handled = none) (hl : s.heap.IsList ax items) (haL : ax ≠ env.locals) (F : Fr h₀ env.locals s.heap m₀) (N : News h₀ env.locals s.heap news) (hj : J 0 m₀ news)
    (turn : ∀ I i v m₁ news₁ own h tk oI, i < items.size → items[i]? = some v → J i m₁ news₁ → (∀ p ∈ news₁, p.1 ≠ I) → (∀ p ∈ own, p.1 = I ∨ p.1 = ax) → (I, oI) ∈ own → h.IsList ax items →
      Fr h₀ env.locals h (fun y => if y = x then some v else m₁ y) → News h₀ env.locals h (news₁ ++ own) →
      wpAny (model prog w) A (execs body env) (TE h₀ env.locals I own (J (i + 1)) { s with heap := h, toks := tk } Q) E { s with heap := h, toks := tk })
    (done : ∀ m₁ news₁ h tk, J items.size m₁ news₁ → Fr h₀ env.locals h m₁ → News h₀ env.locals h news₁ → Q .next { s with heap := h, toks := tk }) :
    wpAny (model prog w) A (pyIter (.ref ax)) (fun it s₂ => LoopAtV prog w A h₀ env x body Q E it s₂) E s := by
  obtain ⟨ol, hol, _⟩ := id hl
  have hne : ax ≠ s.heap.objs.size := Nat.ne_of_lt (Heap.lt_size hol)
  refine wpAny_pyIter_list hl ?_
  have W := Walks.list (prog := prog) (w := w) hh s.heap.objs.size ax hne items
  refine loop_walk (I := s.heap.objs.size) J W ?_ ?_ ?_ ⟨⟨_, Heap.get?_push_size _ rfl, rfl, rfl⟩, hl.at fun o e => Heap.get?_push_of_some _ e⟩ ?_ (F.push _) (fun p hp => ⟨Heap.get?_push_of_some _ (N p hp).1, (N p hp).2⟩) hj ?_ ?_
  · intro hm
    rcases List.mem_cons.mp hm with e | hm
    · exact absurd F.ns.lt (e ▸ Nat.lt_irrefl _)
    · exact haL (List.mem_singleton.mp hm).symm
  · exact next_is_new F
  · intro p hp hI
    exact absurd (Heap.lt_size (N p hp).1) (hI ▸ Nat.lt_irrefl _)
  · rintro i h ⟨⟨o, ho, _⟩, _⟩; exact ⟨o, ho⟩
  · intro i v m₁ news₁ own h tk oI hi hP hJ hn ho hm hst F₁ N₁
    refine turn s.heap.objs.size i v m₁ news₁ own h tk oI hi hP hJ hn (fun p hp => ?_) hm hst.2 F₁ N₁
    have := ho p hp
    rcases List.mem_cons.mp this with e | e
    · exact .inl e
    · exact .inr (List.mem_singleton.mp e)
  · exact fun m₁ news₁ h tk hJ F₁ N₁ => done m₁ news₁ h tk hJ F₁ N₁

theorem iter_tuple {ax : Addr} {items : Array Value} {m₀ : Str → Option Value} {news : List (Addr × Obj)} (J : Nat → (Str → Option Value) → List (Addr × Obj) → Prop)
    (hh : A.handled = none) (hl : s.heap.IsTuple ax items) (haL : ax ≠ env.locals) (F : Fr h₀ env.locals s.heap m₀) (N : News h₀ env.locals s.heap news) (hj : J 0 m₀ news)
    (turn : ∀ I i v m₁ news₁ own h tk oI, i < items.size → items[i]? = some v → J i m₁ news₁ → (∀ p ∈ news₁, p.1 ≠ I) → (∀ p ∈ own, p.1 = I ∨ p.1 = ax) → (I, oI) ∈ own →
      Fr h₀ env.locals h (fun y => if y = x then some v else m₁ y) → News h₀ env.locals h (news₁ ++ own) →
      wpAny (model prog w) A (execs body env) (TE h₀ env.locals I own (J (i + 1)) { s with heap := h, toks := tk } Q) E { s with heap := h, toks := tk })
    (done : ∀ m₁ news₁ h tk, J items.size m₁ news₁ → Fr h₀ env.locals h m₁ → News h₀ env.locals h news₁ → Q .next { s with heap := h, toks := tk }) :
    wpAny (model prog w) A (pyIter (.ref ax)) (fun it s₂ => LoopAtV prog w A h₀ env x body Q E it s₂) E s := by
  obtain ⟨ol, hol, _⟩ := id hl
  have hne : ax ≠ s.heap.objs.size := Nat.ne_of_lt (Heap.lt_size hol)
  refine wpAny_pyIter_tuple hl ?_
  have W := Walks.tuple (prog := prog) (w := w) hh s.heap.objs.size ax hne items
  refine loop_walk (I := s.heap.objs.size) J W ?_ ?_ ?_ ⟨⟨_, Heap.get?_push_size _ rfl, rfl, rfl⟩, hl.at fun o e => Heap.get?_push_of_some _ e⟩ ?_ (F.push _) (fun p hp => ⟨Heap.get?_push_of_some _ (N p hp).1, (N p hp).2⟩) hj ?_ ?_
  · intro hm
    rcases List.mem_cons.mp hm with e | hm
    · exact absurd F.ns.lt (e ▸ Nat.lt_irrefl _)
    · exact haL (List.mem_singleton.mp hm).symm
  · exact next_is_new F
  · intro p hp hI
    exact absurd (Heap.lt_size (N p hp).1) (hI ▸ Nat.lt_irrefl _)
  · rintro i h ⟨⟨o, ho, _⟩, _⟩; exact ⟨o, ho⟩
  · intro i v m₁ news₁ own h tk oI hi hP hJ hn ho hm hst F₁ N₁
    refine turn s.heap.objs.size i v m₁ news₁ own h tk oI hi hP hJ hn (fun p hp => ?_) hm F₁ N₁
    have := ho p hp
    rcases List.mem_cons.mp this with e | e
    · exact .inl e
    · exact .inr (List.mem_singleton.mp e)
  · exact fun m₁ news₁ h tk hJ F₁ N₁ => done m₁ news₁ h tk hJ F₁ N₁

theorem iter_tupleN {L ax : Addr} {items : Array Value} {m₀ : Str → Option Value} {news : List (Addr × Obj)} (names : List Str) (S : Nat → (Str → Option Value) → List (Addr × Obj) → Prop)
    (hL : env.locals = L) (hh : A.handled = none) (hl : s.heap.IsTuple ax items) (haL : ax ≠ L) (F : Fr h₀ L s.heap m₀) (N : News h₀ L s.heap news) (hj : S 0 m₀ news)
    (turn : ∀ I i v m₁ news₁ own h tk oI, i < items.size → items[i]? = some v → (∀ z, z ∉ names → m₁ z = m₀ z) → S i m₁ news₁ → (∀ p ∈ news₁, p.1 ≠ I) → (∀ p ∈ own, p.1 = I ∨ p.1 = ax) → (I, oI) ∈ own →
      Fr h₀ L h (fun y => if y = x then some v else m₁ y) → News h₀ L h (news₁ ++ own) →
      wpAny (model prog w) A (execs body env) (TE h₀ L I own (fun m news => (∀ z, z ∉ names → m z = m₀ z) ∧ S (i + 1) m news) { s with heap := h, toks := tk } Q) E { s with heap := h, toks := tk })
    (done : ∀ m₁ news₁ h tk, (∀ z, z ∉ names → m₁ z = m₀ z) → S items.size m₁ news₁ → Fr h₀ L h m₁ → News h₀ L h news₁ → Q .next { s with heap := h, toks := tk }) :
    wpAny (model prog w) A (pyIter (.ref ax)) (fun it s₂ => LoopAtV prog w A h₀ env x body Q E it s₂) E s := by
  subst hL
  refine iter_tuple (fun i m news => (∀ z, z ∉ names → m z = m₀ z) ∧ S i m news) hh hl haL F N ⟨fun _ _ => rfl, hj⟩ ?_ ?_
  · rintro I i v m₁ news₁ own h tk oI hi hv ⟨hm, hS⟩ h1 h2 h3 F₁ N₁
    exact turn I i v m₁ news₁ own h tk oI hi hv hm hS h1 h2 h3 F₁ N₁
  · rintro m₁ news₁ h tk ⟨hm, hS⟩ F₁ N₁
    exact done m₁ news₁ h tk hm hS F₁ N₁

theorem iter_listN {L ax : Addr} {items : Array Value} {m₀ : Str → Option Value} {news : List (Addr × Obj)} (names : List Str) (S : Nat → (Str → Option Value) → List (Addr × Obj) → Prop)
    (hL : env.locals = L) (hh : A.handled = none) (hl : s.heap.IsList ax items) (haL : ax ≠ L) (F : Fr h₀ L s.heap m₀) (N : News h₀ L s.heap news) (hj : S 0 m₀ news)
    (turn : ∀ I i v m₁ news₁ own h tk oI, i < items.size → items[i]? = some v → (∀ z, z ∉ names → m₁ z = m₀ z) → S i m₁ news₁ → (∀ p ∈ news₁, p.1 ≠ I) → (∀ p ∈ own, p.1 = I ∨ p.1 = ax) → (I, oI) ∈ own → h.IsList ax items →
      Fr h₀ L h (fun y => if y = x then some v else m₁ y) → News h₀ L h (news₁ ++ own) →
      wpAny (model prog w) A (execs body env) (TE h₀ L I own (fun m news => (∀ z, z ∉ names → m z = m₀ z) ∧ S (i + 1) m news) { s with heap := h, toks := tk } Q) E { s with heap := h, toks := tk })
    (done : ∀ m₁ news₁ h tk, (∀ z, z ∉ names → m₁ z = m₀ z) → S items.size m₁ news₁ → Fr h₀ L h m₁ → News h₀ L h news₁ → Q .next { s with heap := h, toks := tk }) :
    wpAny (model prog w) A (pyIter (.ref ax)) (fun it s₂ => LoopAtV prog w A h₀ env x body Q E it s₂) E s := by
  subst hL
  refine iter_list (fun i m news => (∀ z, z ∉ names → m z = m₀ z) ∧ S i m news) hh hl haL F N ⟨fun _ _ => rfl, hj⟩ ?_ ?_
  · rintro I i v m₁ news₁ own h tk oI hi hv ⟨hm, hS⟩ h1 h2 h3 h4 F₁ N₁
    exact turn I i v m₁ news₁ own h tk oI hi hv hm hS h1 h2 h3 h4 F₁ N₁
  · rintro m₁ news₁ h tk ⟨hm, hS⟩ F₁ N₁
    exact done m₁ news₁ h tk hm hS F₁ N₁

/-- a loop that stores no name but its own -/
theorem iter_list0 {ax : Addr} {items : Array Value} {m₀ : Str → Option Value} {news : List (Addr × Obj)} (S : Nat → List (Addr × Obj) → Prop)
    (hh : A.handled = none) (hl : s.heap.IsList ax items) (haL : ax ≠ env.locals) (F : Fr h₀ env.locals s.heap m₀) (N : News h₀ env.locals s.heap news) (hj : S 0 news)
    (turn : ∀ I i v news₁ own h tk oI, i < items.size → items[i]? = some v → S i news₁ → (∀ p ∈ news₁, p.1 ≠ I) → (∀ p ∈ own, p.1 = I ∨ p.1 = ax) → (I, oI) ∈ own → h.IsList ax items →
      Fr h₀ env.locals h (fun y => if y = x then some v else m₀ y) → News h₀ env.locals h (news₁ ++ own) →
      wpAny (model prog w) A (execs body env) (TE h₀ env.locals I own (fun m news => (∀ z, z ≠ x → m z = m₀ z) ∧ S (i + 1) news) { s with heap := h, toks := tk } Q) E { s with heap := h, toks := tk })
    (done : ∀ u news₁ h tk, S items.size news₁ → Fr h₀ env.locals h (fun y => if y = x then u else m₀ y) → News h₀ env.locals h news₁ → Q .next { s with heap := h, toks := tk }) :
    wpAny (model prog w) A (pyIter (.ref ax)) (fun it s₂ => LoopAtV prog w A h₀ env x body Q E it s₂) E s := by
  refine iter_list (fun i m news => (∀ z, z ≠ x → m z = m₀ z) ∧ S i news) hh hl haL F N ⟨fun _ _ => rfl, hj⟩ ?_ ?_
  · rintro I i v m₁ news₁ own h tk oI hi hv ⟨hm, hS⟩ h1 h2 h3 h4 F₁ N₁
    refine turn I i v news₁ own h tk oI hi hv hS h1 h2 h3 h4 ?_ N₁
    have e : (fun z => if z = x then some v else m₁ z) = fun z => if z = x then some v else m₀ z := by
      funext z
      by_cases q : z = x
      · simp [q]
      · simp only [if_neg q]; exact hm z q
    rw [← e]; exact F₁
  · rintro m₁ news₁ h tk ⟨hm, hS⟩ F₁ N₁
    refine done (m₁ x) news₁ h tk hS ?_ N₁
    have e : (fun z => if z = x then m₁ x else m₀ z) = m₁ := by
      funext z
      by_cases q : z = x
      · simp [q]
      · simp only [if_neg q]; exact (hm z q).symm
    rw [e]; exact F₁

theorem TE.next {L I : Addr} {own all news' : List (Addr × Obj)} {J : (Str → Option Value) → List (Addr × Obj) → Prop} {s₁ : Shared} {h' : Heap} {tk : Nat} {m' : Str → Option Value}
    (F : Fr h₀ L h' m') (N : News h₀ L h' all) (h1 : ∀ p ∈ news', p ∈ all) (h2 : ∀ p ∈ own, p ∈ all) (h3 : ∀ p ∈ news', p.1 ≠ I) (hJ : J m' news') : TE h₀ L I own J s₁ Q .next { s₁ with heap := h', toks := tk } :=
  ⟨h', tk, m', news', all, rfl, F, N, h1, h2, h3, hJ⟩
theorem TE.cont {L I : Addr} {own all news' : List (Addr × Obj)} {J : (Str → Option Value) → List (Addr × Obj) → Prop} {s₁ : Shared} {h' : Heap} {tk : Nat} {m' : Str → Option Value}
    (F : Fr h₀ L h' m') (N : News h₀ L h' all) (h1 : ∀ p ∈ news', p ∈ all) (h2 : ∀ p ∈ own, p ∈ all) (h3 : ∀ p ∈ news', p.1 ≠ I) (hJ : J m' news') : TE h₀ L I own J s₁ Q .cont { s₁ with heap := h', toks := tk } :=
  ⟨h', tk, m', news', all, rfl, F, N, h1, h2, h3, hJ⟩
end

section
variable {prog : Program} {w : World} {A : Around} {E : Value → Shared → Prop} {s : Shared} {env : Env} {h₀ : Heap} {x : Str} {body : List Stmt} {Q : Flow → Shared → Prop}
/-- a loop over a list of texts that stores no name but its own and changes one list of the ledger's -/
theorem iter_strs1 {L ax p : Addr} {items its : Array Value} {n₀ : Nat} {ys : List Str} {m₀ : Str → Option Value} {rest : List (Addr × Obj)} (S : Nat → List Value → Prop)
    (hL : env.locals = L) (hh : A.handled = none) (hl : s.heap.IsList ax items) (hy : StrsAre items.toList ys) (haL : ax ≠ L) (hpa : p ≠ ax) (F : Fr h₀ L s.heap m₀) (N : News h₀ L s.heap ((p, W.listOf its n₀) :: rest)) (hj : S 0 its.toList)
    (turn : ∀ I i y t ts n own h tk, ys[i]? = some y → S i ts → (∀ q ∈ own, q.1 ≠ p) → p ≠ I →
      Fr h₀ L h (fun z => if z = x then some (.str y t) else m₀ z) → News h₀ L h ((p, W.listOf ts.toArray n) :: own) →
      wpAny (model prog w) A (execs body env) (TE h₀ L I own (fun m news => (∀ z, z ≠ x → m z = m₀ z) ∧ ∃ ts n, news = [(p, W.listOf ts.toArray n)] ∧ S (i + 1) ts) { s with heap := h, toks := tk } Q) E { s with heap := h, toks := tk })
    (done : ∀ u ts n h tk, S ys.length ts → Fr h₀ L h (fun z => if z = x then u else m₀ z) → News h₀ L h [(p, W.listOf ts.toArray n)] → Q .next { s with heap := h, toks := tk }) :
    wpAny (model prog w) A (pyIter (.ref ax)) (fun it s₂ => LoopAtV prog w A h₀ env x body Q E it s₂) E s := by
  subst hL
  have hlen : items.size = ys.length := by have := hy.length; simpa using this
  refine iter_list0 (news := [(p, W.listOf its n₀)]) (fun i news => ∃ ts n, news = [(p, W.listOf ts.toArray n)] ∧ S i ts) hh hl haL F (fun q hq => N q (by rw [List.mem_singleton.mp hq]; exact .head _)) ⟨its.toList, n₀, by simp, hj⟩ ?_ ?_
  · rintro I i v news₁ own h tk oI hi hv ⟨ts, n, rfl, hS⟩ h1 h2 h3 h4 F₁ N₁
    have hi' : i < ys.length := by omega
    obtain ⟨t, ht⟩ := hy.get i ys[i] (by simp [hi'])
    have e : v = .str ys[i] t := by
      have hv' : items.toList[i]? = some v := by simpa using hv
      rw [ht] at hv'; exact (Option.some.inj hv').symm
    subst e
    have hpI : p ≠ I := h1 _ (.head _)
    refine turn I i ys[i] t ts n own h tk (by simp [hi']) hS (fun q hq e => ?_) hpI F₁ N₁
    rcases h2 q hq with h | h
    · exact hpI (e ▸ h)
    · exact hpa (e ▸ h)
  · rintro u news₁ h tk ⟨ts, n, rfl, hS⟩ F₁ N₁
    exact done u ts n h tk (hlen ▸ hS) F₁ N₁
end

section
variable {prog : Program} {w : World} {A : Around} {E : Value → Shared → Prop} {s : Shared} {h₀ : Heap} {L p : Addr} {m : Str → Option Value} {rest : List (Addr × Obj)} {ts : List Value} {n : Nat} {v : Value}
theorem append1 {Q : Value → Shared → Prop} (F : Fr h₀ L s.heap m) (N : News h₀ L s.heap ((p, W.listOf ts.toArray n) :: rest)) (hne : ∀ q ∈ rest, q.1 ≠ p) (hsz : ts.length ≤ 1000000)
    (h : ∀ h', Fr h₀ L h' m → News h₀ L h' ((p, W.listOf (ts ++ [v]).toArray (n + 1)) :: rest) → Q .none { s with heap := h' }) : wpAny (model prog w) A (call (.builtin "list.append") [.ref p, v]) Q E s := by
  refine append_K (its := ts.toArray) (n := n) F N (.head hne) ?_ ?_
  · intro h' F' N'
    refine h h' F' ?_
    have e : ts.toArray.push v = (ts ++ [v]).toArray := by simp
    rw [← e]; exact N'
  · rw [sizeLine_eq]; simp only [List.size_toArray]; omega
theorem pop1 {Q : Value → Shared → Prop} (F : Fr h₀ L s.heap m) (N : News h₀ L s.heap ((p, W.listOf (ts ++ [v]).toArray n) :: rest)) (hne : ∀ q ∈ rest, q.1 ≠ p) (hsz : ts.length ≤ 1000000)
    (h : ∀ h', Fr h₀ L h' m → News h₀ L h' ((p, W.listOf ts.toArray (n + 1)) :: rest) → Q v { s with heap := h' }) : wpAny (model prog w) A (call (.builtin "list.pop") [.ref p]) Q E s := by
  refine kl_pop F N (p := ts) (y := v) ?_ (.head hne) ?_ ?_
  · have e := kpa_last v ts
    simpa using e
  · rw [sizeLine_eq]; simp; omega
  · exact h
theorem last1 {value slice : Expr} {u : Tok} {Q : Value → Shared → Prop} (hl : s.heap.IsList p (ts ++ [v]).toArray) (hsz : ts.length ≤ 1000000) (h : Q v s)
    (hs : subscripted slice false (.ref p) (.int (-1) u) = operate [.ref p, .int (-1) u] (getItem (.ref p) (.int (-1) u)) := by with_unfolding_all rfl) :
    wpAny (model prog w) A (subscriptTail value slice (.ref p) (.int (-1) u)) Q E s := by
  refine tail_any hl.typeIs slot_list_getitem.lookup (wpAny_getItem_list_neg hl (by decide) ?_ (by decide) ?_ h) hs
  · simp only [List.size_toArray, List.length_append, List.length_singleton]; omega
  · have e : ((-1 : Int) + ((ts ++ [v]).toArray.size : Nat)).toNat = ts.length := by simp only [List.size_toArray, List.length_append, List.length_singleton]; omega
    rw [e]
    simp
theorem truthy1 {Q : Bool → Shared → Prop} (hl : s.heap.IsList p (ts ++ [v]).toArray) (hsz : ts.length ≤ 1000000) (h : Q true { s with toks := s.toks + 1 + 1 }) : wpAny (model prog w) A (truthy (.ref p)) Q E s := by
  refine wpAny_truthy_list hl ?_ ?_
  · simp only [List.size_toArray, List.length_append, List.length_singleton]; omega
  · have e : (!(ts ++ [v]).toArray.isEmpty) = true := by simp
    rw [e]; exact h
end

section
variable {prog : Program} {w : World} {A : Around} {E : Value → Shared → Prop} {s : Shared} {env : Env} {h₀ : Heap} {x : Str} {body : List Stmt} {Q : Flow → Shared → Prop}
/-- as iter_strs1, for a loop that rebinds the names and beside the list holds one more thing that stays -/
theorem iter_strs2 {L ax p : Addr} {cst : Addr × Obj} {items its : Array Value} {n₀ : Nat} {ys : List Str} {m₀ : Str → Option Value} {rest : List (Addr × Obj)} (names : List Str) (S : Nat → List Value → Prop)
    (hL : env.locals = L) (hh : A.handled = none) (hl : s.heap.IsList ax items) (hy : StrsAre items.toList ys) (haL : ax ≠ L) (hpa : p ≠ ax) (F : Fr h₀ L s.heap m₀) (N : News h₀ L s.heap rest) (hm1 : (p, W.listOf its n₀) ∈ rest) (hm2 : cst ∈ rest) (hj : S 0 its.toList)
    (turn : ∀ (I : Addr) (i : Nat) (y : Str) (t : Tok) (m₁ : Str → Option Value) (ts : List Value) (n : Nat) (own : List (Addr × Obj)) (h : Heap) (tk : Nat), ys[i]? = some y → (∀ z, z ∉ names → m₁ z = m₀ z) → S i ts → (∀ q ∈ own, q.1 ≠ p) → p ≠ I → cst.1 ≠ I →
      Fr h₀ L h (fun z => if z = x then some (.str y t) else m₁ z) → News h₀ L h ((p, W.listOf ts.toArray n) :: cst :: own) →
      wpAny (model prog w) A (execs body env) (TE h₀ L I own (fun m news => (∀ z, z ∉ names → m z = m₀ z) ∧ ∃ ts n, news = [(p, W.listOf ts.toArray n), cst] ∧ S (i + 1) ts) { s with heap := h, toks := tk } Q) E { s with heap := h, toks := tk })
    (done : ∀ (m₁ : Str → Option Value) (ts : List Value) (n : Nat) (h : Heap) (tk : Nat), (∀ z, z ∉ names → m₁ z = m₀ z) → S ys.length ts → Fr h₀ L h m₁ → News h₀ L h [(p, W.listOf ts.toArray n), cst] → Q .next { s with heap := h, toks := tk }) :
    wpAny (model prog w) A (pyIter (.ref ax)) (fun it s₂ => LoopAtV prog w A h₀ env x body Q E it s₂) E s := by
  have hlen : items.size = ys.length := by have := hy.length; simpa using this
  refine iter_listN (L := L) (news := [(p, W.listOf its n₀), cst]) names (fun i m news => ∃ ts n, news = [(p, W.listOf ts.toArray n), cst] ∧ S i ts) hL hh hl haL F (fun q hq => ?_) ⟨its.toList, n₀, by simp, hj⟩ ?_ ?_
  · rcases List.mem_cons.mp hq with rfl | hq
    · exact N _ hm1
    · rw [List.mem_singleton.mp hq]; exact N _ hm2
  · rintro I i v m₁ news₁ own h tk oI hi hv hm ⟨ts, n, rfl, hS⟩ h1 h2 h3 h4 F₁ N₁
    have hi' : i < ys.length := by omega
    obtain ⟨t, ht⟩ := hy.get i ys[i] (by simp [hi'])
    have e : v = .str ys[i] t := by
      have hv' : items.toList[i]? = some v := by simpa using hv
      rw [ht] at hv'; exact (Option.some.inj hv').symm
    subst e
    have hpI : p ≠ I := h1 _ (.head _)
    refine turn I i ys[i] t m₁ ts n own h tk (by simp [hi']) hm hS (fun q hq e => ?_) hpI (h1 _ (.tail _ (.head _))) F₁ N₁
    rcases h2 q hq with h | h
    · exact hpI (e ▸ h)
    · exact hpa (e ▸ h)
  · rintro m₁ news₁ h tk hm ⟨ts, n, rfl, hS⟩ F₁ N₁
    exact done m₁ ts n h tk hm (hlen ▸ hS) F₁ N₁
end
theorem TE.two {h₀ h' : Heap} {L I p : Addr} {cst : Addr × Obj} {own : List (Addr × Obj)} {names : List Str} {m₀ m' : Str → Option Value} {S : List Value → Prop} {s₁ : Shared} {Q : Flow → Shared → Prop} {tk n : Nat} {ts : List Value} {f : Flow} (hf : f = .next ∨ f = .cont)
    (F : Fr h₀ L h' m') (N : News h₀ L h' ((p, W.listOf ts.toArray n) :: cst :: own)) (hpI : p ≠ I) (hcI : cst.1 ≠ I) (hm : ∀ z, z ∉ names → m' z = m₀ z) (hS : S ts) :
    TE h₀ L I own (fun m news => (∀ z, z ∉ names → m z = m₀ z) ∧ ∃ ts n, news = [(p, W.listOf ts.toArray n), cst] ∧ S ts) s₁ Q f { s₁ with heap := h', toks := tk } := by
  have h : ∃ h'' tk' m'' news' all, ({ s₁ with heap := h', toks := tk } : Shared) = { s₁ with heap := h'', toks := tk' } ∧ Fr h₀ L h'' m'' ∧ News h₀ L h'' all ∧ (∀ p ∈ news', p ∈ all) ∧ (∀ p ∈ own, p ∈ all) ∧ (∀ p ∈ news', p.1 ≠ I) ∧ ((∀ z, z ∉ names → m'' z = m₀ z) ∧ ∃ ts n, news' = [(p, W.listOf ts.toArray n), cst] ∧ S ts) :=
    ⟨h', tk, m', [(p, W.listOf ts.toArray n), cst], _, rfl, F, N, fun q hq => (List.mem_cons.mp hq).elim (fun e => by rw [e]; exact .head _) fun hq => by rw [List.mem_singleton.mp hq]; exact .tail _ (.head _), fun q hq => .tail _ (.tail _ hq), fun q hq => (List.mem_cons.mp hq).elim (fun e => by rw [e]; exact hpI) fun hq => by rw [List.mem_singleton.mp hq]; exact hcI, hm, ts, n, rfl, hS⟩
  rcases hf with rfl | rfl <;> exact h

theorem TE.one {h₀ h' : Heap} {L I p : Addr} {own : List (Addr × Obj)} {x : Str} {v : Option Value} {m₀ : Str → Option Value} {S : List Value → Prop} {s₁ : Shared} {Q : Flow → Shared → Prop} {tk n : Nat} {ts : List Value} {f : Flow} (hf : f = .next ∨ f = .cont)
    (F : Fr h₀ L h' (fun z => if z = x then v else m₀ z)) (N : News h₀ L h' ((p, W.listOf ts.toArray n) :: own)) (hpI : p ≠ I) (hS : S ts) :
    TE h₀ L I own (fun m news => (∀ z, z ≠ x → m z = m₀ z) ∧ ∃ ts n, news = [(p, W.listOf ts.toArray n)] ∧ S ts) s₁ Q f { s₁ with heap := h', toks := tk } := by
  have h : ∃ h'' tk' m' news' all, ({ s₁ with heap := h', toks := tk } : Shared) = { s₁ with heap := h'', toks := tk' } ∧ Fr h₀ L h'' m' ∧ News h₀ L h'' all ∧ (∀ p ∈ news', p ∈ all) ∧ (∀ p ∈ own, p ∈ all) ∧ (∀ p ∈ news', p.1 ≠ I) ∧ ((∀ z, z ≠ x → m' z = m₀ z) ∧ ∃ ts n, news' = [(p, W.listOf ts.toArray n)] ∧ S ts) :=
    ⟨h', tk, _, [(p, W.listOf ts.toArray n)], _, rfl, F, N, fun q hq => by rw [List.mem_singleton.mp hq]; exact .head _, fun q hq => .tail _ hq, fun q hq => by rw [List.mem_singleton.mp hq]; exact hpI, fun z hz => if_neg hz, ts, n, rfl, hS⟩
  rcases hf with rfl | rfl <;> exact h

theorem TE.names {h₀ h' : Heap} {L I : Addr} {own news₁ : List (Addr × Obj)} {names : List Str} {m₀ m' : Str → Option Value} {S : (Str → Option Value) → List (Addr × Obj) → Prop} {s₁ : Shared} {Q : Flow → Shared → Prop} {tk : Nat} {f : Flow} (hf : f = .next ∨ f = .cont)
    (F : Fr h₀ L h' m') (N : News h₀ L h' (news₁ ++ own)) (h1 : ∀ p ∈ news₁, p.1 ≠ I) (hm : ∀ z, z ∉ names → m' z = m₀ z) (hS : S m' news₁) :
    TE h₀ L I own (fun m news => (∀ z, z ∉ names → m z = m₀ z) ∧ S m news) s₁ Q f { s₁ with heap := h', toks := tk } := by
  have h : ∃ h'' tk' m'' news' all, ({ s₁ with heap := h', toks := tk } : Shared) = { s₁ with heap := h'', toks := tk' } ∧ Fr h₀ L h'' m'' ∧ News h₀ L h'' all ∧ (∀ p ∈ news', p ∈ all) ∧ (∀ p ∈ own, p ∈ all) ∧ (∀ p ∈ news', p.1 ≠ I) ∧ ((∀ z, z ∉ names → m'' z = m₀ z) ∧ S m'' news') :=
    ⟨h', tk, m', news₁, _, rfl, F, N, fun q hq => List.mem_append_left _ hq, fun q hq => List.mem_append_right _ hq, h1, hm, hS⟩
  rcases hf with rfl | rfl <;> exact h

/-- the map m₀ with the names of l set -/
noncomputable def ov : List (Str × Option Value) → (Str → Option Value) → Str → Option Value
  | [], m => m
  | p :: l, m => fun z => if z = p.1 then p.2 else ov l m z
theorem map_ov {m m₀ : Str → Option Value} : ∀ {l : List (Str × Option Value)}, (∀ p ∈ l, m p.1 = p.2) → (∀ z, z ∉ l.map (·.1) → m z = m₀ z) → m = ov l m₀
  | [], _, h2 => funext fun z => h2 z (fun h => nomatch h)
  | p :: l, h1, h2 => by
    funext z
    show m z = if z = p.1 then p.2 else ov l m₀ z
    by_cases e : z = p.1
    · rw [if_pos e, e]; exact h1 p (.head _)
    · rw [if_neg e]
      have : m = ov l (fun y => if y = p.1 then m y else m₀ y) := map_ov (fun q hq => h1 q (.tail _ hq)) (fun y hy => by
        by_cases e' : y = p.1
        · simp [e']
        · simp only [if_neg e']; exact h2 y (fun hm => (List.mem_cons.mp hm).elim e' hy))
      have key : ∀ (l : List (Str × Option Value)) (f g : Str → Option Value), f z = g z → ov l f z = ov l g z := by
        intro l
        induction l with
        | nil => intro f g h; exact h
        | cons q l ih => intro f g h; show (if z = q.1 then q.2 else ov l f z) = if z = q.1 then q.2 else ov l g z; split; rfl; exact ih f g h
      rw [congrFun this z]
      exact key l _ _ (by simp [e])
section
open PySem PySem.W PyProof.Rows
theorem off_put {names : List Str} {x : Str} {v : Option Value} {m m₀ : Str → Option Value} (hx : x ∈ names) (h : ∀ z, z ∉ names → m z = m₀ z) : ∀ z, z ∉ names → (if z = x then v else m z) = m₀ z :=
  fun z hz => (if_neg (fun e : z = x => hz (e ▸ hx))).trans (h z hz)
theorem off_ov {names : List Str} {m m₀ : Str → Option Value} : ∀ {l : List (Str × Option Value)}, (∀ p ∈ l, p.1 ∈ names) → (∀ z, z ∉ names → m z = m₀ z) → ∀ z, z ∉ names → ov l m z = m₀ z
  | [], _, h, z, hz => h z hz
  | p :: _, hl, h, z, hz => (if_neg (fun e : z = p.1 => hz (e ▸ hl _ (.head _)))).trans (off_ov (fun q hq => hl q (.tail _ hq)) h z hz)
theorem off_all {names : List Str} {m₀ : Str → Option Value} {l : List (Str × Option Value)} (h : l.map (·.1) = names := by rfl) : ∀ z, z ∉ names → ov l m₀ z = m₀ z :=
  off_ov (fun p hp => h ▸ List.mem_map_of_mem hp) fun _ _ => rfl
theorem off_trans {names ns : List Str} {m m₁ m₀ : Str → Option Value} (hs : ∀ x ∈ ns, x ∈ names) (h1 : ∀ z, z ∉ ns → m z = m₁ z) (h2 : ∀ z, z ∉ names → m₁ z = m₀ z) : ∀ z, z ∉ names → m z = m₀ z :=
  fun z hz => (h1 z fun h => hz (hs z h)).trans (h2 z hz)
theorem off_sub {names : List Str} {m m₀ : Str → Option Value} {l : List (Str × Option Value)} (hk : (l.all fun p => names.contains p.1) = true) (h : ∀ z, z ∉ names → m z = m₀ z) : ∀ z, z ∉ names → ov l m z = m₀ z :=
  off_ov (fun p hp => List.contains_iff_mem.mp (List.all_eq_true.mp hk p hp)) h
theorem let_ov {P : Prop} {h₀ h : Heap} {L : Addr} {m m₀ : Str → Option Value} {names : List Str} (l : List (Str × Option Value)) (F : Fr h₀ L h m) (h1 : ∀ p ∈ l, m p.1 = p.2) (hm : ∀ z, z ∉ names → m z = m₀ z) (hn : l.map (·.1) = names) (k : let mA := ov l m₀; Fr h₀ L h mA → P) : P :=
  k (map_ov (l := l) h1 (fun z hz => hm z (hn ▸ hz)) ▸ F)
theorem let_ov1 {P : Prop} {h₀ h : Heap} {L : Addr} {m m₀ : Str → Option Value} {names : List Str} {x : Str} {v : Option Value} (l : List (Str × Option Value)) (F : Fr h₀ L h (fun z => if z = x then v else m z)) (h1 : ∀ p ∈ l, m p.1 = p.2) (hm : ∀ z, z ∉ names → m z = m₀ z) (hn : l.map (·.1) = names) (k : let mA := ov l m₀; Fr h₀ L h (fun z => if z = x then v else mA z) → P) : P :=
  k ((congrArg (fun g : Str → Option Value => Fr h₀ L h (fun z => if z = x then v else g z)) (map_ov (l := l) h1 (fun z hz => hm z (hn ▸ hz)))).mp F)
end
end Mine
end

section
open PySem PySem.W PyProof.Rows PySem.Calls PyProof
set_option maxRecDepth 100000
namespace Mine
theorem glue_size (g : Array Nat) : ∀ (r : List Str) (acc : Array Nat), (r.foldl (fun acc p => acc ++ g ++ p.cps) acc).size = acc.size + r.length * g.size + (r.map (·.length)).sum
  | [], acc => by simp
  | p :: r, acc => by
    rw [List.foldl_cons, glue_size g r]
    simp only [Array.size_append, List.length_cons, List.map_cons, List.sum_cons, Nat.add_mul, Nat.one_mul, Str.length]
    omega
theorem join_len (sep : Str) (ts : List Str) : (Txt.join sep ts).length ≤ (ts.map (·.length)).sum + ts.length * sep.length := by
  unfold Txt.join Builtin.Str.glued Str.length
  cases ts with
  | nil => simp [Str.empty]
  | cons a r =>
    have e := glue_size sep.cps r a.cps
    simp only [List.drop_one, List.tail_cons, List.headD_cons]
    rw [e]
    simp only [List.map_cons, List.sum_cons, List.length_cons, Nat.add_mul, Nat.one_mul, Str.length]
    omega
theorem glue_list (g : Array Nat) : ∀ (r : List Str) (acc : Array Nat), (r.foldl (fun acc p => acc ++ g ++ p.cps) acc).toList = acc.toList ++ r.flatMap (fun p => g.toList ++ p.cps.toList)
  | [], acc => by simp
  | p :: r, acc => by
    rw [List.foldl_cons, glue_list g r]
    simp
/-- a list of texts glued, on plain lists -/
noncomputable def glueL (sep : List Nat) : List (List Nat) → List Nat
  | [] => []
  | a :: r => a ++ r.flatMap (fun p => sep ++ p)
theorem join_list_eq (sep : Str) (ts : List Str) : (Txt.join sep ts).cps.toList = glueL sep.cps.toList (ts.map (·.cps.toList)) := by
  unfold Txt.join Builtin.Str.glued
  cases ts with
  | nil => simp [Str.empty, glueL]
  | cons a r =>
    have e := glue_list sep.cps r a.cps
    simp only [List.drop_one, List.tail_cons, List.headD_cons]
    rw [e]
    simp [glueL, List.flatMap_map]
theorem sum_le (B : Nat) : ∀ (ts : List Str), (∀ a ∈ ts, a.length ≤ B) → (ts.map (·.length)).sum ≤ B * ts.length
  | [], _ => by simp
  | a :: r, h => by
    have h1 := h a (.head _)
    have h2 := sum_le B r fun b hb => h b (.tail _ hb)
    simp only [List.map_cons, List.sum_cons, List.length_cons, Nat.mul_add, Nat.mul_one]
    omega
end Mine
end

section
open PySem PySem.W PyProof.Rows PySem.Calls PyProof PySem.Builtin PySem.Builtin.Str
set_option maxRecDepth 100000
namespace Mine
theorem strExt {x y : Str} (h : x.cps.toList = y.cps.toList) : x = y := by
  cases x; cases y; simp only [Str.mk.injEq]; exact Array.toList_inj.mp h
theorem slice_eq_text (x : Str) (l u : Option Int) : Txt.slice x l u = StrLaws.sliceText x l u := rfl
theorem slice_all (x : Str) : Txt.slice x (some 0) none = x := by
  rw [slice_eq_text, StrLaws.sliceText_from ⟨Int.le_refl 0, by omega⟩]
  apply strExt
  simp
  exact List.take_of_length_le (by simp)
theorem item_last {x : Str} {l : List Nat} {c : Nat} (h : x.cps.toList = l ++ [c]) : Txt.item x (-1) = ⟨#[c]⟩ := by
  have hl : x.length = l.length + 1 := by have := congrArg List.length h; simpa [Str.length] using this
  have e : seqIndex? (-1) x.length = some l.length := by
    rw [hl]
    unfold seqIndex?
    simp
    omega
  unfold Txt.item Txt.charAt
  rw [e]
  have e2 : x.cps[l.length]? = some c := by rw [← Array.getElem?_toList, h]; simp
  simp [e2]
noncomputable def clipN (v : Option Int) (d n : Nat) : Nat := match v with
  | none => d
  | some i => (max 0 (min (if i < 0 then i + n else i) (n : Int))).toNat
theorem slice_idx (l u : Option Int) (n : Nat) : strSliceIndices l u 1 n = sliceRange ((clipN l 0 n : Nat) : Int) ((clipN u n n : Nat) : Int) 1 := by
  unfold strSliceIndices clipN
  cases l <;> cases u <;> simp only [show (1 : Int) > 0 by decide, if_true] <;> congr 1 <;> omega
theorem range_one (a b : Nat) : sliceRange (a : Int) (b : Int) 1 = (List.range (b - a)).map (fun k => a + k) := by
  unfold sliceRange
  simp only [show (1 : Int) > 0 by decide, if_true]
  have e : (if (a : Int) < b then ((b : Int) - a + 1 - 1) / 1 else 0).toNat = b - a := by split <;> omega
  rw [e]
  apply List.map_congr_left
  intro k _
  omega
theorem clipN_le (v : Option Int) (d n : Nat) (h : d ≤ n) : clipN v d n ≤ n := by
  unfold clipN; cases v <;> simp only [] <;> omega
theorem picks' (l : List Nat) : ∀ (m a : Nat), a + m ≤ l.length → ((List.range m).map (fun k => a + k)).filterMap (fun i => l[i]?) = (l.drop a).take m := by
  intro m
  induction m with
  | zero => intro a _; simp
  | succ m ih =>
    intro a h
    rw [List.range_succ, List.map_append, List.filterMap_append, ih a (by omega), List.take_add_one]
    congr 1
    simp [List.getElem?_drop, List.getElem?_eq_getElem (show a + m < l.length by omega)]
theorem slice_list (x : Str) (l u : Option Int) : (Txt.slice x l u).cps.toList = (x.cps.toList.drop (clipN l 0 x.length)).take (clipN u x.length x.length - clipN l 0 x.length) := by
  have h1 := clipN_le l 0 x.length (Nat.zero_le _)
  have h2 := clipN_le u x.length x.length (Nat.le_refl _)
  have hn : x.cps.toList.length = x.length := by simp [Str.length]
  generalize ha : clipN l 0 x.length = a at *
  generalize hb : clipN u x.length x.length = b at *
  unfold Txt.slice
  rw [slice_idx, ha, hb, range_one]
  split
  · rename_i hc
    simp at hc
    by_cases hz : x.length = 0
    · have : x.cps.toList = [] := List.length_eq_zero_iff.mp (by omega)
      rw [this]; simp
    · have e1 : a = 0 := by omega
      rw [e1, List.drop_zero, List.take_of_length_le (by omega)]
  · have := picks' x.cps.toList (b - a) a
    by_cases hab : a ≤ b
    · rw [← this (by omega)]
      simp
    · rw [show b - a = 0 by omega]; simp
theorem slice_to2 (x : Str) : (Txt.slice x none (some 2)).length ≤ 2 := by
  have h := congrArg List.length (slice_list x none (some 2))
  simp only [clipN, List.length_take, List.length_drop, Array.length_toList] at h
  simp only [Str.length] at h ⊢
  omega
theorem split_count (x : Str) : (Txt.split x (Str.ofString "/")).length ≤ x.length + 2 := by
  unfold Txt.split
  split
  · simp
  · split
    · simp
    · have e1 := StrLaws.occ_length_le x (Str.ofString "/") 0 x.length (x.length + 1)
      rw [length_partsBetween]; omega
end Mine
end

section
open PySem PySem.W PyProof.Rows PySem.Calls
set_option maxRecDepth 100000
set_option maxHeartbeats 0
namespace Mine
section
variable {prog : Program} {w : World} {A : Around} {E : Value → Shared → Prop} {s : Shared}
theorem kind_issub_nested : builtinKind "issubclass.nested" = none := by decide +kernel
theorem plain_issub_nested : plainId "issubclass.nested" = true := by decide +kernel
theorem args_issub_nested (a b c : Value) : argsOk "issubclass.nested" ⟨[a, b, c], []⟩ := by unfold argsOk; kernel_rfl
theorem sub_str_str : isSubtype (.type "str") (.type "str") = pure true := by rw [isSubtype_type]; kernel_rfl
theorem issub_one {dep : Int} {tk : Tok} {Q : Fin → Shared → Prop} (hq : Q (.done (.ret (.bool true))) s) :
    wpAny (model prog w) A (Builtin.«issubclass.nested» ⟨[.type "str", .type "str", .int dep tk], []⟩) Q E s := by
  have hty : typeOf (.type "str") = pure (.type "type") := by kernel_rfl
  have hm := sub_str_str
  repeat (any_goals (first | assumption | wp_step))
theorem issub_call_one {k : Int} {Q : Value → Shared → Prop} (hq : Q (.bool true) s) :
    wpAny (model prog w) A (call (.builtin "issubclass.nested") [.type "str", .type "str", rawInt k]) Q E s :=
  call_function_meets kind_issub_nested plain_issub_nested F.entry_issubclass_nested (args_issub_nested _ _ _) (S := fun _ R s => R (.ok (.ret (.bool true))) s) (fun _ _ _ _ _ h => issub_one h) hq
theorem issub_tuple {tp : Addr} {Q : Value → Shared → Prop} (htp : s.heap.get? tp = some { cls := .type "tuple", data := .seq #[.type "str", .type "bytes"] }) (hq : Q (.bool true) s) :
    wpAny (model prog w) A (call (.builtin "issubclass") [.type "str", .ref tp]) Q E s := by
  refine call_issubclass (S := fun _ R s => s.heap.get? tp = some { cls := .type "tuple", data := .seq #[.type "str", .type "bytes"] } ∧ R (.ok (.ret (.bool true))) s) ?_ ⟨htp, hq⟩
  intro prog w A R s hs
  refine issubclass_outer ?_
  obtain ⟨htp, hs⟩ := hs
  obtain ⟨h, g, d, t, os⟩ := s
  have hT2 : (⟨h, g, d, t, os⟩ : Shared).TypeIs (.ref tp) "tuple" := ⟨_, htp, rfl⟩
  have f1 := F.isi_sub_tuple
  repeat (any_goals (first | assumption | (refine issub_call_one ?_) | wp_step))
end
end Mine
end

section
open PySem PySem.W PyProof.Rows PySem.Calls PySem.Builtin PySem.Builtin.Str
set_option maxRecDepth 100000
set_option maxHeartbeats 0
namespace Mine
section
variable {prog : Program} {w : World} {A : Around} {E : Value → Shared → Prop} {s : Shared}
theorem tl_text {tb : Addr} {items : Array Value} {c : Nat} {x : Str} {t : Tok} {Q : Mapped → Shared → Prop} (hl : s.heap.IsList tb items) (hc : c < 2 ^ 32) (hx : items[c]? = some (.str x t))
    (h : ∀ tk, Q (.text x) { s with toks := tk }) : wpAny (model prog w) A (tableLookup (.ref tb) c) Q E s := by
  unfold tableLookup
  refine wpAny_bind (wpAny_attempt (wpAny_bind (wpAny_mkInt ?_)))
  refine wpAny_getItem_list (s := { s with toks := s.toks + 1 }) hl (by omega) (by omega) (by simpa using hx) ?_
  repeat (any_goals (first | assumption | wp_step))
  exact h _
theorem arrLoop {M : Model} {α β : Type} {F : α → β → Sem (ForInStep β)} {arr : Array α} {b : β} {s : Shared} {Q : β → Shared → Prop} {hle : arr.size ≤ arr.size}
    (hq : wpAny M A (forIn arr.toList b F) Q E s) : wpAny M A (Array.forIn'.loop arr (fun a _ => F a) arr.size hle b) Q E s := by
  have e : forIn arr b F = forIn arr.toList b F := by
    first
      | exact (Array.forIn_toList ..).symm
      | simp
  show wpAny M A (forIn arr b F) Q E s
  rw [e]; exact hq
theorem lookup_mem {β : Type} : ∀ {l : List (Nat × β)} {a : Nat} {b : β}, l.lookup a = some b → (a, b) ∈ l
  | (k, v) :: l, a, b, h => by
    rw [List.lookup_cons] at h
    by_cases e : (a == k) = true
    · simp only [e] at h
      rw [beq_iff_eq.mp e, ← Option.some.inj h]; exact .head _
    · simp only [Bool.not_eq_true] at e
      simp only [e] at h
      exact .tail _ (lookup_mem h)
theorem cat_list : ∀ (ps : List Str) (acc : Array Nat), (ps.foldl (fun acc p => acc ++ p.cps) acc).toList = acc.toList ++ ps.flatMap (fun p => p.cps.toList)
  | [], acc => by simp
  | p :: ps, acc => by rw [List.foldl_cons, cat_list ps]; simp
/-- what a table of texts makes of a text -/
noncomputable def trF (tab : Nat → Str) (l : List Nat) : List Nat := l.flatMap fun c => (tab c).cps.toList
theorem translate_tree {tb : Addr} {items : Array Value} {x : Str} {t : Tok} {tab : Nat → Str} {P : Fin → Shared → Prop} (hl : s.heap.IsList tb items) (hx : ∀ c ∈ x.cps.toList, c < 256) (ht : ∀ c, c < 256 → ∃ u, items[c]? = some (.str (tab c) u))
    (hs : (trF tab x.cps.toList).length ≤ 1000000) (h0 : x.length ≠ 0)
    (h : ∀ u tk, P (.done (.ret (.str ⟨(trF tab x.cps.toList).toArray⟩ u))) { s with toks := tk }) : wpAny (model prog w) A (Builtin.«str.translate» ⟨[.str x t, .ref tb], []⟩) P E s := by
  unfold Builtin.«str.translate»
  have hne : (x.length == 0) = false := by simpa using h0
  repeat (any_goals (first | assumption | wp_step))
  refine arrLoop ?_
  refine wpAny_forIn_list _ (fun rest (b : List Str × Nat × Bool × List (Nat × Option Nat) × Bool) s' => ∃ done tk, done ++ rest = x.cps.toList ∧ s' = { s with toks := tk } ∧ b.2.2.2.2 = false ∧
    b.1.reverse.flatMap (fun p => p.cps.toList) = trF tab done ∧ b.2.1 = (trF tab done).length ∧ ∀ p ∈ b.2.2.2.1, ∃ d, p.2 = some d ∧ (tab p.1).cps.toList = [d]) _ ?_ ?_ _ _ ⟨[], s.toks, rfl, rfl, rfl, rfl, rfl, fun _ h => nomatch h⟩
  · rintro c rest ⟨pieces, total, fast, known, afterDrop⟩ s' ⟨done, tk, hd, rfl, had, hp, htot, hk⟩
    dsimp only at had hp htot hk ⊢
    subst had
    have hc : c < 256 := hx c (by rw [← hd]; simp)
    obtain ⟨u, hu⟩ := ht c hc
    have e1 : trF tab (done ++ [c]) = trF tab done ++ (tab c).cps.toList := by simp [trF]
    have hle : (trF tab done).length + (tab c).cps.toList.length ≤ 1000000 := by
      have : trF tab x.cps.toList = trF tab done ++ (tab c).cps.toList ++ trF tab rest := by rw [← hd]; simp [trF]
      rw [this] at hs
      simp only [List.length_append] at hs
      omega
    have hnl : tooLong total = false := by
      unfold tooLong; rw [sizeLine_eq]; exact decide_eq_false (by omega)
    have slow : ∀ (kn : List (Nat × Option Nat)) (tk : Nat), (∀ p ∈ kn, ∃ d, p.2 = some d ∧ (tab p.1).cps.toList = [d]) → ∃ done' tk', done' ++ rest = x.cps.toList ∧ ({ s with toks := tk } : Shared) = { s with toks := tk' } ∧ false = false ∧
        (tab c :: pieces).reverse.flatMap (fun p => p.cps.toList) = trF tab done' ∧ total + (tab c).length = (trF tab done').length ∧ ∀ p ∈ kn, ∃ d, p.2 = some d ∧ (tab p.1).cps.toList = [d] :=
      fun kn tk hkn => ⟨done ++ [c], tk, by rw [← hd]; simp, rfl, rfl, by rw [e1, List.reverse_cons, List.flatMap_append, hp]; simp, by rw [e1, List.length_append, htot]; simp [Str.length], hkn⟩
    have quick : ∀ (d : Nat) (kn : List (Nat × Option Nat)) (tk : Nat), (tab c).cps.toList = [d] → (∀ p ∈ kn, ∃ d, p.2 = some d ∧ (tab p.1).cps.toList = [d]) → ∃ done' tk', done' ++ rest = x.cps.toList ∧ ({ s with toks := tk } : Shared) = { s with toks := tk' } ∧ false = false ∧
        ((⟨#[d]⟩ : Str) :: pieces).reverse.flatMap (fun p => p.cps.toList) = trF tab done' ∧ total + 1 = (trF tab done').length ∧ ∀ p ∈ kn, ∃ d, p.2 = some d ∧ (tab p.1).cps.toList = [d] :=
      fun d kn tk hd' hkn => ⟨done ++ [c], tk, by rw [← hd]; simp, rfl, rfl, by rw [e1, List.reverse_cons, List.flatMap_append, hp, hd']; simp, by rw [e1, List.length_append, htot, hd']; simp, hkn⟩
    rw [if_neg (by rw [hnl]; exact Bool.false_ne_true)]
    cases fast with
    | true =>
      rw [if_pos rfl]
      cases hlk : known.lookup c with
      | some a =>
        obtain ⟨d, hd1, hd2⟩ := hk (c, a) (lookup_mem hlk)
        dsimp only at hd1 hd2
        subst hd1
        exact wpAny_bind (wpAny_pure (wpAny_pure (quick d known tk hd2 hk)))
      | none =>
        dsimp only
        repeat (any_goals (first | assumption | ((with_reducible show wpAny _ _ (tableLookup _ _) _ _ _); refine tl_text hl (by omega) hu ?_; intro tk') | wp_step))
        dsimp only
        by_cases hcd : ((tab c).length == 1 && (tab c).cps.all fun x => decide (x < 128)) = true
        · have h1 : (tab c).cps.toList.length = 1 := by
            have := (Bool.and_eq_true_iff.mp hcd).1
            simpa [Str.length] using this
          obtain ⟨d, hd2⟩ : ∃ d, (tab c).cps.toList = [d] := by
            cases hq : (tab c).cps.toList with
            | nil => rw [hq] at h1; cases h1
            | cons d r =>
              rw [hq] at h1
              cases r with
              | nil => exact ⟨d, rfl⟩
              | cons _ _ => simp at h1
          have h2 : (tab c).cps[0]? = some d := by rw [← Array.getElem?_toList, hd2]; rfl
          rw [if_pos hcd, h2]
          dsimp only
          refine wpAny_bind (wpAny_pure (wpAny_pure (quick d _ _ hd2 ?_)))
          intro p hp'
          rcases List.mem_cons.mp hp' with rfl | hp'
          · exact ⟨d, rfl, hd2⟩
          · exact hk p hp'
        · rw [if_neg hcd]
          dsimp only
          repeat (any_goals (first | assumption | ((with_reducible show wpAny _ _ (tableLookup _ _) _ _ _); refine tl_text hl (by omega) hu ?_; intro tk') | wp_step))
          exact slow _ _ hk
    | false =>
      rw [if_neg Bool.false_ne_true]
      repeat (any_goals (first | assumption | ((with_reducible show wpAny _ _ (tableLookup _ _) _ _ _); refine tl_text hl (by omega) hu ?_; intro tk') | wp_step))
      exact slow _ _ hk
  · rintro ⟨pieces, total, fast, known, afterDrop⟩ s' ⟨done, tk, hd, rfl, had, hp, htot, hk⟩
    dsimp only at had hp htot hk ⊢
    rw [List.append_nil] at hd
    subst hd
    have hnl : tooLong total = false := by
      unfold tooLong; rw [sizeLine_eq]; exact decide_eq_false (by omega)
    rw [if_neg (by rw [hnl]; exact Bool.false_ne_true)]
    have e : pieces.reverse.foldl (fun acc p => acc ++ p.cps) #[] = (trF tab x.cps.toList).toArray := by
      have q := cat_list pieces.reverse #[]
      rw [hp] at q
      simp only [List.nil_append] at q
      rw [← q]
    rw [e]
    show wpAny _ _ (do ret (← mkStr _)) _ _ _
    refine wpAny_bind (wpAny_mkStr ?_ (by rw [sizeLine_eq]; simp only [Str.length, List.size_toArray]; omega))
    exact wpAny_pure (h _ _)
theorem translate_call {tb : Addr} {items : Array Value} {x : Str} {t : Tok} {tab : Nat → Str} {Q : Value → Shared → Prop} (hl : s.heap.IsList tb items) (hx : ∀ c ∈ x.cps.toList, c < 256) (ht : ∀ c, c < 256 → ∃ u, items[c]? = some (.str (tab c) u))
    (hs : (trF tab x.cps.toList).length ≤ 1000000) (h0 : x.length ≠ 0)
    (h : ∀ u tk, Q (.str ⟨(trF tab x.cps.toList).toArray⟩ u) { s with toks := tk }) : wpAny (model prog w) A (call (.builtin "str.translate") [.str x t, .ref tb]) Q E s :=
  wpAny_call_entry F.slot_str_translate (typeIs_str _ _ _) F.entry_str_translate (translate_tree hl hx ht hs h0 fun u tk => ⟨_, rfl, h u tk⟩) (F.args_str_translate_2 _ _)
theorem translate_method {x : Str} {t : Tok} {M : Model} {pl : Sem Bool} {Q : Value × List Value → Shared → Prop} (h : Q (.builtin "str.translate", [.str x t]) s) : wpAny M A (getMethod (.str x t) "translate" pl) Q E s := by
  with_reducible exact GM.of (.str x t) (typeIs_str _ _ _) F.slot_str_translate F.type_str_translate GM.noRef h
end
end Mine
end

section
open PySem PySem.W PyProof.Rows PySem.Calls PySem.Builtin
set_option maxRecDepth 100000
set_option maxHeartbeats 0
namespace Mine
section
variable {prog : Program} {w : World} {A : Around} {E : Value → Shared → Prop} {s : Shared}
theorem latin_run {M : Model} {id : String} {b : Array UInt8} {Q : Array Nat × Nat → Shared → Prop} (hb : b.size ≤ 1000000) (h : ∀ n, Q ((b.toList.map (·.toNat)).toArray, n) s) :
    wpAny M A (_codecs.runDecoder id _codecs.latin1Decoder none true b 0 []) Q E s := by
  unfold _codecs.runDecoder
  dsimp only
  rw [Std.Legacy.Range.forIn_eq_forIn_range']
  refine wpAny_bind (wpAny_forIn_list _ (fun rest (st : Nat × Array Nat × _codecs.Faults) s' => s' = s ∧ st.1 + rest.length = b.size ∧ st.2.1 = ((b.toList.take st.1).map (·.toNat)).toArray) _ ?_ ?_ _ _ ⟨rfl, by simp, by simp⟩)
  · intro c rest st s' hI
    obtain ⟨p, out, fs⟩ := st
    obtain ⟨hs', hl, ho⟩ := hI
    dsimp only at hl ho ⊢
    simp only [List.length_cons] at hl
    have h1 : ¬ (out.size > sizeLine) := by rw [sizeLine_eq, ho]; simp; omega
    have h2 : ¬ (p ≥ b.size) := by omega
    rw [if_neg h1, if_neg h2]
    show wpAny M A (pure (ForInStep.yield (p + 1, out ++ [(b.getD p 0).toNat].toArray, fs))) _ E s'
    refine wpAny_pure ⟨hs', by dsimp only; omega, ?_⟩
    dsimp only
    rw [ho, List.take_add_one]
    have h3 : b.toList[p]? = some (b.getD p 0) := by
      rw [Array.getElem?_toList, Array.getElem?_eq_getElem (by omega)]
      simp [Array.getD, show p < b.size by omega]
    rw [h3]
    simp
  · intro st s' hI
    obtain ⟨p, out, fs⟩ := st
    obtain ⟨hs', hl, ho⟩ := hI
    dsimp only at hl ho ⊢
    simp only [List.length_nil, Nat.add_zero] at hl
    rw [hl, List.take_of_length_le (by simp)] at ho
    rw [ho, hs']
    exact wpAny_pure (h _)
theorem road_latin {id : String} {b : Array UInt8} : _codecs.decodeRoad id b (PySem.Str.ofString "latin1") none [] = (_codecs.runDecoder id _codecs.latin1Decoder none true b 0 [] >>= fun r => mkStr ⟨r.1⟩) := by kernel_rfl
theorem text_latin {b : Array UInt8} {t t1 t2 : Tok} {d : Str} :
    Meets («_codecs.decode.text» ⟨[.bytes b t, .str (PySem.Str.ofString "latin1") t1, .none, .str d t2], []⟩) (fun _ R s => b.size ≤ 1000000 ∧ ∀ u, R (.ok (.ret (.str ⟨(b.toList.map (·.toNat)).toArray⟩ u))) { s with toks := s.toks + 1 }) := by
  refine .of_wp fun prog w A R s hS => ?_
  obtain ⟨hsz, h⟩ := hS
  show wpAny _ _ (Bytes.bytesLike _ (.bytes b t) >>= fun r => _) _ _ s
  refine wpAny_bind (wpAny_of_eq KBd.like_eq ?_)
  refine wpAny_bind (wpAny_of_eq KBd.held_eq ?_)
  show wpAny _ _ (_codecs.decodeRoad _ b (PySem.Str.ofString "latin1") none [] >>= fun v => _) _ _ s
  rw [road_latin]
  refine wpAny_bind (wpAny_bind (latin_run hsz fun n => ?_))
  exact wpAny_mkStr (wpAny_pure ⟨_, rfl, h _⟩) (by rw [sizeLine_eq]; simp [Str.length]; omega)
theorem entry_latin {c : UInt8} {cs : List UInt8} {t u : Tok} : «bytes.decode» ⟨[.bytes (c :: cs).toArray t, .str (PySem.Str.ofString "latin1") u], []⟩ = (mkStr (PySem.Str.ofString "utf-8") >>= fun _ => mkStr (PySem.Str.ofString "latin1") >>= fun e => mkStr (PySem.Str.ofString "bytes.decode") >>= fun d =>
    call (.builtin "_codecs.decode.text") [.bytes (c :: cs).toArray t, e, .none, d] >>= fun v => ret v) := by kernel_rfl
theorem latin_call {b : Array UInt8} {t u : Tok} {Q : Value → Shared → Prop} (h0 : b.size ≠ 0) (hb : b.size ≤ 1000000) (h : ∀ t' k, Q (.str ⟨(b.toList.map (·.toNat)).toArray⟩ t') { s with toks := k }) :
    wpAny (model prog w) A (call (.builtin "bytes.decode") [.bytes b t, .str (PySem.Str.ofString "latin1") u]) Q E s := by
  obtain ⟨l⟩ := b
  cases l with
  | nil => exact absurd rfl h0
  | cons c cs =>
    refine call_meets FB.slot_bytes_decode (typeIs_bytes _ _ _) FB.entry_bytes_decode (by first | exact FB.args_bytes_decode_2 _ _ | (unfold argsOk; kernel_rfl)) (S := fun _ R s => ∀ t' k, R (.ok (.ret (.str ⟨((c :: cs).map (·.toNat)).toArray⟩ t'))) { s with toks := k }) ?_ h
    refine .of_wp fun prog w A R s h => ?_
    have e : (⟨c :: cs⟩ : Array UInt8) = (c :: cs).toArray := rfl
    rw [e, entry_latin]
    refine wpAny_bind (wpAny_mkStr ?_ (by decide))
    refine wpAny_bind (wpAny_mkStr ?_ (by decide))
    refine wpAny_bind (wpAny_mkStr ?_ (by decide))
    exact wpAny_bind (call_function_meets KBd.kind_text KBd.plain_text KBd.entry_text (KBd.args_text _ _ _ _) text_latin ⟨hb, fun u => wpAny_pure ⟨_, rfl, h _ _⟩⟩)
end
end Mine
end

section
open PySem PySem.W PyProof.Rows PySem.Calls PySem.Builtin
set_option maxRecDepth 100000
set_option maxHeartbeats 0
namespace Mine
section
variable {prog : Program} {w : World} {A : Around} {E : Value → Shared → Prop} {s : Shared}
open PySem.NumText in
theorem read16 (n : Nat) (hn : n < 256) : (int_private% "readNumeral") 0 16 (hex2 n) = (int_private% "Numeral.value") (n : Int) := by
  have key : ∀ m : _root_.Fin 256, (hex2 m.val).dropWhile blank = hex2 m.val ∧ sign (hex2 m.val) = (false, hex2 m.val) ∧ based 16 (hex2 m.val) = (16, false, hex2 m.val) ∧
      (((hex2 m.val).reverse.dropWhile blank).reverse) = hex2 m.val ∧ digits? 16 (hex2 m.val) = some #[m.val / 16, m.val % 16] := by decide +kernel
  obtain ⟨h1, h2, h3, h4, h5⟩ := key ⟨n, hn⟩
  dsimp only at h1 h2 h3 h4 h5
  rw [readNumeral_eq, h1, h2]
  dsimp only
  rw [h3]
  dsimp only
  rw [h4, h5]
  have e : (((#[n / 16, n % 16] : Array Nat).foldl (fun acc d => acc * 16 + d) 0 : Nat)) = n := by
    show (0 * 16 + n / 16) * 16 + n % 16 = n
    omega
  show (int_private% "Numeral.value") (if false = true then _ else (((#[n / 16, n % 16] : Array Nat).foldl (fun acc d => acc * 16 + d) 0 : Nat) : Int)) = _
  rw [e]; rfl
theorem wp_text16 {M : Model} {Q : Value → Shared → Prop} {v : Value} {text : List Nat} {n : Int}
    (hs : (text.takeWhile (· != 0)).length ≤ 640) (hr : (int_private% "readNumeral") 0 16 (text.takeWhile (· != 0)) = (int_private% "Numeral.value") n)
    (ha : ((text.takeWhile (· != 0)).length == text.length) = true) (h : Q (.int n s.toks) { s with toks := s.toks + 1 }) :
    wpAny M A ((int_private% "intFromText") v text 16) Q E s := by
  obtain ⟨hp, g, d, tk, os⟩ := s
  repeat (any_goals (first
    | assumption
    | (with_reducible refine wpAny_ite_true (decide_eq_true hs) ?_)
    | (with_reducible refine wpAny_ite_true (decide_eq_true ha) ?_)
    | wp_step))
  all_goals (try rw [hr])
  all_goals (try dsimp only)
  repeat (any_goals (first
    | assumption
    | (with_reducible refine wpAny_ite_true (decide_eq_true hs) ?_)
    | (with_reducible refine wpAny_ite_true (decide_eq_true ha) ?_)
    | wp_step))
theorem hex_seen : ∀ m : _root_.Fin 256, (hex2 m.val).takeWhile (· != 0) = hex2 m.val ∧ (hex2 m.val).toArray.all (· < 128) = true := by decide +kernel
theorem wp_text16c {M : Model} {Q : Value → Shared → Prop} {v : Value} {n : Nat} (hn : n < 256) (h : Q (.int n s.toks) { s with toks := s.toks + 1 }) :
    wpAny M A ((int_private% "intFromText") v (if (⟨(hex2 n).toArray⟩ : Str).cps.all (· < 128) then (⟨(hex2 n).toArray⟩ : Str).cps.toList else Unicode.numberText (⟨(hex2 n).toArray⟩ : Str).cps.toList) (Int.toNat 16)) Q E s := by
  obtain ⟨k1, k2⟩ := hex_seen ⟨n, hn⟩
  dsimp only at k1 k2
  rw [if_pos k2]
  show wpAny M A ((int_private% "intFromText") v (hex2 n) 16) Q E s
  refine wp_text16 (by rw [k1]; exact (by decide : 2 ≤ 640)) (by rw [k1]; exact read16 n hn) (by rw [k1]; exact beq_self_eq_true _) h
theorem gives16 {n : Nat} (hn : n < 256) {u v : Tok} : Gives (Builtin.«int.__new__» ⟨[.type "int", .str ⟨(hex2 n).toArray⟩ u, .int 16 v], []⟩) (.int n) :=
  .of_wp fun M A E s Q h => by
    obtain ⟨hp, g, d, tk, os⟩ := s
    have f1 := F.conv_sub_int
    have f2 := F.madeHere_int
    have f6 : typeOf (.str ⟨(hex2 n).toArray⟩ u) = pure (.type "str") := rfl
    repeat (any_goals (first
      | assumption
      | ((with_reducible show wpAny _ _ ((int_private% "intFromText") _ _ _) _ _ _); refine wp_text16c hn ?_)
      | wp_step))
    all_goals exact ⟨_, rfl, h⟩
theorem typeCall16 (a b : Value) : checkTypeCall "int" ⟨[a, b], []⟩ = pure () := by kernel_rfl
theorem newCall16 (a b : Value) : checkBuiltinCall "int.__new__" ⟨[.type "int", a, b], []⟩ = pure () := by kernel_rfl
theorem int16_call {n : Nat} (hn : n < 256) {u v : Tok} {Q : Value → Shared → Prop} (h : Q (.int n s.toks) { s with toks := s.toks + 1 }) :
    wpAny (model prog w) A (call (.type "int") [.str ⟨(hex2 n).toArray⟩ u, .int 16 v]) Q E s :=
  callType_new F.called_int F.newNe_int (typeCall16 _ _) (newCall16 _ _) (fun obj => F.args_object_init_3 obj _ _) F.entry_int_new (gives16 hn).meets (show (Made.int n).post _ s from ⟨rfl, h⟩)
end
end Mine
end

section
open PySem PySem.W PyProof.Rows PySem.Calls PySem.Builtin
set_option maxRecDepth 100000
set_option maxHeartbeats 0
namespace Mine
noncomputable def boundApp (l : Addr) : Obj := { cls := .type "builtin_function_or_method", data := .fields #[.builtin "list.append", .ref l] }
theorem slot_mget : Slot "method_descriptor" "__get__" "method_descriptor.__get__" :=
  .of (owner := "method_descriptor") (n := "__get__") (by rw [typeLookup_type, builtinLookup_eq_fast]; kernel_rfl) (by decide +kernel) (by decide +kernel) (by decide +kernel)
    (by first | exact .inl (by decide +kernel) | exact .inr (by decide +kernel)) (by rw [isSubtype_type]; kernel_rfl)
theorem entry_mget : entryFor table "method_descriptor.__get__" = some Builtin.«method_descriptor.__get__» := entryFor_of_tree (by kernel_rfl)
theorem args_mget (a b c : Value) : argsOk "method_descriptor.__get__" ⟨[a, b, c], []⟩ := by unfold argsOk; kernel_rfl
theorem mset : typeLookup (.type "method_descriptor") "__set__" = pure none := by rw [typeLookup_type, builtinLookup_eq_fast]; kernel_rfl
theorem mdel : typeLookup (.type "method_descriptor") "__delete__" = pure none := by rw [typeLookup_type, builtinLookup_eq_fast]; kernel_rfl
theorem type_lapp : typeOf (.builtin "list.append") = pure (.type "method_descriptor") := by show builtinType _ = _; rw [builtinType_eq_fast]; kernel_rfl
theorem lookup_app : typeLookup (.type "list") "append" = pure (some (.builtin "list.append")) := by rw [typeLookup_type, builtinLookup_eq_fast]; kernel_rfl
section
variable {prog : Program} {w : World} {A : Around} {E : Value → Shared → Prop} {s : Shared}
theorem mget_run {l : Addr} {o : Obj} {P : Fin → Shared → Prop} (ho : s.heap.get? l = some o) (hc : o.cls = .type "list") (h : P (.done (.ret (.ref s.heap.objs.size))) { s with heap := s.heap.push (boundApp l) }) :
    wpAny (model prog w) A (Builtin.«method_descriptor.__get__» ⟨[.builtin "list.append", .ref l, .type "list"], []⟩) P E s := by
  have hT2 : s.TypeIs (.ref l) "list" := ⟨_, ho, hc⟩
  have hsub : isSubtype (.type "list") (.type (".".intercalate ("list.append".cutAt '.').dropLast)) = pure true := by
    rw [show (".".intercalate ("list.append".cutAt '.').dropLast) = "list" by decide +kernel, isSubtype_type]; kernel_rfl
  unfold Builtin.«method_descriptor.__get__»
  repeat (any_goals (first | assumption | wp_step))
theorem oga_run {l : Addr} {its : Array Value} {n : Nat} {u : Tok} {P : Fin → Shared → Prop} (ho : s.heap.get? l = some (W.listOf its n)) (h : ∀ tk, P (.done (.ret (.ref s.heap.objs.size))) { s with heap := s.heap.push (boundApp l), toks := tk }) :
    wpAny (model prog w) A (Builtin.«object.__getattribute__» ⟨[.ref l, .str (Str.ofString "append") u], []⟩) P E s := by
  have hT2 : s.TypeIs (.ref l) "list" := ⟨_, ho, rfl⟩
  have f1 := lookup_app
  have f2 := type_lapp
  have f3 := slot_mget.lookup
  have f4 := mset
  have f5 := mdel
  unfold Builtin.«object.__getattribute__»
  repeat (any_goals (first | assumption | ((with_reducible show wpAny _ _ (call _ _) _ _ _); refine wpAny_call_entry slot_mget type_lapp entry_mget (mget_run ho rfl ⟨_, rfl, ?_⟩) (args_mget _ _ _)) | wp_step))
  all_goals exact h _
theorem getAttr_append {l : Addr} {its : Array Value} {n : Nat} {Q : Value → Shared → Prop} (ho : s.heap.get? l = some (W.listOf its n)) (h : ∀ tk, Q (.ref s.heap.objs.size) { s with heap := s.heap.push (boundApp l), toks := tk }) :
    wpAny (model prog w) A (getAttr (.ref l) (Str.ofString "append") true) Q E s := by
  have hT2 : s.TypeIs (.ref l) "list" := ⟨_, ho, rfl⟩
  have f1 := F.slot_list_getattribute.lookup
  unfold getAttr
  repeat (any_goals (first | assumption | (refine wpAny_call_entry F.slot_list_getattribute hT2 F.entry_list_ga (oga_run ho fun tk => ⟨_, rfl, ?_⟩) (F.args_list_getattribute_2 _ _)) | wp_step))
  all_goals exact h _
theorem sub_lm : isSubtype (.type "list") (.type "module") = pure false := by rw [isSubtype_type]; kernel_rfl
theorem sub_lt : isSubtype (.type "list") (.type "type") = pure false := by rw [isSubtype_type]; kernel_rfl
theorem check_app {l : Addr} {its : Array Value} {n : Nat} {v : Value} {Q : Unit → Shared → Prop} (ho : s.heap.get? l = some (W.listOf its n)) (h : Q () s) : wpAny (model prog w) A (checkBoundCall "list.append" ⟨[.ref l, v], []⟩) Q E s := by
  have hT2 : s.TypeIs (.ref l) "list" := ⟨_, ho, rfl⟩
  have f1 := sub_lm
  have f2 := sub_lt
  unfold checkBoundCall
  repeat (any_goals (first | assumption | wp_step))
theorem call_bound {x l : Addr} {its : Array Value} {n : Nat} {v : Value} {Q : Value → Shared → Prop} (hx : s.heap.get? x = some (boundApp l)) (ho : s.heap.get? l = some (W.listOf its n)) (hsz : its.size ≤ sizeLine)
    (h : ∀ h', Heap.SameBut l s.heap h' → h'.get? l = some (W.listOf (its.push v) (n + 1)) → Q .none { s with heap := h' }) : wpAny (model prog w) A (call (.ref x) [v]) Q E s := by
  refine wpAny_call (codeAny_of_tree ?_)
  show wpAny _ A.in1 (callAny (.ref x) ⟨[v], []⟩) _ _ s
  simp only [callAny]
  refine wpAny_bind (wpAny_load hx ?_)
  simp only [boundApp, show (Value.type "builtin_function_or_method" == Value.type "method" || Value.type "builtin_function_or_method" == Value.type "builtin_function_or_method" || Value.type "builtin_function_or_method" == Value.type "method-wrapper") = true by decide, if_true]
  refine KFB.if_so (by decide) ?_
  refine wpAny_bind (check_app ho ?_)
  refine wpAny_bind (wpAny_pure (wpAny_pure ?_))
  refine ⟨Code.quiet_builtin _ (by decide +kernel), codeAny_builtin entry_list_append ?_⟩
  show wpAny _ _ (updateSeq l (·.push v) >>= fun _ => ret .none) _ _ s
  refine wpAny_bind ?_
  refine wpAny_updateSeq ho rfl (wpAny_pure (h _ (Heap.SameBut.update ..) ?_))
  rw [Heap.get?_update_self _ ho (by rw [mapSeq_push]; rfl), mapSeq_push]
theorem callWith_bapp {M : Model} {pos : Pos} {u l : Addr} {first : List Value} {args : List (Bool × Sem Value)} {Q : Value → Shared → Prop} (hplain : args.any (·.1) = false)
    (h : wpAny M A (evalArgs (.ref u) true args []) (fun x s₁ => s₁.heap.get? u = some (boundApp l) ∧ wpAny M A (call (.ref u) (first ++ x.pos) x.kw) Q E s₁) E s) : wpAny M A (callWith pos (.ref u) first args []) Q E s := by
  unfold callWith
  refine wpAny_bind (wpAny_holding (wpAny_mono h (fun x s₁ h₁ => wpAny_bind (wpAny_standAt ?_)) fun _ _ x => x))
  obtain ⟨ho, hcall⟩ := h₁
  simp only [hplain, List.any_nil, Bool.or_false]
  refine wpAny_bind (m := keeperOf (.ref u)) ?_
  unfold keeperOf
  refine wpAny_bind (wpAny_load ho ?_)
  simp only [boundApp, show (Value.type "builtin_function_or_method" != Value.type "method") = true by decide, show (Value.type "builtin_function_or_method" == Value.type "builtin_function_or_method" || Value.type "builtin_function_or_method" == Value.type "method-wrapper") = true by decide, if_true]
  refine wpAny_pure ?_
  exact wpAny_bind (wpAny_mono hcall (fun r s₂ hr => wpAny_bind (wpAny_holding (wpAny_point (wpAny_pure hr)))) fun _ _ x => x)
theorem callWith_bapp1 {M : Model} {pos : Pos} {u l : Addr} {first : List Value} {env : Env} {e : Expr} {rest : List Expr} {Q : Value → Shared → Prop}
    (h : wpAny M A (spliced (backTo pos (starEach (e :: rest) env))) (fun vs s₁ => s₁.heap.get? u = some (boundApp l) ∧ wpAny M A (call (.ref u) (first ++ vs)) Q E s₁) E s)
    (he : starEach (e :: rest) env = (false, eval e env) :: starEach rest env := by rfl) (hplain : (backTo pos (starEach rest env)).any (·.1) = false := by rfl) :
    wpAny M A (callWith pos (.ref u) first (backTo pos (starEach (e :: rest) env)) []) Q E s := by
  rw [he] at h ⊢
  refine callWith_bapp (l := l) (by show (false || (backTo pos (starEach rest env)).any (·.1)) = false; rw [hplain]; rfl) ?_
  exact evalArgs_plain h
theorem getAttr_appN {h₀ : Heap} {L l : Addr} {m : Str → Option Value} {news : List (Addr × Obj)} {its : Array Value} {n : Nat} {Q : Value → Shared → Prop} (F : Fr h₀ L s.heap m) (N : News h₀ L s.heap news) (hm : (l, W.listOf its n) ∈ news)
    (h : ∀ x h' tk, Fr h₀ L h' m → News h₀ L h' (news ++ [(x, boundApp l)]) → (∀ p ∈ news, p.1 < x) → Q (.ref x) { s with heap := h', toks := tk }) : wpAny (model prog w) A (getAttr (.ref l) (Str.ofString "append") true) Q E s := by
  refine getAttr_append (N.get hm) fun tk => h _ _ tk (F.push _) (fun p hp => ?_) fun p hp => Heap.lt_size (N p hp).1
  have N' := News.push F N (boundApp l)
  rcases List.mem_append.mp hp with q | q
  · exact N' p (.tail _ q)
  · rw [List.mem_singleton.mp q]; exact N' _ (.head _)
theorem call_boundN {h₀ : Heap} {L l x : Addr} {m : Str → Option Value} {rest : List (Addr × Obj)} {ts : List Value} {n : Nat} {v : Value} {Q : Value → Shared → Prop} (F : Fr h₀ L s.heap m) (N : News h₀ L s.heap ((l, W.listOf ts.toArray n) :: (x, boundApp l) :: rest)) (hx : x ≠ l) (hne : ∀ q ∈ rest, q.1 ≠ l) (hsz : ts.length ≤ 1000000)
    (h : ∀ h', Fr h₀ L h' m → News h₀ L h' ((l, W.listOf (ts ++ [v]).toArray (n + 1)) :: (x, boundApp l) :: rest) → Q .none { s with heap := h' }) : wpAny (model prog w) A (call (.ref x) [v]) Q E s := by
  have z := N _ (.head _)
  refine call_bound (N.get (.tail _ (.head _))) (N.get (.head _)) (by rw [sizeLine_eq]; simp only [List.size_toArray]; omega) fun h' hs ho' => h h' (F.change hs z.2.1 z.2.2) ?_
  have e : ts.toArray.push v = (ts ++ [v]).toArray := by simp
  rw [e] at ho'
  intro q hq
  rcases List.mem_cons.mp hq with rfl | hq
  · exact ⟨ho', z.2⟩
  · have zq := N q (.tail _ hq)
    have hql : q.1 ≠ l := by
      rcases List.mem_cons.mp hq with rfl | hq
      · exact hx
      · exact hne q hq
    exact ⟨(hs.2 q.1 hql).trans zq.1, zq.2⟩
end
end Mine
end

section
open PySem PySem.W PyProof.Rows PySem.Calls
set_option maxRecDepth 100000
set_option maxHeartbeats 0
namespace Mine
section
variable {prog : Program} {w : World} {A : Around} {E : Value → Shared → Prop} {s : Shared} {env : Env} {h₀ : Heap} {x : Str} {body : List Stmt} {Q : Flow → Shared → Prop}
/-- a loop over a list of texts that rebinds the names and holds no object of its own -/
theorem iter_strsN {L ax : Addr} {items : Array Value} {ys : List Str} {m₀ : Str → Option Value} {rest : List (Addr × Obj)} (names : List Str) (S : Nat → (Str → Option Value) → Prop)
    (hL : env.locals = L) (hh : A.handled = none) (hl : s.heap.IsList ax items) (hy : StrsAre items.toList ys) (haL : ax ≠ L) (F : Fr h₀ L s.heap m₀) (_N : News h₀ L s.heap rest) (hj : S 0 m₀)
    (turn : ∀ (I : Addr) (i : Nat) (y : Str) (t : Tok) (m₁ : Str → Option Value) (own : List (Addr × Obj)) (h : Heap) (tk : Nat), ys[i]? = some y → (∀ z, z ∉ names → m₁ z = m₀ z) → S i m₁ →
      Fr h₀ L h (fun z => if z = x then some (.str y t) else m₁ z) → News h₀ L h own →
      wpAny (model prog w) A (execs body env) (TE h₀ L I own (fun m news => (∀ z, z ∉ names → m z = m₀ z) ∧ (news = [] ∧ S (i + 1) m)) { s with heap := h, toks := tk } Q) E { s with heap := h, toks := tk })
    (done : ∀ (m₁ : Str → Option Value) (h : Heap) (tk : Nat), (∀ z, z ∉ names → m₁ z = m₀ z) → S ys.length m₁ → Fr h₀ L h m₁ → News h₀ L h [] → Q .next { s with heap := h, toks := tk }) :
    wpAny (model prog w) A (pyIter (.ref ax)) (fun it s₂ => LoopAtV prog w A h₀ env x body Q E it s₂) E s := by
  have hlen : items.size = ys.length := by have := hy.length; simpa using this
  refine iter_listN (L := L) (news := []) names (fun i m news => news = [] ∧ S i m) hL hh hl haL F News.nil ⟨rfl, hj⟩ ?_ ?_
  · rintro I i v m₁ news₁ own h tk oI hi hv hm ⟨rfl, hS⟩ h1 h2 h3 h4 F₁ N₁
    have hi' : i < ys.length := by omega
    obtain ⟨t, ht⟩ := hy.get i ys[i] (by simp [hi'])
    have e : v = .str ys[i] t := by
      have hv' : items.toList[i]? = some v := by simpa using hv
      rw [ht] at hv'; exact (Option.some.inj hv').symm
    subst e
    exact turn I i ys[i] t m₁ own h tk (by simp [hi']) hm hS F₁ N₁
  · rintro m₁ news₁ h tk hm ⟨rfl, hS⟩ F₁ N₁
    exact done m₁ h tk hm (hlen ▸ hS) F₁ N₁

/-- a turn's end of a while that rebinds the names alone -/
noncomputable def WT (h₀ : Heap) (L : Addr) (s : Shared) (names : List Str) (m₀ : Str → Option Value) (news : List (Addr × Obj)) (S : Nat → (Str → Option Value) → Prop) (n : Nat) (f : Flow) (s₃ : Shared) : Prop :=
  f = .next ∧ ∃ h' tk m₂ n' all, s₃ = { s with heap := h', toks := tk } ∧ Fr h₀ L h' m₂ ∧ News h₀ L h' all ∧ (∀ p ∈ news, p ∈ all) ∧ n' < n ∧ (∀ z, z ∉ names → m₂ z = m₀ z) ∧ S n' m₂
theorem WT.of {L : Addr} {names : List Str} {m₀ : Str → Option Value} {news all : List (Addr × Obj)} {S : Nat → (Str → Option Value) → Prop} {n tk : Nat} {h' : Heap} {m₂ : Str → Option Value} (n' : Nat)
    (F : Fr h₀ L h' m₂) (N : News h₀ L h' all) (hs : ∀ p ∈ news, p ∈ all) (hn : n' < n) (hm : ∀ z, z ∉ names → m₂ z = m₀ z) (hS : S n' m₂) : WT h₀ L s names m₀ news S n .next { s with heap := h', toks := tk } :=
  ⟨rfl, h', tk, m₂, n', all, rfl, F, N, hs, hn, hm, hS⟩
theorem while_names {L : Addr} {test : PySem.Expr} {pos : Pos} {m₀ : Str → Option Value} {news : List (Addr × Obj)} (names : List Str) (S : Nat → (Str → Option Value) → Prop) {n₀ : Nat}
    (F : Fr h₀ L s.heap m₀) (N : News h₀ L s.heap news) (hS : S n₀ m₀)
    (turn : ∀ n m₁ h tk, (∀ z, z ∉ names → m₁ z = m₀ z) → S n m₁ → Fr h₀ L h m₁ → News h₀ L h news →
      wpAny (model prog w) A (isTrue test env (eval test env)) (fun b s₂ =>
        if b = true then wpAny (model prog w) A (execs body env) (WT h₀ L s names m₀ news S n) E s₂ else Q .next s₂) E { s with heap := h, toks := tk })
    (hE : PassesOwn (model prog w) A env E := by passes_own) :
    wpAny (model prog w) A (exec (.While test body [] pos) env) Q E s := by
  refine While_inv (L := L) (fun n m nw => (∀ z, z ∉ names → m z = m₀ z) ∧ nw = news ∧ S n m) F N ⟨fun _ _ => rfl, rfl, hS⟩ ?_ hE
  rintro n m₁ news₁ h tk F₁ N₁ ⟨hm, rfl, hS₁⟩
  refine wpAny_mono (turn n m₁ h tk hm hS₁ F₁ N₁) (fun b s₂ h₂ => ?_) (fun _ _ e => e)
  cases b with
  | false =>
    simp only [Bool.false_eq_true, if_false] at h₂ ⊢
    exact h₂
  | true =>
    simp only [if_true] at h₂ ⊢
    refine wpAny_mono h₂ (fun f s₃ h₃ => ?_) (fun _ _ e => e)
    obtain ⟨rfl, h', tk', m₂, n', all, rfl, F₂, N₂, hs, hn, hm₂, hS₂⟩ := h₃
    exact ⟨rfl, h', tk', m₂, _, n', rfl, F₂, fun p hp => N₂ p (hs p hp), hn, hm₂, rfl, hS₂⟩
end
theorem TE.names0 {h₀ h' : Heap} {L I : Addr} {own : List (Addr × Obj)} {names : List Str} {m₀ m' : Str → Option Value} {S : (Str → Option Value) → Prop} {s₁ : Shared} {Q : Flow → Shared → Prop} {tk : Nat} {f : Flow} (hf : f = .next ∨ f = .cont)
    (F : Fr h₀ L h' m') (N : News h₀ L h' own) (hm : ∀ z, z ∉ names → m' z = m₀ z) (hS : S m') :
    TE h₀ L I own (fun m news => (∀ z, z ∉ names → m z = m₀ z) ∧ (news = [] ∧ S m)) s₁ Q f { s₁ with heap := h', toks := tk } :=
  TE.names (news₁ := []) (S := fun m news => news = [] ∧ S m) hf F N (fun _ h => nomatch h) hm ⟨rfl, hS⟩
theorem path_of {x y : Str} {t : Tok} {m : Option Value} (e : x = y) (h : m = some (.str x t) := by rfl) : m = some (.str y t) := by rw [h, e]
theorem int_of {x y : Int} {t : Tok} {m : Option Value} (e : x = y) (h : m = some (.int x t) := by rfl) : m = some (.int y t) := by rw [h, e]
end Mine
end

section
open PySem PySem.W PyProof.Rows PySem.Calls
set_option maxRecDepth 100000
set_option maxHeartbeats 0
namespace Mine
noncomputable def pairO (n : Nat) (t : Tok) (b : Bool) : Obj := { cls := .type "tuple", data := .seq #[.int (n : Nat) t, .bool b] }
/-- an element's end: the made list and the iterator stand, the things made are handed on -/
noncomputable def CE (H : Heap) (C D I : Addr) (oI : Obj) (ys : List Value) (k : Nat) (S : List Value → List (Addr × Obj) → Prop) (s₂ : Shared) (ys' : List Value) (s' : Shared) : Prop :=
  ∃ h' tk m' all made', s' = { s₂ with heap := h', toks := tk } ∧ Fr H C h' m' ∧ News H C h' all ∧ (D, W.listOf ys.toArray k) ∈ all ∧ (I, oI) ∈ all ∧ (∀ p ∈ made', p ∈ all) ∧ (∀ p ∈ made', p.1 ≠ D ∧ p.1 ≠ I) ∧ S ys' made'
theorem news_more {h₀ h h' : Heap} {L : Addr} {m : Str → Option Value} {news new : List (Addr × Obj)} (F : Fr h₀ L h m) (N : News h₀ L h news) (hk : ∀ b o, h.get? b = some o → h'.get? b = some o) (hn : ∀ p ∈ new, h'.get? p.1 = some p.2 ∧ h.get? p.1 = none) : News h₀ L h' (news ++ new) := by
  intro p hp
  rcases List.mem_append.mp hp with hp | hp
  · have z := N p hp
    exact ⟨hk _ _ z.1, z.2⟩
  · have z := hn p hp
    refine ⟨z.1, ?_, ?_⟩
    · intro e
      obtain ⟨o, _, _, ho, _⟩ := F.ns
      rw [e] at z
      rw [z.2] at ho; cases ho
    · cases q : h₀.get? p.1 with
      | none => rfl
      | some o => have := F.keep _ _ q; rw [z.2] at this; cases this
section
variable {prog : Program} {w : World} {A : Around} {E : Value → Shared → Prop} {s : Shared} {env : Env}
theorem comp_loop {elt iter : PySem.Expr} {x : Str} {px : Pos} {ifs : List PySem.Expr} {scope : Scope} {pos : Pos} {cenv : Env} {H : Heap} {I D : Addr} {fp : List Addr} {n : Nat} {P : Nat → Value → Prop} {St : Nat → Heap → Prop} {m : Str → Option Value} {R : Result → Shared → Prop}
    (S : Nat → List Value → List (Addr × Obj) → Prop)
    (Wk : Walks prog w A I fp [I] n P St) (hx : cenv.kindOf x = some .local) (hp : (cenv.scope.kind == .class || (cenv.scope.kind == .module && cenv.locals != cenv.globals)) = false)
    (hal : ∀ i h, St i h → ∃ o, h.get? I = some o) (hfp : ∀ b ∈ fp, b = I ∨ ∃ o, H.get? b = some o) (hIC : I ≠ cenv.locals) (hDI : D ≠ I) (hIH : H.get? I = none) (hlen : n ≤ 10000) (hys : ∀ i ys made, S i ys made → ys.length ≤ i)
    (F : Fr H cenv.locals s.heap m) (N : News H cenv.locals s.heap [(D, W.listOf #[] 0)]) (hst : St 0 s.heap) (h0 : S 0 [] [])
    (turn : ∀ (i : Nat) (v : Value) (m₁ : Str → Option Value) (ys : List Value) (k : Nat) (made : List (Addr × Obj)) (oI : Obj) (h : Heap) (tk : Nat) (E' : Value → Shared → Prop), i < n → P i v → S i ys made → Fr H cenv.locals h (fun y => if y = x then some v else m₁ y) → News H cenv.locals h ((D, W.listOf ys.toArray k) :: (I, oI) :: made) → (∀ p ∈ made, p.1 ≠ D ∧ p.1 ≠ I) →
      wpAny (model prog w) A (forIn ifs true fun c r => if r = true then do let ok ← isTrue c cenv (eval c cenv); pure (ForInStep.yield ok) else pure (ForInStep.yield r)) (fun ok s₃ =>
        if ok = true then wpAny (model prog w) A (eval elt cenv) (fun y s₄ => CE H cenv.locals D I oI ys k (S (i + 1)) { s with heap := h, toks := tk } (ys ++ [y]) s₄) E' s₃
        else CE H cenv.locals D I oI ys k (S (i + 1)) { s with heap := h, toks := tk } ys s₃) E' { s with heap := h, toks := tk })
    (done : ∀ m₁ ys k made h tk, S n ys made → Fr H cenv.locals h m₁ → News H cenv.locals h ((D, W.listOf ys.toArray k) :: made) → R (.ok .next) { s with heap := h, toks := tk }) :
    codeAny (model prog w) A (.compLoop (.ListComp elt [⟨.Name x px, iter, ifs, 0⟩] scope pos) 0 (.ref I) (.ref D) cenv) R s := by
  refine codeAny_compLoop_tests
    (fun k s' => ∃ h tk m' ys nd made i, s' = { s with heap := h, toks := tk } ∧ St i h ∧ Fr H cenv.locals h m' ∧ News H cenv.locals h ((D, W.listOf ys.toArray nd) :: made) ∧ (∀ p ∈ made, p.1 ≠ D ∧ p.1 ≠ I) ∧ S i ys made ∧ i ≤ n ∧ k = n + 1 - i) ?_ (n + 1)
    ⟨s.heap, s.toks, m, [], 0, [], 0, rfl, hst, F, N, (fun _ h => nomatch h), h0, Nat.zero_le _, rfl⟩
  rintro k s' ⟨h, tk, m', ys, nd, made, i, rfl, hSt, F₁, N₁, hmd, hS, hi, rfl⟩
  have keepN : ∀ {h' : Heap}, (∀ b o, b ∉ [I] → h.get? b = some o → h'.get? b = some o) → News H cenv.locals h' ((D, W.listOf ys.toArray nd) :: made) := fun hk p hp' => by
    have z := N₁ p hp'
    refine ⟨hk _ _ ?_ z.1, z.2⟩
    intro hm
    rcases List.mem_cons.mp hp' with rfl | hp''
    · exact hDI (List.mem_singleton.mp hm)
    · exact (hmd p hp'').2 (List.mem_singleton.mp hm)
  have keepF : ∀ {h' : Heap}, (∀ b o, b ∉ [I] → h.get? b = some o → h'.get? b = some o) → Fr H cenv.locals h' m' := fun hk =>
    ⟨F₁.ns.at' fun o e => hk _ o (by rw [List.mem_singleton]; exact fun q => hIC q.symm) e, fun b o e => hk b o (by rw [List.mem_singleton]; rintro rfl; rw [hIH] at e; cases e) (F₁.keep b o e), F₁.above⟩
  by_cases hin : i < n
  · refine Wk.item i _ _ _ hin hSt fun v h₁ tk₁ hP hSt₁ hk => ?_
    have F₂ := keepF hk
    have N₂ := keepN hk
    refine wpAny_assign_Name (wpAny_storeName_local hx F₂.ns (fun h₂ hn₂ hs₂ => ?_) hp)
    have F₃ := F₂.set hn₂ hs₂
    obtain ⟨oI, hoI⟩ := hal _ _ hSt₁
    have hoI₂ : h₂.get? I = some oI := (hs₂.2 I hIC).trans hoI
    have N₃ : News H cenv.locals h₂ ((D, W.listOf ys.toArray nd) :: (I, oI) :: made) := by
      intro p hp'
      rcases List.mem_cons.mp hp' with rfl | hp'
      · have z := N₂ _ (.head _)
        exact ⟨(hs₂.2 _ z.2.1).trans z.1, z.2⟩
      · rcases List.mem_cons.mp hp' with rfl | hp'
        · exact ⟨hoI₂, hIC, hIH⟩
        · have z := N₂ _ (.tail _ hp')
          exact ⟨(hs₂.2 _ z.2.1).trans z.1, z.2⟩
    have back : ∀ {h' : Heap} {mm : Str → Option Value}, Fr H cenv.locals h' mm → h'.get? I = some oI → St (i + 1) h' := fun {h' mm} F' e => by
      refine Wk.frame _ h₁ h' hSt₁ fun b hb o ho => ?_
      rcases hfp b hb with rfl | ⟨o', ho'⟩
      · rw [hoI] at ho; rw [e, ← Option.some.inj ho]
      · have := F₂.keep b o' ho'
        rw [ho] at this
        rw [F'.keep b o' ho', Option.some.inj this]
    have hyl := hys i ys made hS
    refine wpAny_mono (turn i v m' ys nd made oI h₂ (tk₁ + 1) _ hin hP hS F₃ N₃ hmd) (fun ok s₃ h₃ => ?_) fun _ _ e => e
    cases ok with
    | false =>
      simp only [Bool.false_eq_true, if_false] at h₃ ⊢
      obtain ⟨h', tk', m₄, all, made', rfl, F₄, N₄, hD, hI, hm₁, hm₂, hS'⟩ := h₃
      refine ⟨n + 1 - (i + 1), by omega, h', tk', m₄, ys, nd, made', i + 1, rfl, back F₄ (N₄ _ hI).1, F₄, ?_, hm₂, hS', hin, rfl⟩
      intro p hp'
      rcases List.mem_cons.mp hp' with rfl | hp'
      · exact N₄ _ hD
      · exact N₄ _ (hm₁ p hp')
    | true =>
      simp only [if_true] at h₃ ⊢
      refine wpAny_mono h₃ (fun y s₄ h₄ => ?_) fun _ _ e => e
      obtain ⟨h', tk', m₄, all, made', rfl, F₄, N₄, hD, hI, hm₁, hm₂, hS'⟩ := h₄
      have N₅ : News H cenv.locals h' ((D, W.listOf ys.toArray nd) :: (I, oI) :: made') := by
        intro p hp'
        rcases List.mem_cons.mp hp' with rfl | hp'
        · exact N₄ _ hD
        · rcases List.mem_cons.mp hp' with rfl | hp'
          · exact N₄ _ hI
          · exact N₄ _ (hm₁ p hp')
      refine append1 F₄ N₅ ?_ (by omega) fun h₆ F₆ N₆ => ?_
      · intro p hp'
        rcases List.mem_cons.mp hp' with rfl | hp'
        · exact hDI.symm
        · exact (hm₂ p hp').1
      · refine ⟨n + 1 - (i + 1), by omega, h₆, tk', m₄, ys ++ [y], nd + 1, made', i + 1, rfl, back F₆ (N₆ _ (.tail _ (.head _))).1, F₆, ?_, hm₂, hS', hin, rfl⟩
        intro p hp'
        rcases List.mem_cons.mp hp' with rfl | hp'
        · exact N₆ _ (.head _)
        · exact N₆ _ (.tail _ (.tail _ hp'))
  · have e : i = n := by omega
    subst e
    refine Wk.done _ _ _ hSt fun h₁ tk₁ hk => ?_
    exact done m' ys nd made h₁ tk₁ hS (keepF hk) (keepN hk)
theorem comp_loopP {elt iter : PySem.Expr} {x x₂ : Str} {px px₂ tp : Pos} {tk} {scope : Scope} {pos : Pos} {cenv : Env} {H : Heap} {I D : Addr} {fp : List Addr} {n : Nat} {P : Nat → Value → Prop} {St : Nat → Heap → Prop} {m : Str → Option Value} {R : Result → Shared → Prop}
    (S : Nat → List Value → List (Addr × Obj) → Prop)
    (Wk : Walks prog w A I fp [I] n P St) (hh : A.handled = none) (hLI : ∀ i h, St i h → ∃ l j, h.IsListIter I l j) (hP : ∀ i v, P i v → ∃ c cn tt b, v = .ref c ∧ H.get? c = some (pairO cn tt b)) (hx : cenv.kindOf x = some .local) (hx₂ : cenv.kindOf x₂ = some .local) (hp : (cenv.scope.kind == .class || (cenv.scope.kind == .module && cenv.locals != cenv.globals)) = false)
    (hal : ∀ i h, St i h → ∃ o, h.get? I = some o) (hfp : ∀ b ∈ fp, b = I ∨ ∃ o, H.get? b = some o) (hIC : I ≠ cenv.locals) (hDI : D ≠ I) (hIH : H.get? I = none) (hlen : n ≤ 10000) (hys : ∀ i ys made, S i ys made → ys.length ≤ i)
    (F : Fr H cenv.locals s.heap m) (N : News H cenv.locals s.heap [(D, W.listOf #[] 0)]) (hst : St 0 s.heap) (h0 : S 0 [] [])
    (turn : ∀ (i : Nat) (c : Addr) (cn : Nat) (tt : Tok) (b : Bool) (m₁ : Str → Option Value) (ys : List Value) (k : Nat) (made : List (Addr × Obj)) (oI : Obj) (h : Heap) (tk : Nat) (E' : Value → Shared → Prop), i < n → P i (.ref c) → H.get? c = some (pairO cn tt b) → S i ys made → Fr H cenv.locals h (fun y => if y = x₂ then some (.bool b) else if y = x then some (.int (cn : Nat) tt) else m₁ y) → News H cenv.locals h ((D, W.listOf ys.toArray k) :: (I, oI) :: made) → (∀ p ∈ made, p.1 ≠ D ∧ p.1 ≠ I) →
      wpAny (model prog w) A (eval elt cenv) (fun y s₄ => CE H cenv.locals D I oI ys k (S (i + 1)) { s with heap := h, toks := tk } (ys ++ [y]) s₄) E' { s with heap := h, toks := tk })
    (done : ∀ m₁ ys k made h tk, S n ys made → Fr H cenv.locals h m₁ → News H cenv.locals h ((D, W.listOf ys.toArray k) :: made) → R (.ok .next) { s with heap := h, toks := tk }) :
    codeAny (model prog w) A (.compLoop (.ListComp elt [⟨.Tuple [.Name x px, .Name x₂ px₂] tk tp, iter, [], 0⟩] scope pos) 0 (.ref I) (.ref D) cenv) R s := by
  refine LCp.codeAny_compLoop_pair
    (fun k s' => ∃ h tk m' ys nd made i, s' = { s with heap := h, toks := tk } ∧ St i h ∧ Fr H cenv.locals h m' ∧ News H cenv.locals h ((D, W.listOf ys.toArray nd) :: made) ∧ (∀ p ∈ made, p.1 ≠ D ∧ p.1 ≠ I) ∧ S i ys made ∧ i ≤ n ∧ k = n + 1 - i) ?_ (n + 1)
    ⟨s.heap, s.toks, m, [], 0, [], 0, rfl, hst, F, N, (fun _ h => nomatch h), h0, Nat.zero_le _, rfl⟩
  rintro k s' ⟨h, tk, m', ys, nd, made, i, rfl, hSt, F₁, N₁, hmd, hS, hi, rfl⟩
  have keepN : ∀ {h' : Heap}, (∀ b o, b ∉ [I] → h.get? b = some o → h'.get? b = some o) → News H cenv.locals h' ((D, W.listOf ys.toArray nd) :: made) := fun hk p hp' => by
    have z := N₁ p hp'
    refine ⟨hk _ _ ?_ z.1, z.2⟩
    intro hm
    rcases List.mem_cons.mp hp' with rfl | hp''
    · exact hDI (List.mem_singleton.mp hm)
    · exact (hmd p hp'').2 (List.mem_singleton.mp hm)
  have keepF : ∀ {h' : Heap}, (∀ b o, b ∉ [I] → h.get? b = some o → h'.get? b = some o) → Fr H cenv.locals h' m' := fun hk =>
    ⟨F₁.ns.at' fun o e => hk _ o (by rw [List.mem_singleton]; exact fun q => hIC q.symm) e, fun b o e => hk b o (by rw [List.mem_singleton]; rintro rfl; rw [hIH] at e; cases e) (F₁.keep b o e), F₁.above⟩
  by_cases hin : i < n
  · refine Wk.item i _ _ _ hin hSt fun v h₁ tk₁ hPv hSt₁ hk => ?_
    have F₂ := keepF hk
    have N₂ := keepN hk
    obtain ⟨c, cn, tt, b, rfl, hc⟩ := hP i v hPv
    have ht : IsTup h₁ c #[.int (cn : Nat) tt, .bool b] := ⟨_, F₂.keep _ _ hc, rfl, _, rfl⟩
    obtain ⟨lI, jI, hLi⟩ := hLI _ _ hSt₁
    refine wpAny_letOwnedTupleGo_listiter hLi ?_
    refine assign_Tuple_tuple hh ht rfl rfl fun h₅ he => ?_
    have he' : ∀ b o, h₁.get? b = some o → h₅.get? b = some o := fun b o e => he b o (Nat.ne_of_lt (Heap.lt_size e)) e
    have F₅ : Fr H cenv.locals h₅ m' := F₂.grownK he'
    refine assignInOrder_cons (wpAny_assign_Name (wpAny_storeName_local hx F₅.ns (fun h₆ hn₆ hs₆ => ?_) hp))
    refine assignInOrder_cons (wpAny_assign_Name (wpAny_storeName_local hx₂ hn₆ (fun h₂ hn₂ hs₂ => ?_) hp))
    refine assignInOrder_nil ?_
    have F₃ := (F₅.set hn₆ hs₆).set hn₂ hs₂
    obtain ⟨oI, hoI⟩ := hal _ _ hSt₁
    have hoI₂ : h₂.get? I = some oI := (hs₂.2 I hIC).trans ((hs₆.2 I hIC).trans (he' _ _ hoI))
    have N₃ : News H cenv.locals h₂ ((D, W.listOf ys.toArray nd) :: (I, oI) :: made) := by
      intro p hp'
      rcases List.mem_cons.mp hp' with rfl | hp'
      · have z := N₂ _ (.head _)
        exact ⟨(hs₂.2 _ z.2.1).trans ((hs₆.2 _ z.2.1).trans (he' _ _ z.1)), z.2⟩
      · rcases List.mem_cons.mp hp' with rfl | hp'
        · exact ⟨hoI₂, hIC, hIH⟩
        · have z := N₂ _ (.tail _ hp')
          exact ⟨(hs₂.2 _ z.2.1).trans ((hs₆.2 _ z.2.1).trans (he' _ _ z.1)), z.2⟩
    have back : ∀ {h' : Heap} {mm : Str → Option Value}, Fr H cenv.locals h' mm → h'.get? I = some oI → St (i + 1) h' := fun {h' mm} F' e => by
      refine Wk.frame _ h₁ h' hSt₁ fun b hb o ho => ?_
      rcases hfp b hb with rfl | ⟨o', ho'⟩
      · rw [hoI] at ho; rw [e, ← Option.some.inj ho]
      · have := F₂.keep b o' ho'
        rw [ho] at this
        rw [F'.keep b o' ho', Option.some.inj this]
    have hyl := hys i ys made hS
    refine wpAny_mono (turn i c cn tt b m' ys nd made oI h₂ _ _ hin hPv hc hS F₃ N₃ hmd) (fun y s₄ h₄ => ?_) fun _ _ e => e
    obtain ⟨h', tk', m₄, all, made', rfl, F₄, N₄, hD, hI, hm₁, hm₂, hS'⟩ := h₄
    have N₅ : News H cenv.locals h' ((D, W.listOf ys.toArray nd) :: (I, oI) :: made') := by
      intro p hp'
      rcases List.mem_cons.mp hp' with rfl | hp'
      · exact N₄ _ hD
      · rcases List.mem_cons.mp hp' with rfl | hp'
        · exact N₄ _ hI
        · exact N₄ _ (hm₁ p hp')
    refine append1 F₄ N₅ ?_ (by omega) fun h₆ F₆ N₆ => ?_
    · intro p hp'
      rcases List.mem_cons.mp hp' with rfl | hp'
      · exact hDI.symm
      · exact (hm₂ p hp').1
    · refine ⟨n + 1 - (i + 1), by omega, h₆, tk', m₄, ys ++ [y], nd + 1, made', i + 1, rfl, back F₆ (N₆ _ (.tail _ (.head _))).1, F₆, ?_, hm₂, hS', hin, rfl⟩
      intro p hp'
      rcases List.mem_cons.mp hp' with rfl | hp'
      · exact N₆ _ (.head _)
      · exact N₆ _ (.tail _ (.tail _ hp'))
  · have e : i = n := by omega
    subst e
    refine Wk.done _ _ _ hSt fun h₁ tk₁ hk => ?_
    exact done m' ys nd made h₁ tk₁ hS (keepF hk) (keepN hk)
theorem comp_walk {elt iter : PySem.Expr} {x : Str} {px : Pos} {ifs : List PySem.Expr} {scope : Scope} {cl : List (Str × Addr)} {pos : Pos} {Q : Value → Shared → Prop}
    (hclos : closureFor scope env = pure cl) (hcell : ∀ y ∈ scope.names, y.2 ≠ .cell) (hkind : scope.kind = .function)
    (hnames : ∀ y ∈ scope.names, y.2 = .local → scope.names.lookup y.1 = some .local) (hx : scope.names.lookup x = some .local)
    (h : wpAny (model prog w) A (eval iter env) (fun xv s₁ => wpAny (model prog w) A (pyIter xv) (fun it s₂ => ∃ (I : Addr) (fp : List Addr) (n : Nat) (P : Nat → Value → Prop) (St : Nat → Heap → Prop) (H : Heap) (S : Nat → List Value → List (Addr × Obj) → Prop),
      it = .ref I ∧ Walks prog w A I fp [I] n P St ∧ (∀ i h, St i h → ∃ o, h.get? I = some o) ∧ (∀ b ∈ fp, b = I ∨ ∃ o, H.get? b = some o) ∧ H.get? I = none ∧ n ≤ 10000 ∧ (∀ i ys made, S i ys made → ys.length ≤ i) ∧ St 0 s₂.heap ∧ S 0 [] [] ∧
      (∀ b o, H.get? b = some o → s₂.heap.get? b = some o) ∧ H.objs.size ≤ s₂.heap.objs.size ∧
      (∀ (C D : Addr) (i : Nat) (v : Value) (m₁ : Str → Option Value) (ys : List Value) (k : Nat) (made : List (Addr × Obj)) (oI : Obj) (h : Heap) (tk : Nat) (E' : Value → Shared → Prop), i < n → P i v → S i ys made → Fr H C h (fun y => if y = x then some v else m₁ y) → News H C h ((D, W.listOf ys.toArray k) :: (I, oI) :: made) → (∀ p ∈ made, p.1 ≠ D ∧ p.1 ≠ I) → D ≠ I →
        wpAny (model prog w) A (forIn ifs true fun c r => if r = true then do let ok ← isTrue c (compEnvC scope cl C env) (eval c (compEnvC scope cl C env)); pure (ForInStep.yield ok) else pure (ForInStep.yield r)) (fun ok s₃ =>
          if ok = true then wpAny (model prog w) A (eval elt (compEnvC scope cl C env)) (fun y s₄ => CE H C D I oI ys k (S (i + 1)) { s₂ with heap := h, toks := tk } (ys ++ [y]) s₄) E' s₃
          else CE H C D I oI ys k (S (i + 1)) { s₂ with heap := h, toks := tk } ys s₃) E' { s₂ with heap := h, toks := tk }) ∧
      (∀ D ys k made h tk, S n ys made → (∀ b o, H.get? b = some o → h.get? b = some o) → (∀ p ∈ (D, W.listOf ys.toArray k) :: made, h.get? p.1 = some p.2 ∧ H.get? p.1 = none) → Q (.ref D) { s₂ with heap := h, toks := tk })) E s₁) E s)
    (hs : ∀ x, foldedSetIterable iter env x = pure x := by intro _; rfl) :
    wpAny (model prog w) A (eval (.ListComp elt [⟨.Name x px, iter, ifs, 0⟩] scope pos) env) Q E s := by
  rw [eval_ListComp]
  refine wpAny_comprehension_free (use := none) rfl hs hclos hkind hnames (wpAny_mono h (fun xv s₁ h₁ => wpAny_mono h₁ (fun it s₂ h₂ => ?_) fun _ _ e => e) fun _ _ e => e)
  obtain ⟨I, fp, n, P, St, H, S, rfl, Wk, hal, hfp, hIH, hlen, hys, hst, h0, hKp, hsz, turn, done⟩ := h₂
  obtain ⟨oI, hoI⟩ := hal _ _ hst
  refine wpAny_newObj_type (wpAny_newFunctionEnv hcell (by intro y hy; simp at hy) (fun h₁ hns₁ hsb₁ => ?_) hkind)
  dsimp only at hns₁ hsb₁ ⊢
  generalize hH2 : s₂.heap.push { cls := .type "list", dict := none, data := .seq ([] : List Value).toArray } = H2 at hns₁ hsb₁ ⊢
  have hC : H2.objs.size = s₂.heap.objs.size + 1 := by rw [← hH2, Heap.size_push]
  have hIlt := Heap.lt_size hoI
  have old : ∀ b o, s₂.heap.get? b = some o → h₁.get? b = some o := fun b o e => by
    have hb := Heap.lt_size e
    exact hsb₁.extBut b o (by rw [hC]; exact Nat.ne_of_lt (Nat.lt_succ_of_lt hb)) (Heap.get?_push_of_some _ (by rw [← hH2]; exact Heap.get?_push_of_some _ e))
  have fresh : ∀ a, s₂.heap.objs.size ≤ a → H.get? a = none := fun a ha => by
    cases e : H.get? a with
    | none => rfl
    | some o' => have := Heap.lt_size e; exact absurd (Nat.lt_of_lt_of_le this (Nat.le_trans hsz ha)) (Nat.lt_irrefl _)
  have hDC : s₂.heap.objs.size ≠ H2.objs.size := by rw [hC]; exact Nat.ne_of_lt (Nat.lt_succ_self _)
  have hD₁ : h₁.get? s₂.heap.objs.size = some (W.listOf #[] 0) := hsb₁.extBut _ _ hDC (Heap.get?_push_of_some _ (by rw [← hH2]; exact Heap.get?_push_size _ rfl))
  have hIC : I ≠ H2.objs.size := by rw [hC]; exact Nat.ne_of_lt (Nat.lt_succ_of_lt hIlt)
  have hDI : s₂.heap.objs.size ≠ I := Nat.ne_of_gt hIlt
  have hst₁ : St 0 h₁ := Wk.frame _ _ _ hst fun b _ o e => old b o e
  have F₁ : Fr H H2.objs.size h₁ (fun y => List.lookup y ([] : List (Str × Value)).reverse) := ⟨hns₁, fun b o e => old b o (hKp b o e), by rw [hC]; exact Nat.le_succ_of_le hsz⟩
  have N₁ : News H H2.objs.size h₁ [(s₂.heap.objs.size, W.listOf #[] 0)] := fun p hp => by
    rw [List.mem_singleton.mp hp]
    exact ⟨hD₁, hDC, fresh _ (Nat.le_refl _)⟩
  have loop : ∀ s₃ : Shared, s₃ = { s₂ with heap := h₁, toks := s₂.toks + ([] : List (Str × Value)).length } →
      codeAny (model prog w) A (.compLoop (.ListComp elt [⟨.Name x px, iter, ifs, 0⟩] scope pos) 0 (.ref I) (.ref s₂.heap.objs.size) (compEnvC scope cl H2.objs.size env))
        (compPost (model prog w) A E none Q (.ref s₂.heap.objs.size) H2.objs.size) s₃ := by
    rintro s₃ rfl
    refine comp_loop (cenv := compEnvC scope cl H2.objs.size env) S Wk (lookup_relabel_local hx) (by simp [compEnvC, relabel, hkind]) hal hfp hIC hDI hIH hlen hys F₁ N₁ hst₁ h0 ?_ ?_
    · intro i v m₁ ys k made oI h tk E' hi hP hS F N hm
      exact turn H2.objs.size s₂.heap.objs.size i v m₁ ys k made oI h tk E' hi hP hS F N hm hDI
    · intro m₁ ys k made h tk hS F N
      refine ⟨m₁, F.ns, fun h'' hs'' => done _ ys k made h'' tk hS (fun b o e => hs''.extBut b o ?_ (F.keep b o e)) fun p hp => ?_⟩
      · rintro rfl
        have := fresh H2.objs.size (by rw [hC]; exact Nat.le_succ _)
        rw [this] at e; cases e
      · have z := N p hp
        exact ⟨(hs''.2 _ z.2.1).trans z.1, z.2.2⟩
  exact codeAny_compStart_list (loop _ rfl) (Wk.self 0 _ _ _ hst₁ (loop _ rfl))
theorem comp_walkP {elt iter : PySem.Expr} {x x₂ : Str} {px px₂ tp : Pos} {tk} {scope : Scope} {cl : List (Str × Addr)} {pos : Pos} {Q : Value → Shared → Prop}
    (hclos : closureFor scope env = pure cl) (hcell : ∀ y ∈ scope.names, y.2 ≠ .cell) (hkind : scope.kind = .function)
    (hnames : ∀ y ∈ scope.names, y.2 = .local → scope.names.lookup y.1 = some .local) (hh : A.handled = none) (hx : scope.names.lookup x = some .local) (hx₂ : scope.names.lookup x₂ = some .local)
    (h : wpAny (model prog w) A (eval iter env) (fun xv s₁ => wpAny (model prog w) A (pyIter xv) (fun it s₂ => ∃ (I : Addr) (fp : List Addr) (n : Nat) (P : Nat → Value → Prop) (St : Nat → Heap → Prop) (H : Heap) (S : Nat → List Value → List (Addr × Obj) → Prop),
      it = .ref I ∧ Walks prog w A I fp [I] n P St ∧ (∀ i h, St i h → ∃ l j, h.IsListIter I l j) ∧ (∀ i v, P i v → ∃ c cn tt b, v = .ref c ∧ H.get? c = some (pairO cn tt b)) ∧ (∀ i h, St i h → ∃ o, h.get? I = some o) ∧ (∀ b ∈ fp, b = I ∨ ∃ o, H.get? b = some o) ∧ H.get? I = none ∧ n ≤ 10000 ∧ (∀ i ys made, S i ys made → ys.length ≤ i) ∧ St 0 s₂.heap ∧ S 0 [] [] ∧
      (∀ b o, H.get? b = some o → s₂.heap.get? b = some o) ∧ H.objs.size ≤ s₂.heap.objs.size ∧
      (∀ (C D : Addr) (i : Nat) (c : Addr) (cn : Nat) (tt : Tok) (b : Bool) (m₁ : Str → Option Value) (ys : List Value) (k : Nat) (made : List (Addr × Obj)) (oI : Obj) (h : Heap) (tk : Nat) (E' : Value → Shared → Prop), i < n → P i (.ref c) → H.get? c = some (pairO cn tt b) → S i ys made → Fr H C h (fun y => if y = x₂ then some (.bool b) else if y = x then some (.int (cn : Nat) tt) else m₁ y) → News H C h ((D, W.listOf ys.toArray k) :: (I, oI) :: made) → (∀ p ∈ made, p.1 ≠ D ∧ p.1 ≠ I) → D ≠ I →
        wpAny (model prog w) A (eval elt (compEnvC scope cl C env)) (fun y s₄ => CE H C D I oI ys k (S (i + 1)) { s₂ with heap := h, toks := tk } (ys ++ [y]) s₄) E' { s₂ with heap := h, toks := tk }) ∧
      (∀ D ys k made h tk, S n ys made → (∀ b o, H.get? b = some o → h.get? b = some o) → (∀ p ∈ (D, W.listOf ys.toArray k) :: made, h.get? p.1 = some p.2 ∧ H.get? p.1 = none) → Q (.ref D) { s₂ with heap := h, toks := tk })) E s₁) E s)
    (hs : ∀ x, foldedSetIterable iter env x = pure x := by intro _; rfl) :
    wpAny (model prog w) A (eval (.ListComp elt [⟨.Tuple [.Name x px, .Name x₂ px₂] tk tp, iter, [], 0⟩] scope pos) env) Q E s := by
  rw [eval_ListComp]
  refine wpAny_comprehension_free (use := none) rfl hs hclos hkind hnames (wpAny_mono h (fun xv s₁ h₁ => wpAny_mono h₁ (fun it s₂ h₂ => ?_) fun _ _ e => e) fun _ _ e => e)
  obtain ⟨I, fp, n, P, St, H, S, rfl, Wk, hLI, hPP, hal, hfp, hIH, hlen, hys, hst, h0, hKp, hsz, turn, done⟩ := h₂
  obtain ⟨oI, hoI⟩ := hal _ _ hst
  refine wpAny_newObj_type (wpAny_newFunctionEnv hcell (by intro y hy; simp at hy) (fun h₁ hns₁ hsb₁ => ?_) hkind)
  dsimp only at hns₁ hsb₁ ⊢
  generalize hH2 : s₂.heap.push { cls := .type "list", dict := none, data := .seq ([] : List Value).toArray } = H2 at hns₁ hsb₁ ⊢
  have hC : H2.objs.size = s₂.heap.objs.size + 1 := by rw [← hH2, Heap.size_push]
  have hIlt := Heap.lt_size hoI
  have old : ∀ b o, s₂.heap.get? b = some o → h₁.get? b = some o := fun b o e => by
    have hb := Heap.lt_size e
    exact hsb₁.extBut b o (by rw [hC]; exact Nat.ne_of_lt (Nat.lt_succ_of_lt hb)) (Heap.get?_push_of_some _ (by rw [← hH2]; exact Heap.get?_push_of_some _ e))
  have fresh : ∀ a, s₂.heap.objs.size ≤ a → H.get? a = none := fun a ha => by
    cases e : H.get? a with
    | none => rfl
    | some o' => have := Heap.lt_size e; exact absurd (Nat.lt_of_lt_of_le this (Nat.le_trans hsz ha)) (Nat.lt_irrefl _)
  have hDC : s₂.heap.objs.size ≠ H2.objs.size := by rw [hC]; exact Nat.ne_of_lt (Nat.lt_succ_self _)
  have hD₁ : h₁.get? s₂.heap.objs.size = some (W.listOf #[] 0) := hsb₁.extBut _ _ hDC (Heap.get?_push_of_some _ (by rw [← hH2]; exact Heap.get?_push_size _ rfl))
  have hIC : I ≠ H2.objs.size := by rw [hC]; exact Nat.ne_of_lt (Nat.lt_succ_of_lt hIlt)
  have hDI : s₂.heap.objs.size ≠ I := Nat.ne_of_gt hIlt
  have hst₁ : St 0 h₁ := Wk.frame _ _ _ hst fun b _ o e => old b o e
  have F₁ : Fr H H2.objs.size h₁ (fun y => List.lookup y ([] : List (Str × Value)).reverse) := ⟨hns₁, fun b o e => old b o (hKp b o e), by rw [hC]; exact Nat.le_succ_of_le hsz⟩
  have N₁ : News H H2.objs.size h₁ [(s₂.heap.objs.size, W.listOf #[] 0)] := fun p hp => by
    rw [List.mem_singleton.mp hp]
    exact ⟨hD₁, hDC, fresh _ (Nat.le_refl _)⟩
  have loop : ∀ s₃ : Shared, s₃ = { s₂ with heap := h₁, toks := s₂.toks + ([] : List (Str × Value)).length } →
      codeAny (model prog w) A (.compLoop (.ListComp elt [⟨.Tuple [.Name x px, .Name x₂ px₂] tk tp, iter, [], 0⟩] scope pos) 0 (.ref I) (.ref s₂.heap.objs.size) (compEnvC scope cl H2.objs.size env))
        (compPost (model prog w) A E none Q (.ref s₂.heap.objs.size) H2.objs.size) s₃ := by
    rintro s₃ rfl
    refine comp_loopP (cenv := compEnvC scope cl H2.objs.size env) S Wk hh hLI hPP (lookup_relabel_local hx) (lookup_relabel_local hx₂) (by simp [compEnvC, relabel, hkind]) hal hfp hIC hDI hIH hlen hys F₁ N₁ hst₁ h0 ?_ ?_
    · intro i c cn tt b m₁ ys k made oI h tk E' hi hP hc hS F N hm
      exact turn H2.objs.size s₂.heap.objs.size i c cn tt b m₁ ys k made oI h tk E' hi hP hc hS F N hm hDI
    · intro m₁ ys k made h tk hS F N
      refine ⟨m₁, F.ns, fun h'' hs'' => done _ ys k made h'' tk hS (fun b o e => hs''.extBut b o ?_ (F.keep b o e)) fun p hp => ?_⟩
      · rintro rfl
        have := fresh H2.objs.size (by rw [hC]; exact Nat.le_succ _)
        rw [this] at e; cases e
      · have z := N p hp
        exact ⟨(hs''.2 _ z.2.1).trans z.1, z.2.2⟩
  exact codeAny_compStart_list (loop _ rfl) (Wk.self 0 _ _ _ hst₁ (loop _ rfl))
theorem comp_walkA {elt iter : PySem.Expr} {x : Str} {px : Pos} {ifs : List PySem.Expr} {scope : Scope} {cl : List (Str × Addr)} {y : Str} {py pos spos : Pos} {Q : Flow → Shared → Prop}
    (hsw : swapsWith (.ListComp elt [⟨.Name x px, iter, ifs, 0⟩] scope pos) (some (.Name y py)) spos.line env = pure true) (hy : env.kindOf y = some .local) (hp : (env.scope.kind == .class || (env.scope.kind == .module && env.locals != env.globals)) = false)
    (hclos : closureFor scope env = pure cl) (hcell : ∀ y ∈ scope.names, y.2 ≠ .cell) (hkind : scope.kind = .function)
    (hnames : ∀ y ∈ scope.names, y.2 = .local → scope.names.lookup y.1 = some .local) (hx : scope.names.lookup x = some .local)
    (h : wpAny (model prog w) A (eval iter env) (fun xv s₁ => wpAny (model prog w) A (pyIter xv) (fun it s₂ => ∃ (I : Addr) (fp : List Addr) (n : Nat) (P : Nat → Value → Prop) (St : Nat → Heap → Prop) (H : Heap) (S : Nat → List Value → List (Addr × Obj) → Prop) (hb : Heap) (mL : Str → Option Value) (newsL : List (Addr × Obj)),
      Fr hb env.locals H mL ∧ News hb env.locals H newsL ∧ it = .ref I ∧ Walks prog w A I fp [I] n P St ∧ (∀ i h, St i h → ∃ o, h.get? I = some o) ∧ (∀ b ∈ fp, b = I ∨ ∃ o, H.get? b = some o) ∧ H.get? I = none ∧ n ≤ 10000 ∧ (∀ i ys made, S i ys made → ys.length ≤ i) ∧ St 0 s₂.heap ∧ S 0 [] [] ∧
      (∀ b o, H.get? b = some o → s₂.heap.get? b = some o) ∧ H.objs.size ≤ s₂.heap.objs.size ∧
      (∀ (C D : Addr) (i : Nat) (v : Value) (m₁ : Str → Option Value) (ys : List Value) (k : Nat) (made : List (Addr × Obj)) (oI : Obj) (h : Heap) (tk : Nat) (E' : Value → Shared → Prop), i < n → P i v → S i ys made → Fr H C h (fun y => if y = x then some v else m₁ y) → News H C h ((D, W.listOf ys.toArray k) :: (I, oI) :: made) → (∀ p ∈ made, p.1 ≠ D ∧ p.1 ≠ I) → D ≠ I →
        wpAny (model prog w) A (forIn ifs true fun c r => if r = true then do let ok ← isTrue c (compEnvC scope cl C env) (eval c (compEnvC scope cl C env)); pure (ForInStep.yield ok) else pure (ForInStep.yield r)) (fun ok s₃ =>
          if ok = true then wpAny (model prog w) A (eval elt (compEnvC scope cl C env)) (fun y s₄ => CE H C D I oI ys k (S (i + 1)) { s₂ with heap := h, toks := tk } (ys ++ [y]) s₄) E' s₃
          else CE H C D I oI ys k (S (i + 1)) { s₂ with heap := h, toks := tk } ys s₃) E' { s₂ with heap := h, toks := tk }) ∧
      (∀ D ys k made h tk, S n ys made → Fr hb env.locals h (fun z => if z = y then some (.ref D) else mL z) → News hb env.locals h (newsL ++ (D, W.listOf ys.toArray k) :: made) → Q .next { s₂ with heap := h, toks := tk })) E s₁) E s)
    (hs : ∀ x, foldedSetIterable iter env x = pure x := by intro _; rfl) :
    wpAny (model prog w) A (exec (.Assign [.Name y py] (.ListComp elt [⟨.Name x px, iter, ifs, 0⟩] scope pos) spos) env) Q E s := by
  rw [exec_Assign_Name_used _ _ _ _ hsw]
  refine wpAny_bind (wpAny_standAt (wpAny_bind ?_))
  show wpAny _ A (do let _ ← comprehension (.ListComp elt [⟨.Name x px, iter, ifs, 0⟩] scope pos) scope env _ (newList []) false (eval iter env) (some (assign (.Name y py) env))) _ _ s
  refine wpAny_bind (wpAny_mono (wpAny_comprehension_free (use := some (assign (.Name y py) env)) (Q := fun _ s' => Q .next s') rfl hs hclos hkind hnames
    (wpAny_mono h (fun xv s₁ h₁ => wpAny_mono h₁ (fun it s₂ h₂ => ?_) fun _ _ e => e) fun _ _ e => e)) (fun _ s' hq => wpAny_pure (wpAny_pure hq)) fun _ _ e => e)
  obtain ⟨I, fp, n, P, St, H, S, hb, mL, newsL, FL, NL, rfl, Wk, hal, hfp, hIH, hlen, hys, hst, h0, hKp, hsz, turn, done⟩ := h₂
  obtain ⟨oI, hoI⟩ := hal _ _ hst
  refine wpAny_newObj_type (wpAny_newFunctionEnv hcell (by intro y hy; simp at hy) (fun h₁ hns₁ hsb₁ => ?_) hkind)
  dsimp only at hns₁ hsb₁ ⊢
  generalize hH2 : s₂.heap.push { cls := .type "list", dict := none, data := .seq ([] : List Value).toArray } = H2 at hns₁ hsb₁ ⊢
  have hC : H2.objs.size = s₂.heap.objs.size + 1 := by rw [← hH2, Heap.size_push]
  have hIlt := Heap.lt_size hoI
  have old : ∀ b o, s₂.heap.get? b = some o → h₁.get? b = some o := fun b o e => by
    have hb := Heap.lt_size e
    exact hsb₁.extBut b o (by rw [hC]; exact Nat.ne_of_lt (Nat.lt_succ_of_lt hb)) (Heap.get?_push_of_some _ (by rw [← hH2]; exact Heap.get?_push_of_some _ e))
  have fresh : ∀ a, s₂.heap.objs.size ≤ a → H.get? a = none := fun a ha => by
    cases e : H.get? a with
    | none => rfl
    | some o' => have := Heap.lt_size e; exact absurd (Nat.lt_of_lt_of_le this (Nat.le_trans hsz ha)) (Nat.lt_irrefl _)
  have hDC : s₂.heap.objs.size ≠ H2.objs.size := by rw [hC]; exact Nat.ne_of_lt (Nat.lt_succ_self _)
  have hD₁ : h₁.get? s₂.heap.objs.size = some (W.listOf #[] 0) := hsb₁.extBut _ _ hDC (Heap.get?_push_of_some _ (by rw [← hH2]; exact Heap.get?_push_size _ rfl))
  have hIC : I ≠ H2.objs.size := by rw [hC]; exact Nat.ne_of_lt (Nat.lt_succ_of_lt hIlt)
  have hDI : s₂.heap.objs.size ≠ I := Nat.ne_of_gt hIlt
  have hst₁ : St 0 h₁ := Wk.frame _ _ _ hst fun b _ o e => old b o e
  have F₁ : Fr H H2.objs.size h₁ (fun y => List.lookup y ([] : List (Str × Value)).reverse) := ⟨hns₁, fun b o e => old b o (hKp b o e), by rw [hC]; exact Nat.le_succ_of_le hsz⟩
  have N₁ : News H H2.objs.size h₁ [(s₂.heap.objs.size, W.listOf #[] 0)] := fun p hp => by
    rw [List.mem_singleton.mp hp]
    exact ⟨hD₁, hDC, fresh _ (Nat.le_refl _)⟩
  have loop : ∀ s₃ : Shared, s₃ = { s₂ with heap := h₁, toks := s₂.toks + ([] : List (Str × Value)).length } →
      codeAny (model prog w) A (.compLoop (.ListComp elt [⟨.Name x px, iter, ifs, 0⟩] scope pos) 0 (.ref I) (.ref s₂.heap.objs.size) (compEnvC scope cl H2.objs.size env))
        (compPost (model prog w) A E (some (assign (.Name y py) env)) (fun _ s' => Q .next s') (.ref s₂.heap.objs.size) H2.objs.size) s₃ := by
    rintro s₃ rfl
    refine comp_loop (cenv := compEnvC scope cl H2.objs.size env) S Wk (lookup_relabel_local hx) (by simp [compEnvC, relabel, hkind]) hal hfp hIC hDI hIH hlen hys F₁ N₁ hst₁ h0 ?_ ?_
    · intro i v m₁ ys k made oI h tk E' hi hP hS F N hm
      exact turn H2.objs.size s₂.heap.objs.size i v m₁ ys k made oI h tk E' hi hP hS F N hm hDI
    · intro m₁ ys k made h tk hS F N
      have hCH := fresh H2.objs.size (by rw [hC]; exact Nat.le_succ _)
      have hLC : env.locals ≠ H2.objs.size := by
        intro e
        obtain ⟨o, _, _, ho, _⟩ := FL.ns
        rw [e, hCH] at ho; cases ho
      have FL1 : Fr hb env.locals h mL := FL.grownK F.keep
      have NL1 := news_more FL NL F.keep (new := (s₂.heap.objs.size, W.listOf ys.toArray k) :: made) fun p hp => ⟨(N p hp).1, (N p hp).2.2⟩
      have hbC : hb.get? H2.objs.size = none := by
        cases q : hb.get? H2.objs.size with
        | none => rfl
        | some o => have := FL.keep _ _ q; rw [hCH] at this; cases this
      show wpAny _ A (assign (.Name y py) env (.ref s₂.heap.objs.size)) _ _ _
      refine wpAny_assign_Name (wpAny_storeName_local hy FL1.ns (fun h₂ hn₂ hs₂ => ?_) hp)
      refine ⟨m₁, F.ns.sameBut hs₂ (Ne.symm hLC), fun h₃ hs₃ => ?_⟩
      refine done _ ys k made h₃ _ hS ((FL1.set hn₂ hs₂).change hs₃ (Ne.symm hLC) hbC) fun p hp => ?_
      have z := NL1.set hs₂ p hp
      refine ⟨(hs₃.2 _ ?_).trans z.1, z.2⟩
      rcases List.mem_append.mp hp with hp | hp
      · intro e
        have := (NL p hp).1
        rw [e, hCH] at this; cases this
      · exact (N p hp).2.1
  exact codeAny_compStart_list (loop _ rfl) (Wk.self 0 _ _ _ hst₁ (loop _ rfl))
theorem comp_walkPA {elt iter : PySem.Expr} {x x₂ : Str} {px px₂ tp : Pos} {tk} {scope : Scope} {cl : List (Str × Addr)} {y : Str} {py pos spos : Pos} {Q : Flow → Shared → Prop}
    (hsw : swapsWith (.ListComp elt [⟨.Tuple [.Name x px, .Name x₂ px₂] tk tp, iter, [], 0⟩] scope pos) (some (.Name y py)) spos.line env = pure true) (hy : env.kindOf y = some .local) (hp : (env.scope.kind == .class || (env.scope.kind == .module && env.locals != env.globals)) = false)
    (hclos : closureFor scope env = pure cl) (hcell : ∀ y ∈ scope.names, y.2 ≠ .cell) (hkind : scope.kind = .function)
    (hnames : ∀ y ∈ scope.names, y.2 = .local → scope.names.lookup y.1 = some .local) (hh : A.handled = none) (hx : scope.names.lookup x = some .local) (hx₂ : scope.names.lookup x₂ = some .local)
    (h : wpAny (model prog w) A (eval iter env) (fun xv s₁ => wpAny (model prog w) A (pyIter xv) (fun it s₂ => ∃ (I : Addr) (fp : List Addr) (n : Nat) (P : Nat → Value → Prop) (St : Nat → Heap → Prop) (H : Heap) (S : Nat → List Value → List (Addr × Obj) → Prop) (hb : Heap) (mL : Str → Option Value) (newsL : List (Addr × Obj)),
      Fr hb env.locals H mL ∧ News hb env.locals H newsL ∧ it = .ref I ∧ Walks prog w A I fp [I] n P St ∧ (∀ i h, St i h → ∃ l j, h.IsListIter I l j) ∧ (∀ i v, P i v → ∃ c cn tt b, v = .ref c ∧ H.get? c = some (pairO cn tt b)) ∧ (∀ i h, St i h → ∃ o, h.get? I = some o) ∧ (∀ b ∈ fp, b = I ∨ ∃ o, H.get? b = some o) ∧ H.get? I = none ∧ n ≤ 10000 ∧ (∀ i ys made, S i ys made → ys.length ≤ i) ∧ St 0 s₂.heap ∧ S 0 [] [] ∧
      (∀ b o, H.get? b = some o → s₂.heap.get? b = some o) ∧ H.objs.size ≤ s₂.heap.objs.size ∧
      (∀ (C D : Addr) (i : Nat) (c : Addr) (cn : Nat) (tt : Tok) (b : Bool) (m₁ : Str → Option Value) (ys : List Value) (k : Nat) (made : List (Addr × Obj)) (oI : Obj) (h : Heap) (tk : Nat) (E' : Value → Shared → Prop), i < n → P i (.ref c) → H.get? c = some (pairO cn tt b) → S i ys made → Fr H C h (fun y => if y = x₂ then some (.bool b) else if y = x then some (.int (cn : Nat) tt) else m₁ y) → News H C h ((D, W.listOf ys.toArray k) :: (I, oI) :: made) → (∀ p ∈ made, p.1 ≠ D ∧ p.1 ≠ I) → D ≠ I →
        wpAny (model prog w) A (eval elt (compEnvC scope cl C env)) (fun y s₄ => CE H C D I oI ys k (S (i + 1)) { s₂ with heap := h, toks := tk } (ys ++ [y]) s₄) E' { s₂ with heap := h, toks := tk }) ∧
      (∀ D ys k made h tk, S n ys made → Fr hb env.locals h (fun z => if z = y then some (.ref D) else mL z) → News hb env.locals h (newsL ++ (D, W.listOf ys.toArray k) :: made) → Q .next { s₂ with heap := h, toks := tk })) E s₁) E s)
    (hs : ∀ x, foldedSetIterable iter env x = pure x := by intro _; rfl) :
    wpAny (model prog w) A (exec (.Assign [.Name y py] (.ListComp elt [⟨.Tuple [.Name x px, .Name x₂ px₂] tk tp, iter, [], 0⟩] scope pos) spos) env) Q E s := by
  rw [exec_Assign_Name_used _ _ _ _ hsw]
  refine wpAny_bind (wpAny_standAt (wpAny_bind ?_))
  show wpAny _ A (do let _ ← comprehension (.ListComp elt [⟨.Tuple [.Name x px, .Name x₂ px₂] tk tp, iter, [], 0⟩] scope pos) scope env _ (newList []) false (eval iter env) (some (assign (.Name y py) env))) _ _ s
  refine wpAny_bind (wpAny_mono (wpAny_comprehension_free (use := some (assign (.Name y py) env)) (Q := fun _ s' => Q .next s') rfl hs hclos hkind hnames
    (wpAny_mono h (fun xv s₁ h₁ => wpAny_mono h₁ (fun it s₂ h₂ => ?_) fun _ _ e => e) fun _ _ e => e)) (fun _ s' hq => wpAny_pure (wpAny_pure hq)) fun _ _ e => e)
  obtain ⟨I, fp, n, P, St, H, S, hb, mL, newsL, FL, NL, rfl, Wk, hLI, hPP, hal, hfp, hIH, hlen, hys, hst, h0, hKp, hsz, turn, done⟩ := h₂
  obtain ⟨oI, hoI⟩ := hal _ _ hst
  refine wpAny_newObj_type (wpAny_newFunctionEnv hcell (by intro y hy; simp at hy) (fun h₁ hns₁ hsb₁ => ?_) hkind)
  dsimp only at hns₁ hsb₁ ⊢
  generalize hH2 : s₂.heap.push { cls := .type "list", dict := none, data := .seq ([] : List Value).toArray } = H2 at hns₁ hsb₁ ⊢
  have hC : H2.objs.size = s₂.heap.objs.size + 1 := by rw [← hH2, Heap.size_push]
  have hIlt := Heap.lt_size hoI
  have old : ∀ b o, s₂.heap.get? b = some o → h₁.get? b = some o := fun b o e => by
    have hb := Heap.lt_size e
    exact hsb₁.extBut b o (by rw [hC]; exact Nat.ne_of_lt (Nat.lt_succ_of_lt hb)) (Heap.get?_push_of_some _ (by rw [← hH2]; exact Heap.get?_push_of_some _ e))
  have fresh : ∀ a, s₂.heap.objs.size ≤ a → H.get? a = none := fun a ha => by
    cases e : H.get? a with
    | none => rfl
    | some o' => have := Heap.lt_size e; exact absurd (Nat.lt_of_lt_of_le this (Nat.le_trans hsz ha)) (Nat.lt_irrefl _)
  have hDC : s₂.heap.objs.size ≠ H2.objs.size := by rw [hC]; exact Nat.ne_of_lt (Nat.lt_succ_self _)
  have hD₁ : h₁.get? s₂.heap.objs.size = some (W.listOf #[] 0) := hsb₁.extBut _ _ hDC (Heap.get?_push_of_some _ (by rw [← hH2]; exact Heap.get?_push_size _ rfl))
  have hIC : I ≠ H2.objs.size := by rw [hC]; exact Nat.ne_of_lt (Nat.lt_succ_of_lt hIlt)
  have hDI : s₂.heap.objs.size ≠ I := Nat.ne_of_gt hIlt
  have hst₁ : St 0 h₁ := Wk.frame _ _ _ hst fun b _ o e => old b o e
  have F₁ : Fr H H2.objs.size h₁ (fun y => List.lookup y ([] : List (Str × Value)).reverse) := ⟨hns₁, fun b o e => old b o (hKp b o e), by rw [hC]; exact Nat.le_succ_of_le hsz⟩
  have N₁ : News H H2.objs.size h₁ [(s₂.heap.objs.size, W.listOf #[] 0)] := fun p hp => by
    rw [List.mem_singleton.mp hp]
    exact ⟨hD₁, hDC, fresh _ (Nat.le_refl _)⟩
  have loop : ∀ s₃ : Shared, s₃ = { s₂ with heap := h₁, toks := s₂.toks + ([] : List (Str × Value)).length } →
      codeAny (model prog w) A (.compLoop (.ListComp elt [⟨.Tuple [.Name x px, .Name x₂ px₂] tk tp, iter, [], 0⟩] scope pos) 0 (.ref I) (.ref s₂.heap.objs.size) (compEnvC scope cl H2.objs.size env))
        (compPost (model prog w) A E (some (assign (.Name y py) env)) (fun _ s' => Q .next s') (.ref s₂.heap.objs.size) H2.objs.size) s₃ := by
    rintro s₃ rfl
    refine comp_loopP (cenv := compEnvC scope cl H2.objs.size env) S Wk hh hLI hPP (lookup_relabel_local hx) (lookup_relabel_local hx₂) (by simp [compEnvC, relabel, hkind]) hal hfp hIC hDI hIH hlen hys F₁ N₁ hst₁ h0 ?_ ?_
    · intro i c cn tt b m₁ ys k made oI h tk E' hi hP hc hS F N hm
      exact turn H2.objs.size s₂.heap.objs.size i c cn tt b m₁ ys k made oI h tk E' hi hP hc hS F N hm hDI
    · intro m₁ ys k made h tk hS F N
      have hCH := fresh H2.objs.size (by rw [hC]; exact Nat.le_succ _)
      have hLC : env.locals ≠ H2.objs.size := by
        intro e
        obtain ⟨o, _, _, ho, _⟩ := FL.ns
        rw [e, hCH] at ho; cases ho
      have FL1 : Fr hb env.locals h mL := FL.grownK F.keep
      have NL1 := news_more FL NL F.keep (new := (s₂.heap.objs.size, W.listOf ys.toArray k) :: made) fun p hp => ⟨(N p hp).1, (N p hp).2.2⟩
      have hbC : hb.get? H2.objs.size = none := by
        cases q : hb.get? H2.objs.size with
        | none => rfl
        | some o => have := FL.keep _ _ q; rw [hCH] at this; cases this
      show wpAny _ A (assign (.Name y py) env (.ref s₂.heap.objs.size)) _ _ _
      refine wpAny_assign_Name (wpAny_storeName_local hy FL1.ns (fun h₂ hn₂ hs₂ => ?_) hp)
      refine ⟨m₁, F.ns.sameBut hs₂ (Ne.symm hLC), fun h₃ hs₃ => ?_⟩
      refine done _ ys k made h₃ _ hS ((FL1.set hn₂ hs₂).change hs₃ (Ne.symm hLC) hbC) fun p hp => ?_
      have z := NL1.set hs₂ p hp
      refine ⟨(hs₃.2 _ ?_).trans z.1, z.2⟩
      rcases List.mem_append.mp hp with hp | hp
      · intro e
        have := (NL p hp).1
        rw [e, hCH] at this; cases this
      · exact (N p hp).2.1
  exact codeAny_compStart_list (loop _ rfl) (Wk.self 0 _ _ _ hst₁ (loop _ rfl))
end
end Mine
end

section
open PySem PySem.W PyProof.Rows PySem.Calls
set_option maxRecDepth 100000
set_option maxHeartbeats 0
namespace Mine
section
variable {prog : Program} {w : World} {A : Around} {E : Value → Shared → Prop} {s : Shared}
theorem ilK {h₀ h : Heap} {L : Addr} {m : Str → Option Value} {a : Addr} {items : Array Value} (F : Fr h₀ L h m) (hl : h₀.IsList a items) : h.IsList a items := hl.at fun _ e => F.keep _ _ e
theorem goK {h₀ h : Heap} {L : Addr} {m : Str → Option Value} {a : Addr} {o : Obj} (F : Fr h₀ L h m) (hl : h₀.get? a = some o) : h.get? a = some o := F.keep _ _ hl
theorem ilM {h : Heap} {a k : Nat} {vs : List Value} (hl : h.get? a = some (W.listOf vs.toArray k)) : h.IsList a vs.toArray := ⟨_, hl, rfl, _, rfl⟩
theorem itemL {value slice : PySem.Expr} {l : Addr} {items : Array Value} {k : Int} {u : Tok} {x : Value} {Q : Value → Shared → Prop} (hl : s.heap.IsList l items) (h0 : 0 ≤ k) (hfit : k < 2 ^ 63) (hx : items[k.toNat]? = some x) (h : Q x s)
    (hs : subscripted slice false (.ref l) (.int k u) = operate [.ref l, .int k u] (getItem (.ref l) (.int k u)) := by with_unfolding_all rfl) :
    wpAny (model prog w) A (subscriptTail value slice (.ref l) (.int k u)) Q E s :=
  tail_any hl.typeIs slot_list_getitem.lookup (wpAny_getItem_list hl h0 hfit hx h) hs
theorem ne_empty {l b : Addr} {items : Array Value} {Q : Value → Shared → Prop} (hl : s.heap.IsList l items) (hb : s.heap.IsList b #[]) (hu : A.units < cLine) (h : Q (.bool (!items.isEmpty)) s) :
    wpAny (model prog w) A (compareOp .NotEq (.ref l) (.ref b)) Q E s := by
  show wpAny _ _ (richCompare .NotEq _ _) _ _ _
  by_cases h0 : items.size = 0
  · have e : items = #[] := Array.size_eq_zero_iff.mp h0
    subst e
    exact PySem.SeqAt.RcNeAt.lists (e := fun _ => true) hl hb rfl hu (fun j h1 _ => absurd h1 (Nat.not_lt_zero _)) prog w E Q h
  · have e : (!items.isEmpty) = true := by simpa using fun q : items = #[] => h0 (by rw [q]; rfl)
    rw [e] at h
    exact PySem.SeqAt.RcNeAt.lists_lengths hl hb (by simpa using h0) hu prog w E Q h
theorem ne_snoc {l b : Addr} {us : List Value} {v : Value} {Q : Value → Shared → Prop} (hl : s.heap.IsList l (us ++ [v]).toArray) (hb : s.heap.IsList b #[]) (hu : A.units < cLine) (h : Q (.bool true) s) :
    wpAny (model prog w) A (compareOp .NotEq (.ref l) (.ref b)) Q E s := by
  refine ne_empty hl hb hu ?_
  have e : (!(us ++ [v]).toArray.isEmpty) = true := by simp
  rw [e]; exact h
/-- ints told by naturals -/
noncomputable def IntsN (vs : List Value) (ns : List Nat) : Prop := vs.length = ns.length ∧ ∀ (i : Nat) (n : Nat), ns[i]? = some n → ∃ t, vs[i]? = some (Value.int (n : Nat) t)
theorem all_eq_of {f : Nat → Bool} {n : Nat} : (List.range n).all f = true ↔ ∀ j, j < n → f j = true := by
  rw [List.all_eq_true]
  exact ⟨fun h j hj => h j (List.mem_range.mpr hj), fun h j hj => h j (List.mem_range.mp hj)⟩
theorem ints_all {ns ms : List Nat} (hl : ns.length = ms.length) : ((List.range ns.length).all fun j => (ns.getD j 0 == ms.getD j 0)) = decide (ns = ms) := by
  rw [Bool.eq_iff_iff, all_eq_of, decide_eq_true_iff]
  constructor
  · intro h
    apply List.ext_getElem hl
    intro i h1 h2
    have := h i h1
    simpa [List.getD_eq_getElem?_getD, h1, h2] using this
  · rintro rfl j hj; exact beq_self_eq_true _
theorem ints_at {vs us : List Value} {ns ms : List Nat} (hv : IntsN vs ns) (hm : IntsN us ms) (A : Around) : ∀ j (h1 : j < vs.toArray.size) (h2 : j < us.toArray.size), PySem.SeqAt.EqAt A s vs.toArray[j] us.toArray[j] (ns.getD j 0 == ms.getD j 0) := by
  intro j h1 h2
  simp only [List.size_toArray] at h1 h2
  have a1 : j < ns.length := hv.1 ▸ h1
  have a2 : j < ms.length := hm.1 ▸ h2
  obtain ⟨t, ht⟩ := hv.2 j ns[j] (by simp [a1])
  obtain ⟨u, hu⟩ := hm.2 j ms[j] (by simp [a2])
  have e1 : vs.toArray[j] = Value.int (ns[j] : Nat) t := by rw [List.getElem?_eq_getElem h1] at ht; simpa using ht
  have e2 : us.toArray[j] = Value.int (ms[j] : Nat) u := by rw [List.getElem?_eq_getElem h2] at hu; simpa using hu
  rw [e1, e2]
  have e3 : (ns.getD j 0 == ms.getD j 0) = ((ns[j] : Int) == (ms[j] : Int)) := by
    rw [Bool.eq_iff_iff]
    simp [List.getD_eq_getElem?_getD, a1, a2]
    omega
  rw [e3]
  exact PySem.SeqAt.EqAt.int_int _ _ _ _
theorem eq_ints {l b : Addr} {vs us : List Value} {ns ms : List Nat} {Q : Value → Shared → Prop} (hl : s.heap.IsList l vs.toArray) (hb : s.heap.IsList b us.toArray) (hv : IntsN vs ns) (hm : IntsN us ms) (hu : A.units < cLine) (h : Q (.bool (decide (ns = ms))) s) :
    wpAny (model prog w) A (compareOp .Eq (.ref l) (.ref b)) Q E s := by
  show wpAny _ _ (richCompare .Eq _ _) _ _ _
  by_cases h0 : vs.length = us.length
  · refine PySem.SeqAt.RcAt.lists (e := fun j => (ns.getD j 0 == ms.getD j 0)) hl hb (by simpa using h0) hu (ints_at hv hm _) prog w E Q ?_
    have e : vs.toArray.size = ns.length := by simp [hv.1]
    rw [e, ints_all (by rw [← hv.1, ← hm.1, h0])]
    exact h
  · have e : decide (ns = ms) = false := decide_eq_false fun q => h0 (by rw [hv.1, hm.1, q])
    rw [e] at h
    exact PySem.SeqAt.RcAt.lists_lengths hl hb (by simpa using h0) hu prog w E Q h
theorem ne_ints {l b : Addr} {vs us : List Value} {ns ms : List Nat} {Q : Value → Shared → Prop} (hl : s.heap.IsList l vs.toArray) (hb : s.heap.IsList b us.toArray) (hv : IntsN vs ns) (hm : IntsN us ms) (hu : A.units < cLine) (h : Q (.bool (!decide (ns = ms))) s) :
    wpAny (model prog w) A (compareOp .NotEq (.ref l) (.ref b)) Q E s := by
  show wpAny _ _ (richCompare .NotEq _ _) _ _ _
  by_cases h0 : vs.length = us.length
  · refine PySem.SeqAt.RcNeAt.lists (e := fun j => (ns.getD j 0 == ms.getD j 0)) hl hb (by simpa using h0) hu (ints_at hv hm _) prog w E Q ?_
    have e : vs.toArray.size = ns.length := by simp [hv.1]
    rw [e, ints_all (by rw [← hv.1, ← hm.1, h0])]
    exact h
  · have e : decide (ns = ms) = false := decide_eq_false fun q => h0 (by rw [hv.1, hm.1, q])
    rw [e] at h
    exact PySem.SeqAt.RcNeAt.lists_lengths hl hb (by simpa using h0) hu prog w E Q h
theorem pairO_inj {n n' : Nat} {t t' : Tok} {b b' : Bool} (h : pairO n t b = pairO n' t' b') : n = n' ∧ b = b' := by
  have h1 := congrArg Obj.data h
  simp only [pairO] at h1
  injection h1 with h1 _
  have h2 := congrArg Array.toList h1
  injection h2 with h3 h4
  injection h3 with h3 _
  injection h4 with h4 _
  injection h4 with h4
  exact ⟨Int.ofNat.inj h3, h4⟩
theorem map_take_succ {α β : Type} (f : α → β) {l : List α} {i : Nat} {x : α} (h : l[i]? = some x) : (l.take (i + 1)).map f = (l.take i).map f ++ [f x] := by
  rw [List.take_add_one, h, List.map_append]; rfl
end
end Mine
end

section
open PySem PySem.W PyProof.Rows PySem.Calls
set_option maxRecDepth 100000
set_option maxHeartbeats 0
namespace Mine
/-- a goal that the walk leaves alone -/
noncomputable def Hold (P : Prop) : Prop := P
section
variable {prog : Program} {w : World} {A : Around} {E : Value → Shared → Prop} {s : Shared} {env : Env}
theorem objs_none (h : Heap) : h.get? h.objs.size = none := by
  cases q : h.get? h.objs.size with
  | none => rfl
  | some o => exact absurd (Heap.lt_size q) (Nat.lt_irrefl _)
/-- a comprehension over a list -/
theorem comp_list {elt iter : PySem.Expr} {x : Str} {px : Pos} {ifs : List PySem.Expr} {scope : Scope} {cl : List (Str × Addr)} {pos : Pos} {Q : Value → Shared → Prop}
    (hclos : closureFor scope env = pure cl) (hcell : ∀ y ∈ scope.names, y.2 ≠ .cell) (hkind : scope.kind = .function)
    (hnames : ∀ y ∈ scope.names, y.2 = .local → scope.names.lookup y.1 = some .local) (hx : scope.names.lookup x = some .local) (hh : A.handled = none)
    (h : wpAny (model prog w) A (eval iter env) (fun xv s₁ => Hold (∃ (ax : Addr) (items : Array Value) (S : Nat → List Value → List (Addr × Obj) → Prop), xv = .ref ax ∧ s₁.heap.IsList ax items ∧ items.size ≤ 10000 ∧ (∀ i ys made, S i ys made → ys.length ≤ i) ∧ S 0 [] [] ∧
      (∀ (I C D : Addr) (i : Nat) (v : Value) (m₁ : Str → Option Value) (ys : List Value) (k : Nat) (made : List (Addr × Obj)) (oI : Obj) (h : Heap) (tk : Nat) (E' : Value → Shared → Prop), items[i]? = some v → S i ys made → Fr s₁.heap C h (fun y => if y = x then some v else m₁ y) → News s₁.heap C h ((D, W.listOf ys.toArray k) :: (I, oI) :: made) → (∀ p ∈ made, p.1 ≠ D ∧ p.1 ≠ I) → D ≠ I →
        wpAny (model prog w) A (forIn ifs true fun c r => if r = true then do let ok ← isTrue c (compEnvC scope cl C env) (eval c (compEnvC scope cl C env)); pure (ForInStep.yield ok) else pure (ForInStep.yield r)) (fun ok s₃ =>
          if ok = true then wpAny (model prog w) A (eval elt (compEnvC scope cl C env)) (fun y s₄ => CE s₁.heap C D I oI ys k (S (i + 1)) { s₁ with heap := h, toks := tk } (ys ++ [y]) s₄) E' s₃
          else CE s₁.heap C D I oI ys k (S (i + 1)) { s₁ with heap := h, toks := tk } ys s₃) E' { s₁ with heap := h, toks := tk }) ∧
      (∀ D ys k made h tk, S items.size ys made → (∀ b o, s₁.heap.get? b = some o → h.get? b = some o) → (∀ p ∈ (D, W.listOf ys.toArray k) :: made, h.get? p.1 = some p.2 ∧ s₁.heap.get? p.1 = none) → Q (.ref D) { s₁ with heap := h, toks := tk }))) E s)
    (hs : ∀ x, foldedSetIterable iter env x = pure x := by intro _; rfl) :
    wpAny (model prog w) A (eval (.ListComp elt [⟨.Name x px, iter, ifs, 0⟩] scope pos) env) Q E s := by
  refine comp_walk hclos hcell hkind hnames hx (wpAny_mono h (fun xv s₁ h₁ => ?_) fun _ _ e => e) hs
  obtain ⟨ax, items, S, rfl, hl, hlen, hys, h0, turn, done⟩ := h₁
  obtain ⟨ol, hol, _⟩ := id hl
  have hne : ax ≠ s₁.heap.objs.size := Nat.ne_of_lt (Heap.lt_size hol)
  refine wpAny_pyIter_list hl ?_
  refine ⟨s₁.heap.objs.size, _, _, _, _, s₁.heap, S, rfl, Walks.list hh s₁.heap.objs.size ax hne items, ?_, ?_, objs_none _, hlen, hys, ⟨⟨_, Heap.get?_push_size _ rfl, rfl, rfl⟩, hl.at fun o e => Heap.get?_push_of_some _ e⟩, h0, fun b o e => Heap.get?_push_of_some _ e, ?_, ?_, ?_⟩
  · rintro i h ⟨⟨o, ho, _⟩, _⟩; exact ⟨o, ho⟩
  · intro b hb
    rcases List.mem_cons.mp hb with rfl | hb
    · exact .inl rfl
    · exact .inr ⟨ol, by rw [List.mem_singleton.mp hb]; exact hol⟩
  · show s₁.heap.objs.size ≤ (s₁.heap.push _).objs.size
    rw [Heap.size_push]; exact Nat.le_succ _
  · intro C D i v m₁ ys k made oI h tk E' hi hP hS F N hm hD
    exact turn _ C D i v m₁ ys k made oI h tk E' hP hS F N hm hD
  · intro D ys k made h tk hS hk hp
    exact done D ys k made h tk hS hk hp
/-- a comprehension over a list of pairs -/
theorem comp_listP {elt iter : PySem.Expr} {x x₂ : Str} {px px₂ tp : Pos} {tk} {scope : Scope} {cl : List (Str × Addr)} {pos : Pos} {Q : Value → Shared → Prop}
    (hclos : closureFor scope env = pure cl) (hcell : ∀ y ∈ scope.names, y.2 ≠ .cell) (hkind : scope.kind = .function)
    (hnames : ∀ y ∈ scope.names, y.2 = .local → scope.names.lookup y.1 = some .local) (hx : scope.names.lookup x = some .local) (hx₂ : scope.names.lookup x₂ = some .local) (hh : A.handled = none)
    (h : wpAny (model prog w) A (eval iter env) (fun xv s₁ => Hold (∃ (ax : Addr) (items : Array Value) (S : Nat → List Value → List (Addr × Obj) → Prop), xv = .ref ax ∧ s₁.heap.IsList ax items ∧ items.size ≤ 10000 ∧ (∀ (i : Nat) (v : Value), items[i]? = some v → ∃ c cn tt b, v = Value.ref c ∧ s₁.heap.get? c = some (pairO cn tt b)) ∧ (∀ i ys made, S i ys made → ys.length ≤ i) ∧ S 0 [] [] ∧
      (∀ (I C D : Addr) (i : Nat) (c : Addr) (cn : Nat) (tt : Tok) (b : Bool) (m₁ : Str → Option Value) (ys : List Value) (k : Nat) (made : List (Addr × Obj)) (oI : Obj) (h : Heap) (tk : Nat) (E' : Value → Shared → Prop), items[i]? = some (Value.ref c) → s₁.heap.get? c = some (pairO cn tt b) → S i ys made → Fr s₁.heap C h (fun y => if y = x₂ then some (.bool b) else if y = x then some (.int (cn : Nat) tt) else m₁ y) → News s₁.heap C h ((D, W.listOf ys.toArray k) :: (I, oI) :: made) → (∀ p ∈ made, p.1 ≠ D ∧ p.1 ≠ I) → D ≠ I →
        wpAny (model prog w) A (eval elt (compEnvC scope cl C env)) (fun y s₄ => CE s₁.heap C D I oI ys k (S (i + 1)) { s₁ with heap := h, toks := tk } (ys ++ [y]) s₄) E' { s₁ with heap := h, toks := tk }) ∧
      (∀ D ys k made h tk, S items.size ys made → (∀ b o, s₁.heap.get? b = some o → h.get? b = some o) → (∀ p ∈ (D, W.listOf ys.toArray k) :: made, h.get? p.1 = some p.2 ∧ s₁.heap.get? p.1 = none) → Q (.ref D) { s₁ with heap := h, toks := tk }))) E s)
    (hs : ∀ x, foldedSetIterable iter env x = pure x := by intro _; rfl) :
    wpAny (model prog w) A (eval (.ListComp elt [⟨.Tuple [.Name x px, .Name x₂ px₂] tk tp, iter, [], 0⟩] scope pos) env) Q E s := by
  refine comp_walkP hclos hcell hkind hnames hh hx hx₂ (wpAny_mono h (fun xv s₁ h₁ => ?_) fun _ _ e => e) hs
  obtain ⟨ax, items, S, rfl, hl, hlen, hpp, hys, h0, turn, done⟩ := h₁
  obtain ⟨ol, hol, _⟩ := id hl
  have hne : ax ≠ s₁.heap.objs.size := Nat.ne_of_lt (Heap.lt_size hol)
  refine wpAny_pyIter_list hl ?_
  refine ⟨s₁.heap.objs.size, _, _, _, _, s₁.heap, S, rfl, Walks.list hh s₁.heap.objs.size ax hne items, ?_, hpp, ?_, ?_, objs_none _, hlen, hys, ⟨⟨_, Heap.get?_push_size _ rfl, rfl, rfl⟩, hl.at fun o e => Heap.get?_push_of_some _ e⟩, h0, fun b o e => Heap.get?_push_of_some _ e, ?_, ?_, ?_⟩
  · rintro i h ⟨h1, _⟩; exact ⟨ax, i, h1⟩
  · rintro i h ⟨⟨o, ho, _⟩, _⟩; exact ⟨o, ho⟩
  · intro b hb
    rcases List.mem_cons.mp hb with rfl | hb
    · exact .inl rfl
    · exact .inr ⟨ol, by rw [List.mem_singleton.mp hb]; exact hol⟩
  · show s₁.heap.objs.size ≤ (s₁.heap.push _).objs.size
    rw [Heap.size_push]; exact Nat.le_succ _
  · intro C D i c cn tt b m₁ ys k made oI h tk E' hi hP hc hS F N hm hD
    exact turn _ C D i c cn tt b m₁ ys k made oI h tk E' hP hc hS F N hm hD
  · intro D ys k made h tk hS hk hp
    exact done D ys k made h tk hS hk hp
/-- a comprehension over a list of pairs, kept under a name of the frame -/
theorem comp_listPA {elt iter : PySem.Expr} {x x₂ : Str} {px px₂ tp : Pos} {tk} {scope : Scope} {cl : List (Str × Addr)} {y : Str} {py pos spos : Pos} {Q : Flow → Shared → Prop}
    (hsw : swapsWith (.ListComp elt [⟨.Tuple [.Name x px, .Name x₂ px₂] tk tp, iter, [], 0⟩] scope pos) (some (.Name y py)) spos.line env = pure true) (hy : env.kindOf y = some .local) (hp : (env.scope.kind == .class || (env.scope.kind == .module && env.locals != env.globals)) = false)
    (hclos : closureFor scope env = pure cl) (hcell : ∀ y ∈ scope.names, y.2 ≠ .cell) (hkind : scope.kind = .function)
    (hnames : ∀ y ∈ scope.names, y.2 = .local → scope.names.lookup y.1 = some .local) (hx : scope.names.lookup x = some .local) (hx₂ : scope.names.lookup x₂ = some .local) (hh : A.handled = none)
    (h : wpAny (model prog w) A (eval iter env) (fun xv s₁ => Hold (∃ (ax : Addr) (items : Array Value) (S : Nat → List Value → List (Addr × Obj) → Prop) (hb : Heap) (mL : Str → Option Value) (newsL : List (Addr × Obj)), Fr hb env.locals s₁.heap mL ∧ News hb env.locals s₁.heap newsL ∧ xv = .ref ax ∧ s₁.heap.IsList ax items ∧ items.size ≤ 10000 ∧ (∀ (i : Nat) (v : Value), items[i]? = some v → ∃ c cn tt b, v = Value.ref c ∧ s₁.heap.get? c = some (pairO cn tt b)) ∧ (∀ i ys made, S i ys made → ys.length ≤ i) ∧ S 0 [] [] ∧
      (∀ (I C D : Addr) (i : Nat) (c : Addr) (cn : Nat) (tt : Tok) (b : Bool) (m₁ : Str → Option Value) (ys : List Value) (k : Nat) (made : List (Addr × Obj)) (oI : Obj) (h : Heap) (tk : Nat) (E' : Value → Shared → Prop), items[i]? = some (Value.ref c) → s₁.heap.get? c = some (pairO cn tt b) → S i ys made → Fr s₁.heap C h (fun y => if y = x₂ then some (.bool b) else if y = x then some (.int (cn : Nat) tt) else m₁ y) → News s₁.heap C h ((D, W.listOf ys.toArray k) :: (I, oI) :: made) → (∀ p ∈ made, p.1 ≠ D ∧ p.1 ≠ I) → D ≠ I →
        wpAny (model prog w) A (eval elt (compEnvC scope cl C env)) (fun y s₄ => CE s₁.heap C D I oI ys k (S (i + 1)) { s₁ with heap := h, toks := tk } (ys ++ [y]) s₄) E' { s₁ with heap := h, toks := tk }) ∧
      (∀ D ys k made h tk, S items.size ys made → Fr hb env.locals h (fun z => if z = y then some (.ref D) else mL z) → News hb env.locals h (newsL ++ (D, W.listOf ys.toArray k) :: made) → Q .next { s₁ with heap := h, toks := tk }))) E s)
    (hs : ∀ x, foldedSetIterable iter env x = pure x := by intro _; rfl) :
    wpAny (model prog w) A (exec (.Assign [.Name y py] (.ListComp elt [⟨.Tuple [.Name x px, .Name x₂ px₂] tk tp, iter, [], 0⟩] scope pos) spos) env) Q E s := by
  refine comp_walkPA hsw hy hp hclos hcell hkind hnames hh hx hx₂ (wpAny_mono h (fun xv s₁ h₁ => ?_) fun _ _ e => e) hs
  obtain ⟨ax, items, S, hb, mL, newsL, FL, NL, rfl, hl, hlen, hpp, hys, h0, turn, done⟩ := h₁
  obtain ⟨ol, hol, _⟩ := id hl
  have hne : ax ≠ s₁.heap.objs.size := Nat.ne_of_lt (Heap.lt_size hol)
  refine wpAny_pyIter_list hl ?_
  refine ⟨s₁.heap.objs.size, _, _, _, _, s₁.heap, S, hb, mL, newsL, FL, NL, rfl, Walks.list hh s₁.heap.objs.size ax hne items, ?_, hpp, ?_, ?_, objs_none _, hlen, hys, ⟨⟨_, Heap.get?_push_size _ rfl, rfl, rfl⟩, hl.at fun o e => Heap.get?_push_of_some _ e⟩, h0, fun b o e => Heap.get?_push_of_some _ e, ?_, ?_, ?_⟩
  · rintro i h ⟨h1, _⟩; exact ⟨ax, i, h1⟩
  · rintro i h ⟨⟨o, ho, _⟩, _⟩; exact ⟨o, ho⟩
  · intro b hb
    rcases List.mem_cons.mp hb with rfl | hb
    · exact .inl rfl
    · exact .inr ⟨ol, by rw [List.mem_singleton.mp hb]; exact hol⟩
  · show s₁.heap.objs.size ≤ (s₁.heap.push _).objs.size
    rw [Heap.size_push]; exact Nat.le_succ _
  · intro C D i c cn tt b m₁ ys k made oI h tk E' hi hP hc hS F N hm hD
    exact turn _ C D i c cn tt b m₁ ys k made oI h tk E' hP hc hS F N hm hD
  · intro D ys k made h tk hS F N
    exact done D ys k made h tk hS F N
theorem CE.of {H h' : Heap} {C D I : Addr} {oI : Obj} {ys ys' : List Value} {k tk : Nat} {S : List Value → List (Addr × Obj) → Prop} {s₂ : Shared} {m' : Str → Option Value} {all made' : List (Addr × Obj)}
    (F : Fr H C h' m') (N : News H C h' all) (hD : (D, W.listOf ys.toArray k) ∈ all) (hI : (I, oI) ∈ all) (hm : ∀ p ∈ made', p ∈ all) (hn : ∀ p ∈ made', p.1 ≠ D ∧ p.1 ≠ I) (hS : S ys' made') : CE H C D I oI ys k S s₂ ys' { s₂ with heap := h', toks := tk } :=
  ⟨h', tk, m', all, made', rfl, F, N, hD, hI, hm, hn, hS⟩
end
end Mine
end

section
open PySem PySem.W PyProof.Rows PySem.Calls PyProof PySem.Builtin PySem.Builtin.Str
set_option maxRecDepth 100000
namespace Mine
/-- a text's codes -/
noncomputable abbrev cs (x : Str) : List Nat := x.cps.toList
theorem cs_mk (l : List Nat) : cs ⟨l.toArray⟩ = l := rfl
theorem mk_cs (x : Str) : (⟨(cs x).toArray⟩ : Str) = x := by cases x; rfl
theorem cs_len (x : Str) : (cs x).length = x.length := by simp [Str.length]
theorem cs_app (x y : Str) : cs (x ++ y) = cs x ++ cs y := by simp [cs, Str.cps_append]
theorem cs_inj {x y : Str} : cs x = cs y ↔ x = y := ⟨strExt, fun h => by rw [h]⟩
theorem cs_nil {x : Str} : cs x = [] ↔ x.length = 0 := by
  rw [← cs_len]; exact List.length_eq_zero_iff.symm
theorem str_eta {x : Str} {l : List Nat} (h : cs x = l) : x = ⟨l.toArray⟩ := by rw [← h, mk_cs]
theorem cuts_free {s : Nat} : ∀ {p : List Nat}, s ∉ p → cuts (· == s) p = [p] := by
  intro p h
  have := cuts_word (sl := (· == s)) (w := p) (l := []) (fun c hc => by
    cases q : (c == s) with
    | false => rfl
    | true => exact absurd (beq_iff_eq.mp q ▸ hc) h)
  simpa [cuts, addHds] using this
theorem cuts_glueS {s : Nat} : ∀ {ps : List (List Nat)}, ps ≠ [] → (∀ p ∈ ps, s ∉ p) → cuts (· == s) (glueS s ps) = ps
  | [], h, _ => absurd rfl h
  | [a], _, h => by
    have := cuts_free (h a (.head _))
    simpa [glueS] using this
  | a :: b :: r, _, h => by
    rw [glue_cons s a (by simp), cuts_mid (by simp), cuts_free (h a (.head _)), cuts_glueS (by simp) fun p hp => h p (.tail _ hp)]
    rfl
theorem glueL_glueS (s : Nat) (l : List (List Nat)) : glueL [s] l = glueS s l := by
  cases l with
  | nil => rfl
  | cons a r => rfl
theorem join_glueS {sep : Str} {s : Nat} (h : cs sep = [s]) (ts : List Str) : cs (Txt.join sep ts) = glueS s (ts.map cs) := by
  rw [← glueL_glueS]
  show (Txt.join sep ts).cps.toList = _
  rw [join_list_eq]
  show glueL (cs sep) _ = _
  rw [h]
theorem split_ne (x y : Str) : Txt.split x y ≠ [] := by
  unfold Txt.split
  split
  · simp
  · split
    · simp
    · rw [StrLaws.partsBetween_eq]
      obtain ⟨p, r, h⟩ := StrLaws.partsFrom_ne x y.length 0 (occurrences x y 0 x.length (x.length + 1))
      rw [h]; simp
theorem sjoin_eq (sep : Str) (ts : List Str) : Str.join sep ts = Txt.join sep ts := (StrLaws.glued_eq_join sep ts).symm
/-- split at a sign: the pieces between -/
theorem split_cuts {sep : Str} {s : Nat} (h : cs sep = [s]) (x : Str) : (Txt.split x sep).map cs = cuts (· == s) (cs x) := by
  obtain rfl : sep = ⟨#[s]⟩ := str_eta h
  have h1 := StrLaws.join_split x ⟨#[s]⟩
  rw [sjoin_eq] at h1
  have h2 : cs x = glueS s ((Txt.split x ⟨#[s]⟩).map cs) := by rw [← join_glueS (sep := ⟨#[s]⟩) rfl, h1]
  rw [h2, cuts_glueS]
  · simpa using split_ne x _
  · intro p hp
    obtain ⟨q, hq, rfl⟩ := List.mem_map.mp hp
    exact StrLaws.split_free x s q hq
theorem replace_map (x : Str) {a b : Str} {c d : Nat} (ha : cs a = [c]) (hb : cs b = [d]) : cs (Txt.replace x a b) = (cs x).map fun n => if n = c then d else n := by
  obtain rfl : a = ⟨#[c]⟩ := str_eta ha
  rw [StrLaws.replace_one, sjoin_eq, join_glueS hb, split_cuts (s := c) rfl]
  generalize cs x = l
  induction l with
  | nil => rfl
  | cons y l ih =>
    rw [List.map_cons, cuts]
    split
    · rename_i h
      have : y = c := by simpa using h
      rw [glue_cons _ _ (by exact cuts_ne _ _), ih, if_pos this]; rfl
    · rename_i h
      have : y ≠ c := by simpa using h
      rw [if_neg this, ← ih]
      cases hq : cuts (· == c) l with
      | nil => exact absurd hq (cuts_ne _ _)
      | cons p r => rfl
/-- the lines, of a text whose only line end is the sign 10 -/
theorem lb_run (s : Str) (hb : ∀ c ∈ cs s, Unicode.isLineBreak c = true ↔ c = 10) : ∀ (m cur : Nat) (st : StrLaws.LsSt), cur + m = s.length → st.snd ≤ cur → (∀ c ∈ ((cs s).drop st.snd).take (cur - st.snd), c ≠ 10) →
    (StrLaws.lsEnd s (Id.run (forIn (m := Id) (List.range' cur m) st (StrLaws.lsBody s)))).map (fun p => cs (strSub s p.1 p.2.1)) =
      st.fst.toList.map (fun p => cs (strSub s p.1 p.2.1)) ++ linesL ((cs s).drop st.snd) := by
  intro m
  induction m with
  | zero =>
    intro cur st hm hle hfree
    have hc : cur = s.length := by omega
    subst hc
    have hlen := cs_len s
    show (StrLaws.lsEnd s st).map _ = _
    have hfree' : 10 ∉ (cs s).drop st.snd := by
      intro h
      refine hfree 10 ?_ rfl
      rw [List.take_of_length_le (by rw [List.length_drop]; omega)]; exact h
    unfold StrLaws.lsEnd
    split
    · rename_i h
      rw [Array.toList_push, List.map_append]
      congr 1
      have e : linesL ((cs s).drop st.snd) = [(cs s).drop st.snd] := by
        unfold linesL
        rw [if_neg, cuts_free hfree']
        rintro (q | q)
        · exact hfree' (List.mem_of_getLast? q)
        · have := congrArg List.length q
          rw [List.length_drop] at this
          simp only [List.length_nil] at this
          omega
      rw [e]
      simp only [List.map_cons, List.map_nil]
      congr 1
      show (strSub s _ _).cps.toList = _
      rw [StrLaws.strSub_toList]
      exact List.take_of_length_le (by rw [List.length_drop]; show (cs s).length - _ ≤ _; omega)
    · have : (cs s).drop st.snd = [] := List.drop_eq_nil_of_le (by omega)
      rw [this]
      simp [linesL, cuts]
  | succ m ih =>
    intro cur st hm hle hfree
    have hlen := cs_len s
    obtain ⟨lines, start⟩ := st
    dsimp only at hle hfree
    rw [List.range'_succ, List.forIn_cons]
    have hcl : cur < (cs s).length := by omega
    have hgd : s.cps.getD cur 0 = (cs s)[cur] := by
      have : s.cps[cur]? = some (cs s)[cur] := by rw [← Array.getElem?_toList, List.getElem?_eq_getElem hcl]
      rw [Array.getD_eq_getD_getElem?, this]; rfl
    have hmem : (cs s)[cur] ∈ cs s := List.getElem_mem hcl
    unfold StrLaws.lsBody
    by_cases hc : (cs s)[cur] = 10
    · have h1 : (decide (start ≤ cur) && Unicode.isLineBreak (s.cps.getD cur 0)) = true := by
        rw [hgd, (hb _ hmem).mpr hc]; simpa using hle
      have hn : StrLaws.lsNext s cur = cur + 1 := by
        unfold StrLaws.lsNext
        rw [hgd, hc]; rfl
      simp only [h1, if_true]
      have := ih (cur + 1) (lines.push (start, cur, StrLaws.lsNext s cur), StrLaws.lsNext s cur) (by omega) (by rw [hn]; exact Nat.le_refl _) (by rw [hn]; simp)
      refine Eq.trans this ?_
      dsimp only
      rw [hn, Array.toList_push, List.map_append, List.append_assoc]
      congr 1
      have e1 : (cs s).drop start = ((cs s).drop start).take (cur - start) ++ 10 :: (cs s).drop (cur + 1) := by
        conv => lhs; rw [← List.take_append_drop (cur - start) ((cs s).drop start)]
        congr 1
        rw [List.drop_drop, show start + (cur - start) = cur by omega, List.drop_eq_getElem_cons hcl, hc]
      have e2 : cs (strSub s start cur) = ((cs s).drop start).take (cur - start) := StrLaws.strSub_toList ..
      generalize ((cs s).drop start).take (cur - start) = w at *
      rw [e1]
      simp only [List.map_cons, List.map_nil, e2, List.singleton_append]
      have hw : 10 ∉ w := fun q => hfree 10 q rfl
      unfold linesL
      rw [cuts_mid (sl := sl10) (c := 10) rfl, cuts_free hw]
      by_cases hz : (cs s).drop (cur + 1) = []
      · rw [hz]
        simp [cuts]
      · have hz' : (w ++ 10 :: (cs s).drop (cur + 1)).getLast? = ((cs s).drop (cur + 1)).getLast? := by
          rw [List.getLast?_append, List.getLast?_cons]
          cases hq : ((cs s).drop (cur + 1)).getLast? with
          | none => exact absurd (List.getLast?_eq_none_iff.mp hq) hz
          | some z => simp
        rw [hz']
        have : (w ++ 10 :: (cs s).drop (cur + 1)) ≠ [] := by simp
        simp only [this, hz, or_false]
        split
        · rw [List.singleton_append, List.dropLast_cons_of_ne_nil (cuts_ne _ _)]
        · rfl
    · have h1 : (decide (start ≤ cur) && Unicode.isLineBreak (s.cps.getD cur 0)) = false := by
        rw [hgd]
        cases q : Unicode.isLineBreak (cs s)[cur] with
        | false => simp
        | true => exact absurd ((hb _ hmem).mp q) hc
      simp only [h1, Bool.false_eq_true, if_false]
      refine ih (cur + 1) (lines, start) (by omega) (by dsimp only; omega) ?_
      dsimp only
      intro c hcm
      rw [show cur + 1 - start = (cur - start) + 1 by omega, List.take_add_one, List.mem_append] at hcm
      rcases hcm with q | q
      · exact hfree c q
      · rw [List.getElem?_drop, show start + (cur - start) = cur by omega, List.getElem?_eq_getElem hcl] at q
        simp at q
        rw [q]; exact hc
theorem lines_list (s : Str) (hb : ∀ c ∈ cs s, Unicode.isLineBreak c = true ↔ c = 10) : (Txt.lines s).map cs = linesL (cs s) := by
  have key := lb_run s hb s.length 0 ((#[], 0) : StrLaws.LsSt) (by omega) (Nat.le_refl 0) (by simp)
  rw [← StrLaws.ls_eq] at key
  simp only [List.map_nil, List.nil_append, List.drop_zero] at key
  rw [← key]
  unfold Txt.lines
  split
  · rename_i h
    have h' : lineCuts s = [(0, s.length)] := by simpa using h
    have e : (lineSpans s).map (fun p => cs (strSub s p.1 p.2.1)) = (lineCuts s).map fun p => cs (strSub s p.1 p.2) := by
      unfold lineCuts
      rw [List.map_map]
      rfl
    rw [e, h']
    simp only [List.map_cons, List.map_nil]
    rw [StrLaws.sub_whole]
  · unfold linesOf lineCuts
    rw [List.map_map, List.map_map]
    rfl
end Mine
end

section
open PySem PySem.W PyProof.Rows PySem.Calls PyProof PySem.Builtin PySem.Builtin.Str
set_option maxRecDepth 100000
namespace Mine
/-- splitroot's second and third parts -/
noncomputable def splitrootF (x : Str) : Str × Str :=
  if (Txt.slice x none (some 1) != Str.ofString "/") = true then (Str.ofString "", x)
  else if (Txt.slice x (some 1) (some 2) != Str.ofString "/") = true then (Str.ofString "/", Txt.slice x (some 1) none)
  else if (Txt.slice x (some 2) (some 3) == Str.ofString "/") = true then (Str.ofString "/", Txt.slice x (some 1) none)
  else (Txt.slice x none (some 2), Txt.slice x (some 2) none)
theorem splitrootF_len (x : Str) : (splitrootF x).2.length ≤ x.length ∧ (splitrootF x).1.length ≤ 2 := by
  have e0 : (Str.ofString "").length = 0 := by decide
  have e1 : (Str.ofString "/").length = 1 := by decide
  have a1 := PyProof.Txt.length_slice_le x (some 1) none
  have a2 := PyProof.Txt.length_slice_le x (some 2) none
  have a3 : (Txt.slice x none (some 2)).length ≤ 2 := slice_to2 x
  unfold splitrootF
  split
  · exact ⟨Nat.le_refl _, by rw [e0]; omega⟩
  · split
    · exact ⟨a1, by rw [e1]; omega⟩
    · split
      · exact ⟨a1, by rw [e1]; omega⟩
      · exact ⟨a2, a3⟩
/-- one turn of normpath's loop -/
noncomputable def normStep (rooted : Bool) (acc : List Str) (c : Str) : List Str :=
  if c.length = 0 ∨ c = Str.ofString "." then acc
  else if c ≠ Str.ofString ".." ∨ (rooted = false ∧ acc = []) ∨ acc.getLast? = some (Str.ofString "..") then acc ++ [c]
  else acc.dropLast
/-- what normpath gives back -/
noncomputable def normF (x : Str) : Str :=
  if x.length = 0 then Str.ofString "." else
    let p := (splitrootF x).1 ++ Txt.join (Str.ofString "/") ((Txt.split (splitrootF x).2 (Str.ofString "/")).foldl (normStep ((splitrootF x).1.length != 0)) [])
    if p.length = 0 then Str.ofString "." else p
/-- one turn of join's loop -/
noncomputable def joinStep (path b : Str) : Str :=
  if Txt.startswith b (Str.ofString "/") = true ∨ path.length = 0 then b
  else if Txt.endswith path (Str.ofString "/") = true then path ++ b
  else path ++ (Str.ofString "/" ++ b)
noncomputable def joinF (x : Str) (ys : List Str) : Str := ys.foldl joinStep x
/-- one line of a body -/
noncomputable def encLine (y : Str) : Str :=
  match y.cps.toList.getLast? with
  | some 32 => ⟨(y.cps.toList.dropLast ++ [61, 50, 48]).toArray⟩
  | some 9 => ⟨(y.cps.toList.dropLast ++ [61, 48, 57]).toArray⟩
  | _ => y
end Mine
end

section
open PySem PySem.W PyProof.Rows PySem.Calls PyProof PySem.Builtin PySem.Builtin.Str
set_option maxRecDepth 100000
namespace Mine
theorem cs_dot : cs (Str.ofString ".") = [46] := by decide
theorem cs_dd : cs (Str.ofString "..") = [46, 46] := by decide
theorem cs_sl : cs (Str.ofString "/") = [47] := by decide
theorem cs_emp : cs (Str.ofString "") = [] := by decide
theorem starts_one {x y : Str} {c : Nat} (h : cs y = [c]) : Txt.startswith x y = true ↔ (cs x).head? = some c := by
  obtain rfl : y = ⟨#[c]⟩ := str_eta h
  unfold Txt.startswith
  rw [Bool.and_eq_true, StrLaws.subAt_eq, decide_eq_true_iff, List.drop_zero]
  show (0 + 1 ≤ x.length ∧ ((cs x).take 1 == [c]) = true) ↔ _
  rw [← cs_len]
  cases cs x with
  | nil => simp
  | cons a l => simp
theorem ends_one {x y : Str} {c : Nat} (h : cs y = [c]) : Txt.endswith x y = true ↔ (cs x).getLast? = some c := by
  obtain rfl : y = ⟨#[c]⟩ := str_eta h
  unfold Txt.endswith
  rw [Bool.and_eq_true, StrLaws.subAt_eq, decide_eq_true_iff]
  show (0 + 1 ≤ x.length ∧ (((cs x).drop (x.length - 1)).take 1 == [c]) = true) ↔ _
  rw [← cs_len]
  rcases List.eq_nil_or_concat (cs x) with e | ⟨l, a, e⟩
  · rw [e]; simp
  · rw [e]; simp
theorem slice_cs (x : Str) (l u : Option Int) : cs (Txt.slice x l u) = ((cs x).drop (clipN l 0 x.length)).take (clipN u x.length x.length - clipN l 0 x.length) := slice_list x l u
theorem slice_nat (x : Str) (a b : Nat) : cs (Txt.slice x (some (a : Int)) (some (b : Int))) = ((cs x).drop a).take (b - a) := by
  rw [slice_cs]
  have hl := cs_len x
  have ea : clipN (some (a : Int)) 0 x.length = min a x.length := by unfold clipN; simp only []; split <;> omega
  have eb : clipN (some (b : Int)) x.length x.length = min b x.length := by unfold clipN; simp only []; split <;> omega
  rw [ea, eb]
  by_cases h : a ≤ x.length
  · rw [Nat.min_eq_left h]
    by_cases hb : b ≤ x.length
    · rw [Nat.min_eq_left hb]
    · rw [Nat.min_eq_right (by omega), List.take_of_length_le (by rw [List.length_drop]; omega), List.take_of_length_le (by rw [List.length_drop]; omega)]
  · rw [(List.drop_eq_nil_of_le (by omega) : (cs x).drop a = []), (List.drop_eq_nil_of_le (by omega) : (cs x).drop (min a x.length) = [])]
    simp
theorem slice_from (x : Str) (a : Nat) : cs (Txt.slice x (some (a : Int)) none) = (cs x).drop a := by
  rw [slice_cs]
  have hl := cs_len x
  have ea : clipN (some (a : Int)) 0 x.length = min a x.length := by unfold clipN; simp only []; split <;> omega
  have eb : clipN none x.length x.length = x.length := rfl
  rw [ea, eb]
  by_cases h : a ≤ x.length
  · rw [Nat.min_eq_left h, List.take_of_length_le (by rw [List.length_drop]; omega)]
  · rw [(List.drop_eq_nil_of_le (by omega) : (cs x).drop a = []), (List.drop_eq_nil_of_le (by omega) : (cs x).drop (min a x.length) = [])]
    simp
theorem slice_upto (x : Str) (b : Nat) : cs (Txt.slice x none (some (b : Int))) = (cs x).take b := by
  rw [slice_cs]
  have hl := cs_len x
  have ea : clipN none 0 x.length = 0 := rfl
  have eb : clipN (some (b : Int)) x.length x.length = min b x.length := by unfold clipN; simp only []; split <;> omega
  rw [ea, eb, List.drop_zero, Nat.sub_zero]
  by_cases h : b ≤ x.length
  · rw [Nat.min_eq_left h]
  · rw [Nat.min_eq_right (by omega), List.take_of_length_le (by omega), List.take_of_length_le (by omega)]
theorem beq_cs (x y : Str) : (x == y) = (cs x == cs y) := by
  rw [Bool.eq_iff_iff, beq_iff_eq, beq_iff_eq, cs_inj]
theorem bne_cs (x y : Str) : (x != y) = (cs x != cs y) := by
  unfold bne; rw [beq_cs]
/-- splitroot, on plain lists -/
theorem splitroot_cs (x : Str) : cs (splitrootF x).1 = rootL (lead sl47 (cs x)) ∧ names sl47 (cs (splitrootF x).2) = names sl47 (cs x) := by
  have e1 : cs (Txt.slice x none (some 1)) = (cs x).take 1 := slice_upto x 1
  have e2 : cs (Txt.slice x (some 1) (some 2)) = ((cs x).drop 1).take 1 := slice_nat x 1 2
  have e3 : cs (Txt.slice x (some 2) (some 3)) = ((cs x).drop 2).take 1 := slice_nat x 2 3
  have e4 : cs (Txt.slice x (some 1) none) = (cs x).drop 1 := slice_from x 1
  have e5 : cs (Txt.slice x (some 2) none) = (cs x).drop 2 := slice_from x 2
  have e6 : cs (Txt.slice x none (some 2)) = (cs x).take 2 := slice_upto x 2
  unfold splitrootF
  rw [bne_cs, bne_cs, beq_cs, e1, e2, e3, cs_sl]
  have hc : ∀ c : Nat, c ≠ 47 → (c == 47) = false := fun c h => by simpa using h
  cases hx : cs x with
  | nil => simp [cs_emp, hx, lead, rootL]
  | cons a l =>
    by_cases ha : a = 47
    · subst ha
      cases l with
      | nil =>
        simp [cs_sl, e4, hx, lead, rootL]
        exact (names_head (sl := sl47) rfl []).symm
      | cons b l =>
        by_cases hb : b = 47
        · subst hb
          cases l with
          | nil =>
            simp [e5, e6, hx, lead, rootL]
            rw [names_head (sl := sl47) rfl, names_head (sl := sl47) rfl]
          | cons c l =>
            by_cases hc' : c = 47
            · subst hc'
              simp [cs_sl, e4, hx, lead, rootL]
              rw [names_head (sl := sl47) rfl (47 :: 47 :: l)]
            · simp [e5, e6, hx, hc', hc c hc', lead, rootL]
              rw [names_head (sl := sl47) rfl (47 :: c :: l), names_head (sl := sl47) rfl (c :: l)]
        · simp [cs_sl, e4, hx, hb, hc b hb, lead, rootL]
          rw [names_head (sl := sl47) rfl (b :: l)]
    · simp [cs_emp, hx, ha, hc a ha, lead, rootL]
theorem normStep_cs (r : Bool) (acc : List Str) (c : Str) : (normStep r acc c).map cs = normStepL r (acc.map cs) (cs c) := by
  unfold normStep normStepL
  have e1 : (c.length = 0 ∨ c = Str.ofString ".") ↔ (cs c = [] ∨ cs c = [46]) := by rw [cs_nil, ← cs_dot, cs_inj]
  have e2 : acc.getLast? = some (Str.ofString "..") ↔ (acc.map cs).getLast? = some [46, 46] := by
    rw [← cs_dd, List.getLast?_map, Option.map_eq_some_iff]
    constructor
    · intro h; exact ⟨_, h, rfl⟩
    · rintro ⟨y, h, e⟩; rw [h, cs_inj.mp e]
  have e3 : (c ≠ Str.ofString ".." ∨ (r = false ∧ acc = []) ∨ acc.getLast? = some (Str.ofString "..")) ↔ (cs c ≠ [46, 46] ∨ (r = false ∧ acc.map cs = []) ∨ (acc.map cs).getLast? = some [46, 46]) := by
    rw [e2, ← cs_dd, ne_eq, ne_eq, cs_inj, List.map_eq_nil_iff]
  by_cases h1 : c.length = 0 ∨ c = Str.ofString "."
  · rw [if_pos h1, if_pos (e1.mp h1)]
  · rw [if_neg h1, if_neg (fun q => h1 (e1.mpr q))]
    by_cases h2 : (c ≠ Str.ofString ".." ∨ (r = false ∧ acc = []) ∨ acc.getLast? = some (Str.ofString ".."))
    · rw [if_pos h2, if_pos (e3.mp h2)]; simp
    · rw [if_neg h2, if_neg (fun q => h2 (e3.mpr q)), List.map_dropLast]
theorem foldN_cs (r : Bool) : ∀ (ys acc : List Str), (ys.foldl (normStep r) acc).map cs = (ys.map cs).foldl (normStepL r) (acc.map cs)
  | [], _ => rfl
  | y :: ys, acc => by rw [List.foldl_cons, foldN_cs r ys, normStep_cs]; rfl
theorem normF_cs (x : Str) : cs (normF x) = normL (cs x) := by
  obtain ⟨h1, h2⟩ := splitroot_cs x
  unfold normF
  split
  · rename_i h
    rw [cs_nil.mpr h]; decide
  · dsimp only
    generalize splitrootF x = sr at *
    obtain ⟨rt, rs⟩ := sr
    dsimp only at h1 h2 ⊢
    have hr : (rt.length != 0) = (lead sl47 (cs x) != 0) := by
      rw [← cs_len, h1]
      generalize lead sl47 (cs x) = n
      unfold rootL
      by_cases h0 : n = 0
      · simp [h0]
      · by_cases h2' : n = 2
        · simp [h2']
        · simp [h0, h2']
    have hp : cs (rt ++ Txt.join (Str.ofString "/") ((Txt.split rs (Str.ofString "/")).foldl (normStep (rt.length != 0)) [])) = rootL (lead sl47 (cs x)) ++ glueS 47 ((names sl47 (cs x)).foldl (normStepL (lead sl47 (cs x) != 0)) []) := by
      rw [cs_app, h1, join_glueS cs_sl, foldN_cs, split_cuts cs_sl, hr, ← h2, List.map_nil]
      congr 2
      exact (fold_full _ _ _).symm
    generalize (rt ++ Txt.join (Str.ofString "/") ((Txt.split rs (Str.ofString "/")).foldl (normStep (rt.length != 0)) [])) = p at *
    unfold normL pathL
    by_cases hz : p.length = 0
    · rw [if_pos hz, if_pos (by rw [← hp]; exact cs_nil.mpr hz), cs_dot]
    · rw [if_neg hz, if_neg (by rw [← hp]; exact fun q => hz (cs_nil.mp q)), hp]
theorem joinStep_cs (p b : Str) : cs (joinStep p b) = joinL (cs p) (cs b) := by
  unfold joinStep joinL
  have e1 : (Txt.startswith b (Str.ofString "/") = true ∨ p.length = 0) ↔ ((cs b).head? = some 47 ∨ cs p = []) := by rw [starts_one cs_sl, cs_nil]
  have e2 := ends_one (x := p) cs_sl
  by_cases h1 : Txt.startswith b (Str.ofString "/") = true ∨ p.length = 0
  · rw [if_pos h1, if_pos (e1.mp h1)]
  · rw [if_neg h1, if_neg (fun q => h1 (e1.mpr q))]
    by_cases h2 : Txt.endswith p (Str.ofString "/") = true
    · rw [if_pos h2, if_pos (e2.mp h2), cs_app]
    · rw [if_neg h2, if_neg (fun q => h2 (e2.mpr q)), cs_app, cs_app, cs_sl]; rfl
theorem joinF_cs (x : Str) (ys : List Str) : cs (joinF x ys) = (ys.map cs).foldl joinL (cs x) := by
  unfold joinF
  induction ys generalizing x with
  | nil => rfl
  | cons y ys ih => rw [List.foldl_cons, ih, joinStep_cs]; rfl
/-- a text without the white signs at its end -/
theorem rstrip_cs (x : Str) : cs (Txt.rstrip x) = ((cs x).reverse.dropWhile Unicode.isSpace).reverse := by
  have hl := cs_len x
  have key : (cs x).take (x.length - ((cs x).reverse.takeWhile Unicode.isSpace).length) = ((cs x).reverse.dropWhile Unicode.isSpace).reverse := by
    have h := List.takeWhile_append_dropWhile (p := Unicode.isSpace) (l := (cs x).reverse)
    rw [← hl]
    generalize (cs x).reverse.takeWhile Unicode.isSpace = a at *
    generalize (cs x).reverse.dropWhile Unicode.isSpace = b at *
    have e : cs x = b.reverse ++ a.reverse := by
      have := congrArg List.reverse h
      rw [List.reverse_reverse, List.reverse_append] at this
      exact this.symm
    rw [e]
    simp
  unfold Txt.rstrip Txt.stripBy
  have e0 : stripLo Unicode.isSpace false x = 0 := rfl
  have e1 : stripHi Unicode.isSpace true x 0 = x.length - ((cs x).reverse.takeWhile Unicode.isSpace).length := by
    unfold stripHi; rw [if_pos rfl, List.drop_zero]
  have e2 : cs (PySem.stripped Unicode.isSpace false true x) = ((cs x).reverse.dropWhile Unicode.isSpace).reverse := by
    unfold PySem.stripped
    rw [e0, e1, ← key]
    show (strSub x _ _).cps.toList = _
    rw [StrLaws.strSub_toList, List.drop_zero, Nat.sub_zero]
  split
  · rename_i h
    unfold stripSame at h
    rw [e0, e1] at h
    have h' : x.length - ((cs x).reverse.takeWhile Unicode.isSpace).length = x.length := by simpa using h
    rw [← key, h', List.take_of_length_le (by omega)]
  · exact e2
end Mine
end

section
open PySem PySem.W PyProof.Rows PySem.Calls PyProof PySem.Builtin PySem.Builtin.Str
set_option maxRecDepth 100000
namespace Mine
/-- the signs of a path, as the law makes them -/
noncomputable def OkT (q : List Tk) : Prop := ∀ t ∈ q, t.1 < 256 ∧ t.1 ≠ 13 ∧ (t.2 = true → t.1 = 9 ∨ t.1 = 32)
theorem lb_all : ∀ c, c < 128 → (Unicode.isLineBreak c = true ↔ (c = 10 ∨ c = 11 ∨ c = 12 ∨ c = 13 ∨ c = 28 ∨ c = 29 ∨ c = 30)) := by decide +kernel
theorem sp_all : ∀ c, c < 128 → 32 < c → Unicode.isSpace c = false := by decide +kernel
theorem sp_9 : Unicode.isSpace 9 = true := by decide +kernel
theorem sp_32 : Unicode.isSpace 32 = true := by decide +kernel
theorem hexD_lt {d : Nat} (h : d < 16) : hexD d < 71 := by unfold hexD; split <;> omega
theorem hex_chars {n c : Nat} (hn : n < 256) (h : c ∈ (61 :: hex2 n)) : 48 ≤ c ∧ c < 71 := by
  have h1 := hexD_ge (n / 16)
  have h2 := hexD_ge (n % 16)
  have h3 := hexD_lt (d := n / 16) (by omega)
  have h4 := hexD_lt (d := n % 16) (by omega)
  simp only [hex2, List.mem_cons, List.not_mem_nil, or_false] at h
  omega
theorem btab_chars {n c : Nat} (hn : n < 256) (h : c ∈ btab n) : (32 ≤ c ∧ c ≤ 126) ∨ (c = n ∧ (n = 9 ∨ n = 10 ∨ n = 13)) := by
  unfold btab at h
  split at h
  · simp only [List.mem_singleton] at h; omega
  · have := hex_chars hn h; omega
theorem e2_chars {t : Tk} {c : Nat} (hn : t.1 < 256) (h : c ∈ e2 t) : (32 ≤ c ∧ c ≤ 126) ∨ (c = t.1 ∧ (t.1 = 9 ∨ t.1 = 10 ∨ t.1 = 13)) := by
  unfold e2 at h
  split at h
  · have := hex_chars hn h; omega
  · exact btab_chars hn h
theorem lb_e2 {q : List Tk} (h : OkT q) : ∀ c ∈ wr e2 q, (Unicode.isLineBreak c = true ↔ c = 10) := by
  intro c hc
  obtain ⟨t, ht, hc⟩ := List.mem_flatMap.mp hc
  obtain ⟨h1, h2, _⟩ := h t ht
  have := e2_chars h1 hc
  rw [lb_all c (by omega)]
  omega
theorem lb_btab {l : List Nat} (h : ∀ c ∈ l, c < 256 ∧ c ≠ 13) : ∀ c ∈ l.flatMap btab, (Unicode.isLineBreak c = true ↔ c = 10) := by
  intro c hc
  obtain ⟨t, ht, hc⟩ := List.mem_flatMap.mp hc
  obtain ⟨h1, h2⟩ := h t ht
  have := btab_chars h1 hc
  rw [lb_all c (by omega)]
  omega
theorem wr_last {e : Tk → List Nat} (hs : ∀ a, e a ≠ []) (q : List Tk) : (wr e q).getLast? = q.getLast?.bind fun t => (e t).getLast? := by
  rcases List.eq_nil_or_concat q with rfl | ⟨l, a, rfl⟩
  · rfl
  · rw [List.concat_eq_append, wr_append, List.getLast?_append]
    have : wr e [a] = e a := by rw [wr_cons, wr_nil, List.append_nil]
    rw [this]
    cases hq : (e a).getLast? with
    | none => exact absurd (List.getLast?_eq_none_iff.mp hq) (hs a)
    | some _ => simp [hq]
theorem e2_last10 (t : Tk) : (e2 t).getLast? = some 10 ↔ t.1 = 10 := by
  constructor
  · intro h
    by_cases q : t.1 = 10
    · exact q
    · exact absurd (List.mem_of_getLast? h) (e2_no (by omega) (by omega) q)
  · intro h; rw [W2n.yes t (by simpa using h)]; rfl
theorem last10 (q : List Tk) : (wr e2 q).getLast? = some 10 ↔ (q.getLast?.map (·.1)) = some 10 := by
  rw [wr_last e2_ne]
  cases q.getLast? with
  | none => simp
  | some t => simp [e2_last10]
theorem lines_e2 (q : List Tk) : linesL (wr e2 q) = (linesT q).map (wr e2) := by
  unfold linesL linesT
  have e1 := last10 q
  have e2' : wr e2 q = [] ↔ q = [] := wr_eq_nil e2_ne q
  have e3 : cuts sl10 (wr e2 q) = (cuts nlT q).map (wr e2) := cuts_wr W2n q
  by_cases h : (q.getLast?.map (·.1)) = some 10 ∨ q = []
  · rw [if_pos h, if_pos (h.imp e1.mpr e2'.mpr), e3, List.map_dropLast]
  · rw [if_neg h, if_neg (fun z => h (z.imp e1.mp e2'.mp)), e3]
theorem lines_mem {q : List Tk} {l : List Tk} (h : l ∈ linesT q) : ∀ t ∈ l, t ∈ q ∧ t.1 ≠ 10 := by
  have h' : l ∈ cuts nlT q := by
    unfold linesT at h
    split at h
    · exact List.dropLast_subset _ h
    · exact h
  clear h
  induction q generalizing l with
  | nil =>
    simp only [cuts, List.mem_singleton] at h'
    rw [h']; simp
  | cons a q ih =>
    rw [cuts] at h'
    split at h'
    · rcases List.mem_cons.mp h' with rfl | h'
      · simp
      · exact fun t ht => ⟨.tail _ (ih h' t ht).1, (ih h' t ht).2⟩
    · rename_i hn
      cases hq : cuts nlT q with
      | nil => exact absurd hq (cuts_ne _ _)
      | cons p r =>
        rw [hq, addHd] at h'
        rcases List.mem_cons.mp h' with rfl | h'
        · intro t ht
          rcases List.mem_cons.mp ht with rfl | ht
          · exact ⟨.head _, by simpa using hn⟩
          · have := ih (l := p) (by rw [hq]; exact .head _) t ht
            exact ⟨.tail _ this.1, this.2⟩
        · exact fun t ht => ⟨.tail _ (ih (by rw [hq]; exact .tail _ h') t ht).1, (ih (by rw [hq]; exact .tail _ h') t ht).2⟩
theorem e2_lastc {t : Tk} (h1 : t.1 < 256) (h2 : t.1 ≠ 13) (h3 : t.1 ≠ 10) (hb : t.2 = false) : ∃ c, (e2 t).getLast? = some c ∧ Unicode.isSpace c = false := by
  have hx : ∃ c, (61 :: hex2 t.1).getLast? = some c ∧ Unicode.isSpace c = false := by
    refine ⟨hexD (t.1 % 16), by simp [hex2], ?_⟩
    have a := hexD_ge (t.1 % 16)
    have b := hexD_lt (d := t.1 % 16) (by omega)
    exact sp_all _ (by omega) (by omega)
  unfold e2
  split
  · exact hx
  · rename_i hn
    unfold btab
    split
    · rename_i h
      have h9 : t.1 ≠ 9 := fun q => hn ⟨.inl q, hb⟩
      have h32 : t.1 ≠ 32 := fun q => hn ⟨.inr q, hb⟩
      exact ⟨t.1, rfl, sp_all _ (by omega) (by omega)⟩
    · exact hx
theorem strip_e2 : ∀ (n : Nat) (l : List Tk), l.length = n → OkT l → (∀ t ∈ l, t.1 ≠ 10) → ((wr e2 l).reverse.dropWhile Unicode.isSpace).reverse = wr e2 (stripT l)
  | 0, l, hn, _, _ => by rw [List.length_eq_zero_iff.mp hn]; rfl
  | n + 1, l, hn, ho, h10 => by
    rcases List.eq_nil_or_concat l with rfl | ⟨l, a, rfl⟩
    · cases hn
    rw [List.concat_eq_append] at *
    obtain ⟨h1, h2, h3⟩ := ho a (by simp)
    have h4 := h10 a (by simp)
    have e0 : wr e2 (l ++ [a]) = wr e2 l ++ e2 a := by rw [wr_append, wr_cons, wr_nil, List.append_nil]
    cases hb : a.2 with
    | true =>
      have hs : e2 a = [a.1] ∧ Unicode.isSpace a.1 = true := by
        rcases h3 hb with q | q <;> simp [e2, btab, q, hb, sp_9, sp_32]
      have e1 : stripT (l ++ [a]) = stripT l := by
        unfold stripT
        rw [List.reverse_append, List.reverse_singleton, List.singleton_append, List.dropWhile_cons, if_pos hb]
      rw [e0, hs.1, e1, List.reverse_append, List.reverse_singleton, List.singleton_append, List.dropWhile_cons, if_pos hs.2]
      exact strip_e2 n l (by simpa using hn) (fun t ht => ho t (by simp [ht])) (fun t ht => h10 t (by simp [ht]))
    | false =>
      obtain ⟨c, hc, hsp⟩ := e2_lastc h1 h2 h4 hb
      have e1 : stripT (l ++ [a]) = l ++ [a] := strip_none (by intro t ht; have : t = a := by simpa using ht.symm
                                                               rw [this, hb])
      rw [e1, e0]
      obtain ⟨p, hp⟩ := List.getLast?_eq_some_iff.mp hc
      rw [hp, ← List.append_assoc, List.reverse_append, List.reverse_singleton, List.singleton_append, List.dropWhile_cons, if_neg (by simp [hsp])]
      simp
theorem okT_mono {q l : List Tk} (h : OkT q) (hs : ∀ t ∈ l, t ∈ q) : OkT l := fun t ht => h t (hs t ht)
/-- one line of decode -/
theorem rstrip_line {y : Str} {l : List Tk} (hy : cs y = wr e2 l) (ho : OkT l) (h10 : ∀ t ∈ l, t.1 ≠ 10) : cs (Txt.rstrip y) = wr e2 (stripT l) := by
  rw [rstrip_cs, hy]; exact strip_e2 _ l rfl ho h10
theorem stripT_sub (l : List Tk) : ∀ t ∈ stripT l, t ∈ l := by
  intro t ht
  rw [strip_take] at ht
  exact List.mem_of_mem_take ht
/-- decode's answer -/
noncomputable def decAns (q : List Tk) : List Nat := (stripT q).map (·.1)
/-- what the lines so far have given -/
noncomputable def decAcc (ls : List (List Tk)) : List Nat := ls.flatMap fun l => (stripT l).map (·.1) ++ [10]
theorem decAcc_snoc (ls : List (List Tk)) (l : List Tk) : decAcc (ls ++ [l]) = decAcc ls ++ (stripT l).map (·.1) ++ [10] := by
  simp [decAcc]
end Mine
end

section
open PySem PySem.W PyProof.Rows PySem.Calls PyProof PySem.Builtin PySem.Builtin.Str
set_option maxRecDepth 100000
namespace Mine
/-- the sign at a place -/
theorem item_at {x : Str} {a : List Nat} {c : Nat} {b : List Nat} {i : Int} (h : cs x = a ++ c :: b) (hi : i = (a.length : Int)) : Txt.item x i = ⟨#[c]⟩ := by
  subst hi
  have hl : x.length = a.length + (b.length + 1) := by rw [← cs_len, h]; simp
  unfold Txt.item Txt.charAt
  rw [StrLaws.seqIndex_nonneg (by omega) (by omega)]
  have e2 : x.cps[a.length]? = some c := by
    rw [← Array.getElem?_toList]
    show (cs x)[a.length]? = _
    rw [h]; simp
  simp [e2]
theorem ne_eq_sign {c : Nat} (h : c ≠ 61) : ((⟨#[c]⟩ : Str) != Str.ofString "=") = true := by
  rw [bne_cs]
  have : cs (Str.ofString "=") = [61] := by decide
  rw [this]
  simpa [cs] using h
theorem eq_eq_sign : ((⟨#[61]⟩ : Str) != Str.ofString "=") = false := by decide
/-- the state of decode's inner loop: k signs of l are read -/
noncomputable def dI (l : List Tk) (k : Nat) : Nat := (wr e2 (l.take k)).length
noncomputable def dD (D : List Nat) (l : List Tk) (k : Nat) : List Nat := D ++ (l.take k).map (·.1) ++ if k = l.length then [10] else []
theorem take_succ_get {α : Type} {l : List α} {k : Nat} {t : α} (h : l[k]? = some t) : l.take (k + 1) = l.take k ++ [t] := by
  rw [List.take_add_one, h]; rfl
theorem dI_succ {l : List Tk} {k : Nat} {t : Tk} (h : l[k]? = some t) : dI l (k + 1) = dI l k + (e2 t).length := by
  unfold dI
  rw [take_succ_get h, wr_append, List.length_append, wr_cons, wr_nil, List.append_nil]
theorem e2_pos (t : Tk) : 0 < (e2 t).length := List.length_pos_iff.mpr (e2_ne t)
theorem wr_at {l : List Tk} {k : Nat} {t : Tk} (h : l[k]? = some t) : wr e2 l = wr e2 (l.take k) ++ (e2 t ++ wr e2 (l.drop (k + 1))) := by
  obtain ⟨hk, e⟩ := List.getElem?_eq_some_iff.mp h
  conv => lhs; rw [← List.take_append_drop k l, List.drop_eq_getElem_cons hk, e]
  rw [wr_append, wr_cons]
theorem dI_end {l : List Tk} {k : Nat} (hk : k ≤ l.length) : (dI l k : Int) = ((wr e2 l).length : Int) ↔ k = l.length := by
  constructor
  · intro h
    rcases Nat.lt_or_ge k l.length with q | q
    · have e := congrArg List.length (wr_at (List.getElem?_eq_getElem q))
      simp only [List.length_append] at e
      have := e2_pos l[k]
      unfold dI at h
      omega
    · omega
  · rintro rfl
    unfold dI
    rw [List.take_length]
/-- what stands at the place -/
theorem e2_form (t : Tk) : (t.1 ≠ 61 ∧ e2 t = [t.1]) ∨ e2 t = 61 :: hex2 t.1 := by
  unfold e2
  split
  · exact .inr rfl
  · unfold btab
    split
    · refine .inl ⟨?_, rfl⟩
      omega
    · exact .inr rfl
theorem hexdig : ∀ d, d < 16 → hexD d ∈ cs (Str.ofString "0123456789abcdefABCDEF") := by decide +kernel
theorem slice3 {x : Str} {a b : List Nat} {n : Nat} {i : Int} (h : cs x = a ++ (61 :: hex2 n ++ b)) (hi : i = (a.length : Int)) : Txt.slice x (some i) (some (i + 3)) = ⟨(61 :: hex2 n).toArray⟩ := by
  subst hi
  apply cs_inj.mp
  have := slice_nat x a.length (a.length + 3)
  refine Eq.trans this ?_
  rw [h, cs_mk]
  simp [hex2]
theorem lines_get {ys : List Str} {ls : List (List Tk)} (h : ys.map cs = ls.map (wr e2)) {i : Nat} {y : Str} (hy : ys[i]? = some y) : ∃ l, ls[i]? = some l ∧ cs y = wr e2 l := by
  have e : (ys.map cs)[i]? = some (cs y) := by rw [List.getElem?_map, hy]; rfl
  rw [h, List.getElem?_map] at e
  obtain ⟨l, h1, h2⟩ := Option.map_eq_some_iff.mp e
  exact ⟨l, h1, h2.symm⟩
theorem cuts_sum {α : Type} (sl : α → Bool) : ∀ q : List α, ((cuts sl q).map (fun l => l.length + 1)).sum = q.length + 1
  | [] => rfl
  | a :: q => by
    have ih := cuts_sum sl q
    rw [cuts]
    split
    · rw [List.map_cons, List.sum_cons, ih]; simp; omega
    · cases h : cuts sl q with
      | nil => exact absurd h (cuts_ne _ _)
      | cons p r =>
        rw [h] at ih
        simp only [addHd, List.map_cons, List.sum_cons, List.length_cons] at ih ⊢
        omega
theorem sum_sub {α : Type} (f : α → Nat) {l m : List α} (h : l.Sublist m) : (l.map f).sum ≤ (m.map f).sum := by
  induction h with
  | slnil => exact Nat.le_refl _
  | cons a _ ih => simp only [List.map_cons, List.sum_cons]; omega
  | cons_cons a _ ih => simp only [List.map_cons, List.sum_cons]; omega
theorem stripT_len (l : List Tk) : (stripT l).length ≤ l.length := by
  rw [strip_take, List.length_take]; omega
theorem decAcc_sum : ∀ ls : List (List Tk), (decAcc ls).length ≤ (ls.map (fun l => l.length + 1)).sum
  | [] => by simp [decAcc]
  | l :: ls => by
    have a := decAcc_sum ls
    have b := stripT_len l
    simp only [decAcc, List.flatMap_cons, List.length_append, List.length_map, List.length_cons, List.length_nil, List.map_cons, List.sum_cons] at a ⊢
    omega
theorem wr_len {e : Tk → List Nat} (hs : ∀ a, e a ≠ []) : ∀ q : List Tk, q.length ≤ (wr e q).length
  | [] => Nat.le_refl _
  | a :: q => by
    have h1 := wr_len hs q
    have h2 := List.length_pos_iff.mpr (hs a)
    rw [wr_cons, List.length_append, List.length_cons]; omega
theorem decAcc_len (q : List Tk) (i : Nat) : (decAcc ((linesT q).take i)).length ≤ (wr e2 q).length + 1 := by
  have h1 := decAcc_sum ((linesT q).take i)
  have h2 := sum_sub (fun l : List Tk => l.length + 1) (List.take_sublist i (linesT q))
  have h3 := cuts_sum nlT q
  have h4 := wr_len e2_ne q
  have h5 : ((linesT q).map (fun l => l.length + 1)).sum ≤ ((cuts nlT q).map (fun l => l.length + 1)).sum := by
    unfold linesT
    split
    · exact sum_sub _ (List.dropLast_sublist _)
    · exact Nat.le_refl _
  omega
theorem rstrip_len (y : Str) : (Txt.rstrip y).length ≤ y.length := by
  rw [← cs_len, ← cs_len, rstrip_cs]
  rw [List.length_reverse]
  exact Nat.le_trans (List.Sublist.length_le (List.dropWhile_sublist _)) (by simp)
theorem dD_zero {D : List Nat} {l : List Tk} (h : l.length ≠ 0) : dD D l 0 = D := by
  unfold dD
  rw [if_neg (by omega)]; simp
theorem dD_succ {D : List Nat} {l : List Tk} {k : Nat} {t : Tk} (h : l[k]? = some t) : dD D l (k + 1) = dD D l k ++ [t.1] ++ (if k + 1 = l.length then [10] else []) := by
  have hk := (List.getElem?_eq_some_iff.mp h).1
  unfold dD
  rw [take_succ_get h, if_neg (show ¬ k = l.length by omega)]
  simp
theorem dD_end (D : List Nat) (l : List Tk) : dD D l l.length = D ++ l.map (·.1) ++ [10] := by
  unfold dD
  rw [if_pos rfl, List.take_length]
theorem dD_len (D : List Nat) (l : List Tk) (k : Nat) : (dD D l k).length ≤ D.length + l.length + 1 := by
  unfold dD
  simp only [List.length_append, List.length_map, List.length_take]
  split <;> simp <;> omega
theorem dI_le (l : List Tk) (k : Nat) : dI l k ≤ (wr e2 l).length := by
  unfold dI
  have e := List.take_append_drop k l
  have : wr e2 l = wr e2 (l.take k) ++ wr e2 (l.drop k) := by rw [← wr_append, e]
  rw [this, List.length_append]; omega
theorem st_mid {D : List Nat} {l : List Tk} {k c : Nat} {it : Str} (h : dD D l (k + 1) = dD D l k ++ [c] ++ (if k + 1 = l.length then [10] else [])) (hit : it = ⟨#[c]⟩) (hn : ¬ k + 1 = l.length) : (⟨(dD D l k).toArray⟩ : Str) ++ it = ⟨(dD D l (k + 1)).toArray⟩ := by
  rw [h, if_neg hn, hit]
  apply cs_inj.mp
  rw [cs_app]
  simp [cs]
theorem st_end {D : List Nat} {l : List Tk} {k c : Nat} {it : Str} (h : dD D l (k + 1) = dD D l k ++ [c] ++ (if k + 1 = l.length then [10] else [])) (hit : it = ⟨#[c]⟩) (hn : k + 1 = l.length) : ((⟨(dD D l k).toArray⟩ : Str) ++ it) ++ Str.ofString "\n" = ⟨(dD D l (k + 1)).toArray⟩ := by
  rw [h, if_pos hn, hit]
  apply cs_inj.mp
  have : cs (Str.ofString "\n") = [10] := by decide
  rw [cs_app, cs_app, this]
theorem st_nl (D : List Nat) : (⟨D.toArray⟩ : Str) ++ Str.ofString "\n" = ⟨(D ++ List.map (fun t : Tk => t.1) [] ++ [10]).toArray⟩ := by
  apply cs_inj.mp
  have : cs (Str.ofString "\n") = [10] := by decide
  rw [cs_app, this]
  simp
theorem occ_in {x : Str} {c : Nat} {it : Str} (hit : it = ⟨#[c]⟩) (h : c ∈ cs x) : (occurrences x it 0 x.length 1).isEmpty = false := by
  have k := StrLaws.found_one x c
  rw [decide_eq_true h] at k
  rw [hit]
  simpa using k
/-- decode's last look -/
theorem dec_last {q : List Tk} (h : q ≠ []) (hc : Calm q) (ho : OkT q) : decAcc (linesT q) = decT q ∧ ((wr e2 q).getLast? = some 10 → decT q = decAns q) ∧ (wr e2 q).getLast? ≠ some 13 ∧
    ((wr e2 q).getLast? ≠ some 10 → (decT q).getLast? = some 10 ∧ (decT q).dropLast = decAns q) := by
  have hb : ∀ t ∈ q, t.2 = true → t.1 ≠ 10 := fun t ht hb => by have := (ho t ht).2.2 hb; omega
  have key := dec_ok h hc hb
  refine ⟨rfl, fun hl => ?_, fun hl => ?_, fun hl => ?_⟩
  · rw [if_pos ((last10 q).mp hl)] at key; exact key
  · obtain ⟨t, ht, hc'⟩ := List.mem_flatMap.mp (List.mem_of_getLast? hl)
    have h1 := (ho t ht).1
    have h2 := (ho t ht).2.1
    have := e2_chars h1 hc'
    omega
  · have hl' : ¬ (q.getLast?.map (·.1)) = some 10 := fun z => hl ((last10 q).mpr z)
    rw [if_neg hl'] at key
    refine ⟨?_, key⟩
    unfold decT linesT
    rw [if_neg (by rintro (z | z); exact hl' z; exact h z)]
    rcases List.eq_nil_or_concat (cuts nlT q) with e | ⟨p, z, e⟩
    · exact absurd e (cuts_ne _ _)
    · rw [e, List.concat_eq_append, List.flatMap_append]
      simp
theorem slice_but (l : List Nat) : Txt.slice ⟨l.toArray⟩ none (some (-((1 : Nat) : Int))) = ⟨l.dropLast.toArray⟩ := by
  apply cs_inj.mp
  rw [slice_cs]
  have hl : (⟨l.toArray⟩ : Str).length = l.length := by simp [Str.length]
  rw [hl]
  have e1 : clipN none 0 l.length = 0 := rfl
  have e2 : clipN (some (-((1 : Nat) : Int))) l.length l.length = l.length - 1 := by unfold clipN; simp only []; split <;> omega
  rw [e1, e2, List.drop_zero, Nat.sub_zero, List.dropLast_eq_take]
end Mine
end

section
open PySem PySem.W PyProof.Rows PySem.Calls
set_option maxRecDepth 100000
set_option maxHeartbeats 0
namespace Mine
open PySem.Sre
/-- the pattern's code -/
noncomputable def codeR : Array Nat := #[14, 8, 1, 3, 3, 1, 1, 61, 0, 16, 61, 24, 16, 2, 2, 13, 11, 9, 0, 67043328, 126, 126, 0, 0, 0, 0, 0, 1, 1]
/-- a try at the place p -/
noncomputable def tryAt (text : Array Nat) (lim p : Nat) (first : Bool) (seen : Sre.Seen) : Sre.M :=
  { code := codeR, text, lim, start := p, lastStart := lim, pc := 9, pos := p, handed := p, outermost := first, marks := #[], frames := [{ wait := .nextStart, pc := 9, pos := p, outermost := first }], weight := 1, seen }
noncomputable def iter : Nat → Sre.M → Sre.M
  | 0, m => m
  | n + 1, m => iter n m.step
theorem step_over {m : Sre.M} (h : m.outcome.isSome = true) : m.step = m := by
  unfold M.step; rw [if_pos h]
theorem iter_over : ∀ (n : Nat) {m : Sre.M}, m.outcome.isSome = true → iter n m = m
  | 0, _, _ => rfl
  | n + 1, m, h => by rw [iter, step_over h, iter_over n h]
theorem runFor_iter : ∀ (n : Nat) (m : Sre.M), m.runFor n = iter n m
  | 0, _ => rfl
  | n + 1, m => by
    rw [M.runFor]
    split
    · rename_i h; rw [iter_over _ h]
    · rw [runFor_iter n, iter]
theorem iter_add : ∀ (a b : Nat) (m : Sre.M), iter (a + b) m = iter b (iter a m)
  | 0, b, m => by rw [Nat.zero_add]; rfl
  | a + 1, b, m => by rw [Nat.add_right_comm, iter, iter, iter_add a b]
theorem step_try (text : Array Nat) (lim p : Nat) (first : Bool) (seen : Sre.Seen) : (tryAt text lim p first seen).step =
    if p ≥ lim then ({ tryAt text lim p first seen with seen := seen.add 16 } : Sre.M).say false else
    match (Except.ok (text.getD p 0 == 61, seen.add 16) : Except String (Bool × Sre.Seen)) with
    | .error why => ({ tryAt text lim p first seen with seen := seen.add 16 } : Sre.M).stick why
    | .ok (false, seen') => ({ tryAt text lim p first seen with seen := seen' } : Sre.M).say false
    | .ok (true, seen') => { tryAt text lim p first seen with seen := seen', pc := 11, pos := p + 1 } := by kernel_rfl
theorem step_no (text : Array Nat) (lim p : Nat) (first : Bool) (seen : Sre.Seen) : (({ tryAt text lim p first seen with seen := seen } : Sre.M).say false).step =
    if p < lim then tryAt text lim (p + 1) false seen else ({ tryAt text lim p first seen with frames := [], weight := 0 } : Sre.M).say false := by kernel_rfl
theorem step_fail (text : Array Nat) (lim p : Nat) (first : Bool) (seen : Sre.Seen) : (({ tryAt text lim p first seen with frames := [], weight := 0 } : Sre.M).say false).step.outcome = some .failed := by kernel_rfl
/-- a sign that opens no match -/
theorem try_skip {text : Array Nat} {lim p : Nat} {first : Bool} {seen : Sre.Seen} (hp : p < lim) (h : text.getD p 0 ≠ 61) : ∃ seen', iter 2 (tryAt text lim p first seen) = tryAt text lim (p + 1) false seen' := by
  refine ⟨seen.add 16, ?_⟩
  have hb : (text.getD p 0 == 61) = false := by simpa using h
  show ((tryAt text lim p first seen).step).step = _
  rw [step_try, if_neg (by omega), hb]
  show (({ tryAt text lim p first (seen.add 16) with seen := seen.add 16 } : Sre.M).say false).step = _
  rw [step_no, if_pos hp]
/-- the text's end -/
theorem try_end {text : Array Nat} {lim : Nat} {first : Bool} {seen : Sre.Seen} : (iter 3 (tryAt text lim lim first seen)).outcome = some .failed := by
  show (((tryAt text lim lim first seen).step).step).step.outcome = _
  rw [step_try, if_pos (Nat.le_refl _)]
  show ((({ tryAt text lim lim first (seen.add 16) with seen := seen.add 16 } : Sre.M).say false).step).step.outcome = _
  rw [step_no, if_neg (Nat.lt_irrefl _)]
  exact step_fail text lim lim first (seen.add 16)
theorem none_ahead {text : Array Nat} {lim : Nat} : ∀ (n p : Nat) (first : Bool) (seen : Sre.Seen), p + n = lim → (∀ i, p ≤ i → i < lim → text.getD i 0 ≠ 61) → ∃ k, k ≤ 2 * n + 3 ∧ (iter k (tryAt text lim p first seen)).outcome = some .failed
  | 0, p, first, seen, h, _ => by
    obtain rfl : p = lim := h
    exact ⟨3, by omega, try_end⟩
  | n + 1, p, first, seen, h, hn => by
    obtain ⟨seen', e⟩ := try_skip (first := first) (seen := seen) (text := text) (lim := lim) (p := p) (by omega) (hn p (Nat.le_refl _) (by omega))
    obtain ⟨k, hk, ho⟩ := none_ahead n (p + 1) false seen' (by omega) fun i h1 h2 => hn i (by omega) h2
    exact ⟨2 + k, by omega, by rw [iter_add, e]; exact ho⟩
/-- the set of figures -/
theorem in_set : ∀ c, c < 71 → 48 ≤ c → (c ≤ 57 ∨ 65 ≤ c) → ∀ seen, ∃ seen', accepts codeR 15 c seen = .ok (true, seen') := by
  intro c h1 h2 h3 seen
  have key : ∀ c, c < 71 → 48 ≤ c → (c ≤ 57 ∨ 65 ≤ c) → (c < 256 && (codeR.getD (17 + (1 + c / 32)) 0).testBit (c % 32)) = true := by decide +kernel
  have hk := key c h1 h2 h3
  have e : accepts codeR 15 c seen = (if (c < 256 && (codeR.getD (17 + (1 + c / 32)) 0).testBit (c % 32)) = true then .ok (true, seen.add 9) else inSet codeR c 28 26 true (seen.add 9)) := by kernel_rfl
  exact ⟨_, by rw [e, if_pos hk]⟩
theorem run_two {text : Array Nat} {p : Nat} {seen : Sre.Seen} (h1 : ∀ seen, ∃ seen', accepts codeR 15 (text.getD p 0) seen = .ok (true, seen')) (h2 : ∀ seen, ∃ seen', accepts codeR 15 (text.getD (p + 1) 0) seen = .ok (true, seen')) :
    ∃ seen', Sre.run codeR text 15 2 p 0 seen = .ok (2, seen') := by
  obtain ⟨s1, e1⟩ := h1 seen
  obtain ⟨s2, e2⟩ := h2 s1
  refine ⟨s2, ?_⟩
  show (accepts codeR 15 (text.getD p 0) seen >>= fun r => if r.1 then Sre.run codeR text 15 1 (p + 1) 1 r.2 else pure (0, r.2)) = _
  rw [e1]
  show (accepts codeR 15 (text.getD (p + 1) 0) s1 >>= fun r => if r.1 then Sre.run codeR text 15 0 (p + 2) 2 r.2 else pure (1, r.2)) = _
  rw [e2]
  rfl
/-- behind the equals sign -/
noncomputable def behindEq (text : Array Nat) (lim p : Nat) (first : Bool) (seen : Sre.Seen) : Sre.M := { tryAt text lim p first seen with pc := 11, pos := p + 1 }
theorem step_two (text : Array Nat) (lim p : Nat) (first : Bool) (seen : Sre.Seen) : (behindEq text lim p first seen).step =
    if (2 : Int) > (lim : Int) - ((p + 1 : Nat) : Int) then ({ behindEq text lim p first seen with seen := seen.add 24 } : Sre.M).say false else
    match Sre.run codeR text 15 (min 2 ((lim : Int) - ((p + 1 : Nat) : Int)).toNat) (p + 1) 0 ((seen.add 24).add 13) with
    | .error why => ({ behindEq text lim p first seen with seen := seen.add 24 } : Sre.M).stick why
    | .ok (n, seen') =>
      let m : Sre.M := { behindEq text lim p first seen with seen := seen' }
      if n < 2 then m.say false else
      let m : Sre.M := { m with pos := m.pos + n }
      m.afterRun .giveBack n (m.keep m.inner.isSome) := by kernel_rfl
/-- before the last look -/
noncomputable def atLast (text : Array Nat) (lim p : Nat) (first : Bool) (seen : Sre.Seen) : Sre.M :=
  { tryAt text lim p first seen with pc := 28, pos := p + 3, handed := p + 3, weight := 2, frames := { wait := .giveBack, pc := 11, pos := p + 3, outermost := first, count := 2, kept := { lastmark := -1, lastindex := -1, whole := false, marks := #[] } } :: (tryAt text lim p first seen).frames }
theorem after_two (text : Array Nat) (lim p : Nat) (first : Bool) (seen : Sre.Seen) : (let m : Sre.M := { behindEq text lim p first seen with pos := p + 1 + 2 }; m.afterRun .giveBack (2 : Nat) (m.keep m.inner.isSome)) = atLast text lim p first seen := by kernel_rfl
theorem last_steps (text : Array Nat) (lim p : Nat) (first : Bool) (seen : Sre.Seen) : (iter 4 (atLast text lim p first seen)).outcome = some .matched ∧ (iter 4 (atLast text lim p first seen)).start = p ∧ (iter 4 (atLast text lim p first seen)).handed = p + 3 ∧ (iter 4 (atLast text lim p first seen)).lastindex = -1 ∧ (iter 4 (atLast text lim p first seen)).lastmark = -1 := by
  cases first
  · exact ⟨by kernel_rfl, by kernel_rfl, by kernel_rfl, by kernel_rfl, by kernel_rfl⟩
  · exact ⟨by kernel_rfl, by kernel_rfl, by kernel_rfl, by kernel_rfl, by kernel_rfl⟩
/-- a machine that has found a match -/
structure Found (m : Sre.M) (p : Nat) : Prop where
  out : m.outcome = some .matched
  start : m.start = p
  handed : m.handed = p + 3
  index : m.lastindex = -1
theorem try_hit {text : Array Nat} {lim p : Nat} {first : Bool} {seen : Sre.Seen} (hp : p + 3 ≤ lim) (h0 : text.getD p 0 = 61) (h1 : ∀ seen, ∃ seen', accepts codeR 15 (text.getD (p + 1) 0) seen = .ok (true, seen')) (h2 : ∀ seen, ∃ seen', accepts codeR 15 (text.getD (p + 1 + 1) 0) seen = .ok (true, seen')) :
    Found (iter 6 (tryAt text lim p first seen)) p := by
  have hb : (text.getD p 0 == 61) = true := by simpa using h0
  obtain ⟨seen', hr⟩ := run_two (seen := ((seen.add 16).add 24).add 13) h1 h2
  have e1 : (tryAt text lim p first seen).step = behindEq text lim p first (seen.add 16) := by
    rw [step_try, if_neg (by omega), hb]; rfl
  have e2 : (behindEq text lim p first (seen.add 16)).step = atLast text lim p first seen' := by
    rw [step_two, if_neg (by omega), show min 2 ((lim : Int) - ((p + 1 : Nat) : Int)).toNat = 2 by omega, hr]
    exact after_two text lim p first seen'
  have e : iter 6 (tryAt text lim p first seen) = iter 4 (atLast text lim p first seen') := by
    show iter 4 ((tryAt text lim p first seen).step).step = _
    rw [e1, e2]
  rw [e]
  obtain ⟨a, b, c, d, _⟩ := last_steps text lim p first seen'
  exact ⟨a, b, c, d⟩
theorem one_ahead {text : Array Nat} {lim : Nat} : ∀ (n p : Nat) (first : Bool) (seen : Sre.Seen), p + n + 3 ≤ lim → (∀ i, p ≤ i → i < p + n → text.getD i 0 ≠ 61) → text.getD (p + n) 0 = 61 →
    (∀ seen, ∃ seen', accepts codeR 15 (text.getD (p + n + 1) 0) seen = .ok (true, seen')) → (∀ seen, ∃ seen', accepts codeR 15 (text.getD (p + n + 1 + 1) 0) seen = .ok (true, seen')) →
    ∃ k, k ≤ 2 * n + 6 ∧ Found (iter k (tryAt text lim p first seen)) (p + n)
  | 0, p, first, seen, h, _, h0, h1, h2 => ⟨6, by omega, try_hit h h0 h1 h2⟩
  | n + 1, p, first, seen, h, hn, h0, h1, h2 => by
    obtain ⟨seen', e⟩ := try_skip (first := first) (seen := seen) (text := text) (lim := lim) (p := p) (by omega) (hn p (Nat.le_refl _) (by omega))
    have ea : p + (n + 1) = p + 1 + n := by omega
    rw [ea] at h0 h1 h2 ⊢
    obtain ⟨k, hk, ho⟩ := one_ahead (text := text) (lim := lim) n (p + 1) false seen' (by omega) (fun i h1 h2 => hn i (by omega) (by omega)) h0 h1 h2
    exact ⟨2 + k, by omega, by rw [iter_add, e]; exact ho⟩
/-- the search -/
theorem search_eq (text : Array Nat) (p lim : Nat) : Sre.forSearch codeR text 0 p lim false =
    if (decide (p > lim) || decide (lim - p < 3)) = true then ({ code := codeR, text, lim, start := p, pc := 9, pos := p, handed := p, marks := #[], mustAdvance := false, seen := ({} : Sre.Seen).add 14 } : Sre.M).say false
    else tryAt text lim p true (({} : Sre.Seen).add 14) := by kernel_rfl
theorem short_fail (text : Array Nat) (p lim : Nat) : (iter 1 (({ code := codeR, text, lim, start := p, pc := 9, pos := p, handed := p, marks := #[], mustAdvance := false, seen := ({} : Sre.Seen).add 14 } : Sre.M).say false)).outcome = some .failed := by kernel_rfl
theorem search_none {text : Array Nat} {p lim : Nat} (hp : p ≤ lim) (hn : ∀ i, p ≤ i → i < lim → text.getD i 0 ≠ 61) : ∃ k, k ≤ 2 * lim + 6 ∧ (iter k (Sre.forSearch codeR text 0 p lim false)).outcome = some .failed := by
  rw [search_eq]
  split
  · exact ⟨1, by omega, short_fail text p lim⟩
  · obtain ⟨k, hk, ho⟩ := none_ahead (text := text) (lim := lim) (lim - p) p true (({} : Sre.Seen).add 14) (by omega) hn
    exact ⟨k, by omega, ho⟩
theorem search_one {text : Array Nat} {p n lim : Nat} (hp : p + n + 3 ≤ lim) (hn : ∀ i, p ≤ i → i < p + n → text.getD i 0 ≠ 61) (h0 : text.getD (p + n) 0 = 61)
    (h1 : ∀ seen, ∃ seen', accepts codeR 15 (text.getD (p + n + 1) 0) seen = .ok (true, seen')) (h2 : ∀ seen, ∃ seen', accepts codeR 15 (text.getD (p + n + 1 + 1) 0) seen = .ok (true, seen')) :
    ∃ k, k ≤ 2 * lim + 6 ∧ Found (iter k (Sre.forSearch codeR text 0 p lim false)) (p + n) := by
  rw [search_eq, if_neg (by simp; omega)]
  obtain ⟨k, hk, ho⟩ := one_ahead (text := text) (lim := lim) n p true (({} : Sre.Seen).add 14) hp hn h0 h1 h2
  exact ⟨k, by omega, ho⟩
end Mine
end

section
open PySem PySem.W PyProof.Rows PySem.Calls PySem.Builtin PySem.Builtin.Re
set_option maxRecDepth 100000
set_option maxHeartbeats 0
namespace Mine
theorem pa_pat : PlainAttrs "re.Pattern" := ⟨⟨"object.__getattribute__", by rw [typeLookup_type, builtinLookup_eq_fast]; kernel_rfl, by decide +kernel⟩, by rw [typeLookup_type, builtinLookup_eq_fast]; kernel_rfl⟩
theorem pa_mat : PlainAttrs "re.Match" := ⟨⟨"object.__getattribute__", by rw [typeLookup_type, builtinLookup_eq_fast]; kernel_rfl, by decide +kernel⟩, by rw [typeLookup_type, builtinLookup_eq_fast]; kernel_rfl⟩
theorem slot_sub : Slot "re.Pattern" "sub" "re.Pattern.sub" :=
  .of (owner := "re.Pattern") (n := "sub") (by rw [typeLookup_type, builtinLookup_eq_fast]; kernel_rfl) (by decide +kernel) (by decide +kernel) (by decide +kernel)
    (by first | exact .inl (by decide +kernel) | exact .inr (by decide +kernel)) (by rw [isSubtype_type]; kernel_rfl)
theorem type_sub : typeOf (.builtin "re.Pattern.sub") = pure (.type "method_descriptor") := by show builtinType _ = _; rw [builtinType_eq_fast]; kernel_rfl
theorem entry_sub : entryFor table "re.Pattern.sub" = some Builtin.«re.Pattern.sub» := entryFor_of_tree (by kernel_rfl)
theorem entry_subloop : entryFor table "re.Pattern.sub.loop" = some Builtin.«re.Pattern.sub.loop» := entryFor_of_tree (by kernel_rfl)
theorem args_sub (a b c : Value) : argsOk "re.Pattern.sub" ⟨[a, b, c], []⟩ := by unfold argsOk; kernel_rfl
theorem slot_group : Slot "re.Match" "group" "re.Match.group" :=
  .of (owner := "re.Match") (n := "group") (by rw [typeLookup_type, builtinLookup_eq_fast]; kernel_rfl) (by decide +kernel) (by decide +kernel) (by decide +kernel)
    (by first | exact .inl (by decide +kernel) | exact .inr (by decide +kernel)) (by rw [isSubtype_type]; kernel_rfl)
theorem type_group : typeOf (.builtin "re.Match.group") = pure (.type "method_descriptor") := by show builtinType _ = _; rw [builtinType_eq_fast]; kernel_rfl
theorem entry_group : entryFor table "re.Match.group" = some Builtin.«re.Match.group» := entryFor_of_tree (by kernel_rfl)
theorem args_group (a b : Value) : argsOk "re.Match.group" ⟨[a, b], []⟩ := by unfold argsOk; kernel_rfl
theorem plain_subloop : plainId "re.Pattern.sub.loop" = true := by decide +kernel
theorem quiet_subloop (a : Args) : (Code.builtin "re.Pattern.sub.loop" a).quiet = true := Code.quiet_builtin _ (by decide +kernel)
end Mine
end

section
open PySem PySem.W PyProof.Rows PySem.Calls PyProof PySem.Builtin PySem.Builtin.Str
set_option maxRecDepth 100000
namespace Mine
noncomputable def ptab (c : Nat) : List Nat := if (97 ≤ c ∧ c ≤ 122) ∨ (65 ≤ c ∧ c ≤ 90) ∨ (48 ≤ c ∧ c ≤ 57) ∨ c = 45 ∨ c = 33 ∨ c = 42 ∨ c = 43 ∨ c = 47 then [c] else if c = 32 then [32] else 61 :: hex2 c
noncomputable def un95 (n : Nat) : Nat := if n = 95 then 32 else n
theorem un95_hex {c : Nat} (h : c < 256) : ∀ n ∈ (61 :: hex2 c), un95 n = n := by
  intro n hn
  have := hex_chars h hn
  unfold un95
  rw [if_neg (by omega)]
theorem htab_un {c : Nat} (h : c < 256) : (htab c).map un95 = ptab c := by
  unfold htab ptab
  split
  · rename_i hc
    simp only [List.map_cons, List.map_nil, un95]
    rw [if_neg (by omega)]
  · split
    · rfl
    · conv => rhs; rw [← List.map_id (61 :: hex2 c)]
      exact List.map_congr_left (un95_hex h)
theorem htabs_un : ∀ l : List Nat, (∀ c ∈ l, c < 256) → (l.flatMap htab).map un95 = l.flatMap ptab
  | [], _ => rfl
  | c :: l, h => by
    rw [List.flatMap_cons, List.flatMap_cons, List.map_append, htab_un (h c (.head _)), htabs_un l fun d hd => h d (.tail _ hd)]
noncomputable def Plain (c : Nat) : Prop := ptab c = [c] ∧ c ≠ 61
theorem ptab_form (c : Nat) : Plain c ∨ ptab c = 61 :: hex2 c := by
  unfold Plain ptab
  split
  · exact .inl ⟨rfl, by omega⟩
  · split
    · rename_i h; exact .inl ⟨by rw [h], by omega⟩
    · exact .inr rfl
theorem plain_flat : ∀ {a : List Nat}, (∀ x ∈ a, Plain x) → a.flatMap ptab = a
  | [], _ => rfl
  | x :: a, h => by rw [List.flatMap_cons, (h x (.head _)).1, plain_flat fun y hy => h y (.tail _ hy)]; rfl
theorem first_hit : ∀ r : List Nat, (∀ c ∈ r, Plain c) ∨ ∃ a c b, r = a ++ c :: b ∧ (∀ x ∈ a, Plain x) ∧ ptab c = 61 :: hex2 c
  | [] => .inl fun _ h => nomatch h
  | c :: r => by
    rcases ptab_form c with h | h
    · rcases first_hit r with g | ⟨a, d, b, rfl, ha, hd⟩
      · exact .inl fun x hx => (List.mem_cons.mp hx).elim (fun e => e ▸ h) (g x)
      · exact .inr ⟨c :: a, d, b, rfl, fun x hx => (List.mem_cons.mp hx).elim (fun e => e ▸ h) (ha x), hd⟩
    · exact .inr ⟨[], c, r, rfl, (fun _ h => nomatch h), h⟩
theorem getD_cs (y : Str) (i : Nat) : y.cps.getD i 0 = (cs y).getD i 0 := by
  rw [Array.getD_eq_getD_getElem?, List.getD_eq_getElem?_getD]
  show _ = (y.cps.toList[i]?).getD 0
  rw [Array.getElem?_toList]
theorem getD_mid {y : Str} {u v : List Nat} {c : Nat} {i : Nat} (h : cs y = u ++ c :: v) (hi : i = u.length) : y.cps.getD i 0 = c := by
  rw [getD_cs, h, hi]; simp [List.getD_eq_getElem?_getD]
theorem getD_plain {y : Str} {u a v : List Nat} {p : Nat} (h : cs y = u ++ a ++ v) (hp : p = u.length) (ha : ∀ x ∈ a, Plain x) : ∀ i, p ≤ i → i < p + a.length → y.cps.getD i 0 ≠ 61 := by
  intro i h1 h2
  rw [getD_cs, h, List.getD_eq_getElem?_getD, List.append_assoc, List.getElem?_append_right (by omega), List.getElem?_append_left (by omega)]
  have : i - u.length < a.length := by omega
  rw [List.getElem?_eq_getElem this]
  exact (ha _ (List.getElem_mem this)).2
theorem acc_hex {d : Nat} (h : d < 16) : ∀ seen, ∃ seen', Sre.accepts codeR 15 (hexD d) seen = .ok (true, seen') := by
  refine in_set _ (hexD_lt h) (hexD_ge d) ?_
  unfold hexD; split <;> omega
theorem size_cs (y : Str) : y.cps.size = (cs y).length := by simp
theorem extract_cs (y : Str) (a b : Nat) : cs (⟨y.cps.extract a b⟩ : Str) = ((cs y).drop a).take (b - a) := by
  show (y.cps.extract a b).toList = _
  rw [Array.toList_extract, List.extract_eq_take_drop]
theorem extract_mid {y : Str} {u a v : List Nat} {p q : Nat} (h : cs y = u ++ a ++ v) (hp : p = u.length) (hq : q = p + a.length) : (⟨y.cps.extract p q⟩ : Str) = ⟨a.toArray⟩ := by
  apply cs_inj.mp
  rw [extract_cs, h, hp, hq, hp, List.append_assoc, List.drop_left, show u.length + a.length - u.length = a.length by omega, List.take_left]
theorem ptab_ne (c : Nat) : ptab c ≠ [] := by unfold ptab; split; simp; split <;> simp
theorem ptab_len : ∀ l : List Nat, l.length ≤ (l.flatMap ptab).length
  | [] => Nat.le_refl _
  | c :: l => by
    have a := ptab_len l
    have b := List.length_pos_iff.mpr (ptab_ne c)
    rw [List.flatMap_cons, List.length_append, List.length_cons]; omega
theorem join_nil (ts : List Str) : Txt.join ⟨#[]⟩ ts = ⟨(ts.flatMap cs).toArray⟩ := by
  apply cs_inj.mp
  show (Txt.join _ ts).cps.toList = _
  rw [join_list_eq]
  cases ts with
  | nil => rfl
  | cons a r =>
    simp only [List.map_cons, glueL, List.flatMap_cons, List.nil_append, List.flatMap_map]
theorem flat_sum (ts : List Str) : (ts.map (·.length)).sum = (ts.flatMap cs).length := by
  induction ts with
  | nil => rfl
  | cons a r ih => rw [List.map_cons, List.sum_cons, List.flatMap_cons, List.length_append, ih, cs_len]
end Mine
end

section
open PySem
set_option maxRecDepth 100000
namespace Mine
theorem wordOf_wr (l : List Tk) : wordOf l = wr e1 l := by
  induction l with
  | nil => rfl
  | cons a l ih => rw [wr_cons, ← ih]; rfl
theorem textP (n : Nat) (ns : List (List Tk)) : pathL (rootL n) (ns.map wordOf) = wr e1 (pathT n ns) := by
  have e : (wordOf : List Tk → List Nat) = wr e1 := funext wordOf_wr
  rw [e]; exact path_wr D1 rfl n ns
/-- a piece is a run of the whole -/
theorem cuts_infix {α : Type} (sl : α → Bool) : ∀ l : List α, ∃ h r, cuts sl l = h :: r ∧ h <+: l ∧ ∀ p ∈ r, p <:+: l
  | [] => ⟨[], [], rfl, List.prefix_refl _, fun _ h => nomatch h⟩
  | a :: l => by
    obtain ⟨h, r, e, h1, h2⟩ := cuts_infix sl l
    rw [cuts, e]
    have up : ∀ p, p <:+: l → p <:+: (a :: l) := fun p hp => hp.trans (List.suffix_cons a l).isInfix
    split
    · refine ⟨[], h :: r, rfl, List.nil_prefix, fun p hp => ?_⟩
      rcases List.mem_cons.mp hp with rfl | hp
      · exact up _ h1.isInfix
      · exact up _ (h2 p hp)
    · exact ⟨a :: h, r, rfl, (List.prefix_cons_inj a).mpr h1, fun p hp => up _ (h2 p hp)⟩
theorem names_infix {α : Type} {sl : α → Bool} {l p : List α} (hp : p ∈ names sl l) : p <:+: l := by
  obtain ⟨h, r, e, h1, h2⟩ := cuts_infix sl l
  have : p ∈ cuts sl l := (List.mem_filter.mp hp).1
  rw [e] at this
  rcases List.mem_cons.mp this with rfl | h'
  · exact h1.isInfix
  · exact h2 p h'
theorem calm_app : ∀ {p l : List Tk}, Calm (p ++ l) → Calm p
  | [], _, _ => trivial
  | [_], _, _ => trivial
  | _ :: b :: p, _, h => ⟨h.1, calm_app (p := b :: p) h.2⟩
theorem calm_infix {p l : List Tk} (h : Calm l) (hp : p <:+: l) : Calm p := by
  obtain ⟨a, b, rfl⟩ := hp
  rw [List.append_assoc] at h
  exact calm_app (calm_drop h)
theorem calm_glue : ∀ {x y : List Tk}, Calm x → Calm y → Calm (x ++ (47, false) :: y)
  | [], [], _, _ => trivial
  | [], b :: y, _, h => ⟨(fun h => nomatch h), h⟩
  | [a], y, _, h => ⟨fun _ => by decide, calm_glue (x := []) (y := y) trivial h⟩
  | a :: b :: x, y, h1, h2 => ⟨h1.1, calm_glue (x := b :: x) h1.2 h2⟩
theorem calm_toks : ∀ l : List Nat, Calm (toksOf l)
  | [] => trivial
  | [_] => trivial
  | a :: b :: l => by
    have ih := calm_toks (b :: l)
    cases l with
    | nil => exact ⟨fun h => by simp at h; exact h.2, trivial⟩
    | cons c l => exact ⟨fun h => by simp at h; exact h.2, ih⟩
theorem ok_toks : ∀ {l : List Nat}, (∀ c ∈ l, c < 256 ∧ c ≠ 13) → OkT (toksOf l)
  | [], _ => fun _ h => nomatch h
  | [a], h => fun t ht => by
    rw [List.mem_singleton.mp ht]
    exact ⟨(h a (.head _)).1, (h a (.head _)).2, fun h => nomatch h⟩
  | a :: b :: l, h => fun t ht => by
    rcases List.mem_cons.mp ht with rfl | ht
    · exact ⟨(h a (.head _)).1, (h a (.head _)).2, fun h => by simp at h; exact h.1⟩
    · exact ok_toks (fun c hc => h c (.tail _ hc)) t ht
theorem calm_glueT : ∀ {ns : List (List Tk)}, (∀ p ∈ ns, Calm p) → Calm (glueT ns)
  | [], _ => trivial
  | [a], h => by
    show Calm (a ++ [])
    rw [List.append_nil]; exact h a (.head _)
  | a :: b :: r, h => by
    have := calm_glueT (ns := b :: r) fun p hp => h p (.tail _ hp)
    exact calm_glue (h a (.head _)) this
theorem calm_rooted {n : Nat} {q : List Tk} (h : Calm q) : Calm (rootT n ++ q) := by
  unfold rootT
  split
  · exact h
  · split
    · exact calm_glue (x := [(47, false)]) trivial h
    · exact calm_glue (x := []) trivial h
theorem calm_path {n : Nat} {ns : List (List Tk)} (h : ∀ p ∈ ns, Calm p) : Calm (pathT n ns) := by
  unfold pathT
  split
  · trivial
  · exact calm_rooted (calm_glueT h)
theorem mem_glueT {t : Tk} : ∀ {ns : List (List Tk)}, t ∈ glueT ns → t = (47, false) ∨ ∃ p ∈ ns, t ∈ p
  | [], h => nomatch h
  | a :: r, h => by
    rcases List.mem_append.mp h with h | h
    · exact .inr ⟨a, .head _, h⟩
    · obtain ⟨p, hp, h⟩ := List.mem_flatMap.mp h
      rcases List.mem_cons.mp h with h | h
      · exact .inl h
      · exact .inr ⟨p, .tail _ hp, h⟩
theorem mem_rootT {t : Tk} {n : Nat} (h : t ∈ rootT n) : t = (47, false) := by
  unfold rootT at h
  split at h
  · exact nomatch h
  · split at h
    · simp at h; exact h
    · exact List.mem_singleton.mp h
theorem mem_path {t : Tk} {n : Nat} {ns : List (List Tk)} (h : t ∈ pathT n ns) : t = (46, false) ∨ t = (47, false) ∨ ∃ p ∈ ns, t ∈ p := by
  unfold pathT at h
  split at h
  · exact .inl (List.mem_singleton.mp h)
  · rcases List.mem_append.mp h with h | h
    · exact .inr (.inl (mem_rootT h))
    · exact .inr (mem_glueT h)
theorem ok_path {n : Nat} {ns : List (List Tk)} (h : ∀ p ∈ ns, OkT p) : OkT (pathT n ns) := by
  intro t ht
  rcases mem_path ht with rfl | rfl | ⟨p, hp, ht⟩
  · exact ⟨by decide, by decide, fun h => nomatch h⟩
  · exact ⟨by decide, by decide, fun h => nomatch h⟩
  · exact h p hp t ht
theorem mem_st : ∀ {ns : List (List Tk)} {p : List Tk}, p ∈ (ns.foldr stStep ([], 0)).1 → p ∈ ns
  | [], _, h => nomatch h
  | x :: ns, p, h => by
    rw [List.foldr_cons] at h
    have ih := @mem_st ns p
    unfold stStep at h
    split at h
    · exact .tail _ (ih h)
    · split at h
      · exact .tail _ (ih h)
      · split at h
        · rcases List.mem_cons.mp h with rfl | h
          · exact .head _
          · exact .tail _ (ih h)
        · exact .tail _ (ih h)
theorem mem_straight {r : Bool} {ns : List (List Tk)} {p : List Tk} (h : p ∈ straight r ns) : p = ddT ∨ p ∈ ns := by
  unfold straight at h
  rcases List.mem_append.mp h with h | h
  · split at h
    · exact .inl (List.eq_of_mem_replicate h)
    · exact nomatch h
  · exact .inr (mem_st h)
noncomputable def tot (ns : List (List Tk)) : Nat := (ns.map fun p => p.length + 1).sum
theorem tot_cons (p : List Tk) (ns : List (List Tk)) : tot (p :: ns) = p.length + 1 + tot ns := by simp [tot]
theorem tot_app (a b : List (List Tk)) : tot (a ++ b) = tot a + tot b := by simp [tot]
theorem glueT_len : ∀ ns : List (List Tk), (glueT ns).length ≤ tot ns
  | [] => Nat.le_refl _
  | a :: r => by
    rw [tot_cons]
    have : (r.flatMap fun p => (47, false) :: p).length = tot r := by
      clear a
      induction r with
      | nil => rfl
      | cons a r ih => rw [List.flatMap_cons, List.length_append, ih, tot_cons]; rfl
    show (a ++ r.flatMap fun p => (47, false) :: p).length ≤ _
    rw [List.length_append, this]; omega
theorem rootT_len (n : Nat) : (rootT n).length ≤ 2 := by unfold rootT; split; simp; split <;> simp
theorem path_len (n : Nat) (ns : List (List Tk)) : (pathT n ns).length ≤ tot ns + 2 := by
  unfold pathT
  split
  · simp
  · have := glueT_len ns; have := rootT_len n; rw [List.length_append]; omega
theorem tot_st : ∀ ns : List (List Tk), tot (ns.foldr stStep ([], 0)).1 + 3 * (ns.foldr stStep ([], 0)).2 ≤ tot ns
  | [] => Nat.le_refl _
  | x :: ns => by
    rw [List.foldr_cons, tot_cons]
    have ih := tot_st ns
    generalize ns.foldr stStep ([], 0) = st at *
    unfold stStep
    split
    · rename_i h
      have : x.length = 2 := by have := congrArg List.length h; simpa [wordOf] using this
      dsimp only; omega
    · split
      · dsimp only; omega
      · split
        · dsimp only; rw [tot_cons]; omega
        · omega
theorem tot_straight (r : Bool) (ns : List (List Tk)) : tot (straight r ns) ≤ tot ns := by
  have h := tot_st ns
  unfold straight
  rw [tot_app]
  have e : ∀ k, tot (List.replicate k ddT) = 3 * k := by
    intro k
    induction k with
    | zero => rfl
    | succ k ih => rw [List.replicate_succ, tot_cons, ih]; simp; omega
  split
  · rw [e]; omega
  · show 0 + _ ≤ _
    omega
theorem st_count : ∀ ns : List (List Tk), (ns.foldr stStep ([], 0)).1.length + (ns.foldr stStep ([], 0)).2 ≤ ns.length
  | [] => Nat.le_refl _
  | x :: ns => by
    rw [List.foldr_cons, List.length_cons]
    have ih := st_count ns
    generalize ns.foldr stStep ([], 0) = st at *
    unfold stStep
    split
    · dsimp only; omega
    · split
      · dsimp only; omega
      · split
        · dsimp only; rw [List.length_cons]; omega
        · omega
theorem straight_count (r : Bool) (ns : List (List Tk)) : (straight r ns).length ≤ ns.length := by
  have h := st_count ns
  unfold straight
  rw [List.length_append]
  split
  · rw [List.length_replicate]; omega
  · show 0 + _ ≤ _
    omega
theorem toks_len (l : List Nat) : (toksOf l).length = l.length := by
  have := congrArg List.length (toks_word l)
  simpa using this
theorem tot_names (l : List Nat) : tot (names slT (toksOf l)) ≤ l.length + 1 := by
  have h := cuts_sum slT (toksOf l)
  rw [toks_len] at h
  rw [← h]
  exact sum_sub _ List.filter_sublist
theorem tot_from (parts : List (List Nat)) (first : Nat) : tot (namesFrom parts first) ≤ (parts.map fun p => p.length + 1).sum := by
  have h1 : ∀ ps : List (List Nat), tot (ps.flatMap fun p => names slT (toksOf p)) ≤ (ps.map fun p => p.length + 1).sum := by
    intro ps
    induction ps with
    | nil => exact Nat.le_refl _
    | cons p ps ih =>
      rw [List.flatMap_cons, tot_app, List.map_cons, List.sum_cons]
      have := tot_names p
      omega
  exact Nat.le_trans (h1 _) (sum_sub _ (List.drop_sublist _ _))
theorem tot_mem {ns : List (List Tk)} {p : List Tk} (h : p ∈ ns) : p.length ≤ tot ns := by
  induction ns with
  | nil => exact nomatch h
  | cons a ns ih =>
    rw [tot_cons]
    rcases List.mem_cons.mp h with rfl | h
    · omega
    · have := ih h; omega
theorem tot_count (ns : List (List Tk)) : ns.length ≤ tot ns := by
  induction ns with
  | nil => exact Nat.le_refl _
  | cons a ns ih => rw [tot_cons, List.length_cons]; omega
theorem wr_le {α : Type} {e : α → List Nat} (he : ∀ a, (e a).length ≤ 3) (l : List α) : (wr e l).length ≤ 3 * l.length := by
  induction l with
  | nil => exact Nat.le_refl _
  | cons a l ih => rw [wr_cons, List.length_append, List.length_cons]; have := he a; omega
theorem e2_le (t : Tk) : (e2 t).length ≤ 3 := by unfold e2; split; simp [hex2]; unfold btab; split <;> simp [hex2]
theorem e3_le (t : Tk) : (e3 t).length ≤ 3 := by unfold e3 htab; split; simp; split <;> simp [hex2]
theorem mem_from {parts : List (List Nat)} {first : Nat} {p : List Tk} (h : p ∈ namesFrom parts first) : ∃ q ∈ parts, p <:+: toksOf q := by
  obtain ⟨q, hq, h⟩ := List.mem_flatMap.mp h
  exact ⟨q, List.mem_of_mem_drop hq, names_infix h⟩
theorem calm_from {parts : List (List Nat)} {first : Nat} : ∀ p ∈ namesFrom parts first, Calm p := fun p hp => by
  obtain ⟨q, _, h⟩ := mem_from hp
  exact calm_infix (calm_toks q) h
theorem ok_from {parts : List (List Nat)} {first : Nat} (h : ∀ p ∈ parts, ∀ c ∈ p, c < 256 ∧ c ≠ 13) : ∀ p ∈ namesFrom parts first, OkT p := fun p hp => by
  obtain ⟨q, hq, h'⟩ := mem_from hp
  exact fun t ht => ok_toks (h q hq) t (h'.subset ht)
/-- the bare signs at a path's end are the last name's -/
theorem bares_app {p : List Tk} {q : List Tk} : bares (p ++ (47, false) :: q) = bares q := by
  unfold bares
  rw [List.reverse_append, List.reverse_cons, List.append_assoc]
  generalize q.reverse = r
  induction r with
  | nil => simp
  | cons a r ih =>
    rw [List.cons_append, List.takeWhile_cons, List.takeWhile_cons]
    split
    · rw [List.length_cons, ih, List.length_cons]
    · rfl
theorem bares_glue : ∀ ns : List (List Tk), bares (glueT ns) = (ns.getLast?.map bares).getD 0
  | [] => rfl
  | [a] => by show bares (a ++ []) = _; rw [List.append_nil]; rfl
  | a :: b :: r => by
    have ih := bares_glue (b :: r)
    show bares (a ++ (47, false) :: glueT (b :: r)) = _
    rw [bares_app, ih]
    rfl
theorem bares_rooted (n : Nat) (q : List Tk) : bares (rootT n ++ q) = bares q := by
  unfold rootT
  split
  · rfl
  · split
    · exact bares_app (p := [(47, false)])
    · exact bares_app (p := [])
theorem bares_path (n : Nat) (ns : List (List Tk)) : bares (pathT n ns) = (ns.getLast?.map bares).getD 0 := by
  unfold pathT
  split
  · rename_i h
    have h2 : glueT ns = [] := (List.append_eq_nil_iff.mp h).2
    have := bares_glue ns
    rw [h2] at this
    rw [← this]; rfl
  · rw [bares_rooted, bares_glue]
theorem path_ne (n : Nat) (ns : List (List Tk)) : pathT n ns ≠ [] := by
  unfold pathT
  split
  · simp
  · assumption
theorem dec_answer (n : Nat) (ns : List (List Tk)) : decAns (pathT n ns) = (pathL (rootL n) (ns.map wordOf)).take ((pathL (rootL n) (ns.map wordOf)).length - (ns.getLast?.map bares).getD 0) := by
  rw [textP, ← bares_path n ns, decAns, strip_take, ← wordOf_wr, wordOf, List.length_map, ← List.map_take]
end Mine
end

section
open PySem
set_option maxRecDepth 100000
namespace Mine
/-- one more sign behind the last part -/
noncomputable def putLast (ps : List (List Nat)) (c : Nat) : List (List Nat) := ps.dropLast ++ [ps.getLast?.getD [] ++ [c]]
noncomputable def octOf (x : Int) : Nat := if ((x.fdiv 8).fmod 256).toNat = 13 then 10 else ((x.fdiv 8).fmod 256).toNat
noncomputable def signOf (k : Nat) : Nat := [47, 47, 46, 46, 97, 32].getD (k - 1) 0
/-- one turn of the loop that builds the parts -/
noncomputable def pStep (ps : List (List Nat)) (x : Int) : List (List Nat) :=
  if x.fmod 8 = 0 then ps ++ [List.replicate ((x.fdiv 8).fmod 6 - 2).toNat 47]
  else putLast ps (if x.fmod 8 = 7 then octOf x else signOf (x.fmod 8).toNat)
noncomputable def partsOf (xs : List Int) : List (List Nat) := xs.foldl pStep [[]]
theorem octOf_ok (x : Int) : octOf x < 256 ∧ octOf x ≠ 13 := by
  have h1 := Int.fmod_nonneg_of_pos (x.fdiv 8) (show (0 : Int) < 256 by decide)
  have h2 := Int.fmod_lt_of_pos (x.fdiv 8) (show (0 : Int) < 256 by decide)
  unfold octOf
  split
  · decide
  · rename_i h; exact ⟨by omega, h⟩
theorem signOf_ok (k : Nat) : signOf k < 256 ∧ signOf k ≠ 13 := by
  unfold signOf
  rcases h : k - 1 with _ | _ | _ | _ | _ | _ | n <;> simp
noncomputable def OkP (ps : List (List Nat)) : Prop := ∀ p ∈ ps, ∀ c ∈ p, c < 256 ∧ c ≠ 13
theorem putLast_ok {ps : List (List Nat)} {c : Nat} (h : OkP ps) (hc : c < 256 ∧ c ≠ 13) : OkP (putLast ps c) := by
  intro p hp d hd
  rcases List.mem_append.mp hp with hp | hp
  · exact h p ((List.dropLast_sublist ps).subset hp) d hd
  · rw [List.mem_singleton.mp hp] at hd
    rcases List.mem_append.mp hd with hd | hd
    · cases hl : ps.getLast? with
      | none => rw [hl] at hd; exact nomatch hd
      | some q => rw [hl] at hd; exact h q (List.mem_of_getLast? hl) d hd
    · rw [List.mem_singleton.mp hd]; exact hc
theorem pStep_ok {ps : List (List Nat)} (h : OkP ps) (x : Int) : OkP (pStep ps x) := by
  unfold pStep
  split
  · intro p hp d hd
    rcases List.mem_append.mp hp with hp | hp
    · exact h p hp d hd
    · rw [List.mem_singleton.mp hp] at hd
      rw [List.eq_of_mem_replicate hd]; decide
  · refine putLast_ok h ?_
    split
    · exact octOf_ok x
    · exact signOf_ok _
noncomputable def ptot (ps : List (List Nat)) : Nat := (ps.map fun p => p.length + 1).sum
theorem ptot_app (a b : List (List Nat)) : ptot (a ++ b) = ptot a + ptot b := by simp [ptot]
theorem ptot_put {ps : List (List Nat)} (h : ps ≠ []) (c : Nat) : ptot (putLast ps c) = ptot ps + 1 := by
  rcases List.eq_nil_or_concat ps with rfl | ⟨q, z, rfl⟩
  · exact absurd rfl h
  · rw [List.concat_eq_append, putLast, List.dropLast_concat, List.getLast?_concat, ptot_app, ptot_app]
    simp [ptot]
    omega
theorem putLast_len {ps : List (List Nat)} (h : ps ≠ []) (c : Nat) : (putLast ps c).length = ps.length := by
  rcases List.eq_nil_or_concat ps with rfl | ⟨q, z, rfl⟩
  · exact absurd rfl h
  · rw [List.concat_eq_append, putLast, List.dropLast_concat]; simp
theorem pStep_ne {ps : List (List Nat)} (x : Int) : pStep ps x ≠ [] := by
  unfold pStep putLast
  split <;> simp
theorem pStep_tot {ps : List (List Nat)} (h : ps ≠ []) (x : Int) : ptot (pStep ps x) ≤ ptot ps + 4 := by
  have h2 := Int.fmod_lt_of_pos (x.fdiv 8) (show (0 : Int) < 6 by decide)
  unfold pStep
  split
  · rw [ptot_app]
    simp [ptot]
    omega
  · rw [ptot_put h]; omega
theorem parts_inv : ∀ (xs : List Int) (ps : List (List Nat)), ps ≠ [] → OkP ps → OkP (xs.foldl pStep ps) ∧ ptot (xs.foldl pStep ps) ≤ ptot ps + 4 * xs.length ∧ xs.foldl pStep ps ≠ []
  | [], ps, h, ho => ⟨ho, Nat.le_refl _, h⟩
  | x :: xs, ps, h, ho => by
    have ih := parts_inv xs (pStep ps x) (pStep_ne x) (pStep_ok ho x)
    have := pStep_tot h x
    rw [List.foldl_cons, List.length_cons]
    exact ⟨ih.1, by omega, ih.2.2⟩
noncomputable def Opens (ps : List (List Nat)) : Prop := ∃ r t, ps = [] :: (97 :: r) :: t
theorem putLast_cons {a b : List Nat} {t : List (List Nat)} {c : Nat} : putLast (a :: b :: t) c = a :: putLast (b :: t) c := by
  unfold putLast
  rw [List.dropLast_cons_of_ne_nil (by simp), List.getLast?_cons_cons]; rfl
theorem pStep_opens {ps : List (List Nat)} (h : Opens ps) (x : Int) : Opens (pStep ps x) := by
  obtain ⟨r, t, rfl⟩ := h
  unfold pStep
  split
  · exact ⟨r, t ++ [_], rfl⟩
  · generalize (if x.fmod 8 = 7 then octOf x else signOf (x.fmod 8).toNat) = c
    rw [putLast_cons]
    cases t with
    | nil => exact ⟨r ++ [c], [], by simp [putLast]⟩
    | cons b t => rw [putLast_cons]; exact ⟨r, _, rfl⟩
theorem fold_opens : ∀ (xs : List Int) (ps : List (List Nat)), Opens ps → Opens (xs.foldl pStep ps)
  | [], _, h => h
  | x :: xs, ps, h => fold_opens xs _ (pStep_opens h x)
theorem opens0 : [(0 : Int), 5, 6, 1, 3].foldl pStep [[]] = [[], [97, 32, 47, 46]] := by decide
theorem parts_facts (xs : List Int) (hx : xs.length ≤ 16) : OkP (partsOf ([0, 5, 6, 1, 3] ++ xs)) ∧ ptot (partsOf ([0, 5, 6, 1, 3] ++ xs)) ≤ 85 ∧ Opens (partsOf ([0, 5, 6, 1, 3] ++ xs)) := by
  have h1 := parts_inv ([0, 5, 6, 1, 3] ++ xs) [[]] (by simp) (fun p hp c hc => by rw [List.mem_singleton.mp hp] at hc; exact nomatch hc)
  refine ⟨h1.1, ?_, ?_⟩
  · have := h1.2.1
    have e : ptot [[]] = 1 := rfl
    rw [List.length_append, e] at this
    simp only [List.length_cons, List.length_nil] at this
    exact Nat.le_trans this (by omega)
  · unfold partsOf
    rw [List.foldl_append, opens0]
    exact fold_opens xs _ ⟨[32, 47, 46], [], rfl⟩
/-- the last part with a slash ahead -/
noncomputable def rootsOf (ps : List (List Nat)) : List Nat := (List.range ps.length).filter fun i => (ps.getD i []).take 1 == [47]
noncomputable def firstOf (ps : List (List Nat)) : Nat := (rootsOf ps).foldl max 0
theorem foldl_max : ∀ (l : List Nat) (a : Nat), a ≤ l.foldl max a ∧ (∀ x ∈ l, x ≤ l.foldl max a) ∧ (l.foldl max a = a ∨ l.foldl max a ∈ l)
  | [], a => ⟨Nat.le_refl _, (fun _ h => nomatch h), .inl rfl⟩
  | x :: l, a => by
    obtain ⟨h1, h2, h3⟩ := foldl_max l (max a x)
    rw [List.foldl_cons]
    refine ⟨by omega, fun y hy => ?_, ?_⟩
    · rcases List.mem_cons.mp hy with rfl | hy
      · omega
      · exact h2 y hy
    · rcases h3 with h3 | h3
      · rw [h3]
        rcases Nat.le_total a x with h | h
        · exact .inr (by rw [Nat.max_eq_right h]; exact .head _)
        · exact .inl (Nat.max_eq_left h)
      · exact .inr (.tail _ h3)
theorem take1_head (p : List Nat) : (p.take 1 == [47]) = true ↔ p.head? = some 47 := by
  cases p with
  | nil => simp
  | cons a p => simp
theorem first_ok {ps : List (List Nat)} (h : ps ≠ []) : First ps (firstOf ps) (ps.getD (firstOf ps) []) := by
  obtain ⟨_, h2, h3⟩ := foldl_max (rootsOf ps) 0
  have hlt : firstOf ps < ps.length := by
    rcases h3 with h3 | h3
    · have : 0 < ps.length := List.length_pos_iff.mpr h
      unfold firstOf; omega
    · exact List.mem_range.mp (List.mem_filter.mp h3).1
  refine ⟨?_, ?_, ?_⟩
  · rw [List.getD_eq_getElem?_getD, List.getElem?_eq_getElem hlt]; rfl
  · rcases h3 with h3 | h3
    · exact .inl h3
    · exact .inr ((take1_head _).mp (List.mem_filter.mp h3).2)
  · intro b hb q
    obtain ⟨j, hj, rfl⟩ := List.getElem_of_mem hb
    rw [List.length_drop] at hj
    rw [List.getElem_drop] at q
    have hm : firstOf ps + 1 + j ∈ rootsOf ps := by
      refine List.mem_filter.mpr ⟨List.mem_range.mpr (by omega), ?_⟩
      rw [take1_head, List.getD_eq_getElem?_getD, List.getElem?_eq_getElem (by omega)]
      exact q
    have := h2 _ hm
    unfold firstOf at *
    omega
theorem rootL_len (n : Nat) : ((rootL n).length != 0) = (n != 0) := by
  unfold rootL
  by_cases h : n = 0
  · subst h; rfl
  · rw [if_neg h]
    have : (n != 0) = true := by simpa using h
    rw [this]
    split <;> rfl
theorem opens_told {ps : List (List Nat)} (h : Opens ps) : rootT (lead sl47 (ps.getD (firstOf ps) [])) ++ glueT (namesFrom ps (firstOf ps)) ≠ [] := by
  obtain ⟨r, t, rfl⟩ := h
  have H := first_ok (ps := [] :: (97 :: r) :: t) (by simp)
  generalize firstOf ([] :: (97 :: r) :: t) = k at *
  rcases H.root with rfl | h
  · intro e
    have e2 := (List.append_eq_nil_iff.mp e).2
    have hm : ∃ p, p ∈ names slT (toksOf (97 :: r)) := by
      have ht : ∃ b r', toksOf (97 :: r) = (97, b) :: r' := by
        cases r with
        | nil => exact ⟨_, _, rfl⟩
        | cons c l => exact ⟨_, _, rfl⟩
      obtain ⟨b, r', ht⟩ := ht
      rw [ht]
      unfold names cuts
      rw [if_neg (by simp)]
      cases hc : cuts slT r' with
      | nil => exact ⟨[(97, b)], by simp [addHd, full]⟩
      | cons p q => exact ⟨(97, b) :: p, by simp [addHd, full]⟩
    obtain ⟨p, hp⟩ := hm
    have hpf : p ∈ namesFrom ([] :: (97 :: r) :: t) 0 := List.mem_flatMap.mpr ⟨97 :: r, .tail _ (.head _), hp⟩
    have hne := names_ne _ _ p hpf
    generalize namesFrom ([] :: (97 :: r) :: t) 0 = ns at *
    cases ns with
    | nil => exact nomatch hpf
    | cons a ns =>
      have ha := names_ne ([] :: (97 :: r) :: t) 0
      have e3 := (List.append_eq_nil_iff.mp e2)
      rcases List.mem_cons.mp hpf with rfl | hpf
      · exact hne e3.1
      · have : (ns.flatMap fun p => (47, false) :: p) ≠ [] := by
          cases ns with
          | nil => exact nomatch hpf
          | cons b ns => simp
        exact this e3.2
  · intro e
    have e2 := (List.append_eq_nil_iff.mp e).1
    generalize List.getD ([] :: (97 :: r) :: t) k [] = pf at *
    have : lead sl47 pf ≠ 0 := by
      cases pf with
      | nil => cases h
      | cons a p =>
        have : a = 47 := by simpa using h
        subst this
        simp [lead]
    unfold rootT at e2
    rw [if_neg this] at e2
    split at e2 <;> cases e2
end Mine
end

section
open PySem
set_option maxRecDepth 100000
namespace Mine
/-- what is known of the parts -/
structure PF (ps : List (List Nat)) : Prop where
  ok : OkP ps
  sum : ptot ps ≤ 85
  opens : Opens ps
noncomputable abbrev leadOf (ps : List (List Nat)) : Nat := lead sl47 (ps.getD (firstOf ps) [])
noncomputable abbrev nsOf (ps : List (List Nat)) : List (List Tk) := namesFrom ps (firstOf ps)
noncomputable abbrev stOf (ps : List (List Nat)) : List (List Tk) := straight (leadOf ps != 0) (nsOf ps)
noncomputable abbrev toldL (ps : List (List Nat)) : List Nat := pathL (rootL (leadOf ps)) ((stOf ps).map wordOf)
noncomputable abbrev keptL (ps : List (List Nat)) : List Nat := pathL (rootL (leadOf ps)) ((nsOf ps).map wordOf)
section
variable {ps : List (List Nat)}
theorem PF.ne (P : PF ps) : ps ≠ [] := by obtain ⟨r, t, rfl⟩ := P.opens; simp
theorem PF.first (P : PF ps) : First ps (firstOf ps) (ps.getD (firstOf ps) []) := first_ok P.ne
theorem law_raw (P : PF ps) {x : Str} {ys : List Str} (h : (x :: ys).map cs = ps) : cs (normF (joinF x ys)) = toldL ps := by
  have H := P.first
  rw [normF_cs, joinF_cs]
  subst h
  rw [show ys.map cs = (ys.map cs) from rfl, claim1 (x := cs x) (ps := ys.map cs) H, toldL, textP]
  rfl
theorem law_body (P : PF ps) {x : Str} {ys : List Str} (h : (x :: ys).map cs = ps.map fun p => wr e2 (toksOf p)) : cs (normF (joinF x ys)) = wr e2 (pathT (leadOf ps) (stOf ps)) := by
  have H := P.first
  rw [normF_cs, joinF_cs]
  obtain ⟨r, t, e⟩ := P.opens
  rw [e] at h
  have h1 : cs x = wr e2 (toksOf []) := by simpa using (List.cons.inj h).1
  have h2 : ys.map cs = ((97 :: r) :: t).map fun p => wr e2 (toksOf p) := (List.cons.inj h).2
  rw [h1, h2]
  rw [e] at H
  have := claim_wr W2 D2 H
  rw [this, e]
  rfl
theorem law_head (P : PF ps) {x : Str} {ys : List Str} (h : (x :: ys).map cs = ps.map fun p => p.flatMap htab) : cs (normF (joinF x ys)) = (keptL ps).flatMap htab := by
  have H := P.first
  have hn := opens_told P.opens
  rw [normF_cs, joinF_cs]
  have hk : (keptL ps).flatMap htab = wr e3 (pathT (leadOf ps) (nsOf ps)) := by
    rw [keptL, textP]
    generalize pathT (leadOf ps) (nsOf ps) = q
    induction q with
    | nil => rfl
    | cons a q ih => rw [wr_cons, wr_cons, List.flatMap_append, ih]; simp [e1, e3]
  rw [hk]
  obtain ⟨r, t, e⟩ := P.opens
  rw [e] at h
  have h1 : cs x = ([] : List Nat).flatMap htab := by simpa using (List.cons.inj h).1
  have h2 : ys.map cs = ((97 :: r) :: t).map fun p => p.flatMap htab := (List.cons.inj h).2
  rw [h1, h2]
  rw [e] at H hn
  have := claim3 H hn
  rw [this, e]
theorem PF.nsTot (P : PF ps) : Mine.tot (nsOf ps) ≤ 85 := Nat.le_trans (tot_from ps _) P.sum
theorem PF.stTot (P : PF ps) : Mine.tot (stOf ps) ≤ 85 := Nat.le_trans (tot_straight _ _) P.nsTot
theorem PF.nsOk (P : PF ps) : ∀ p ∈ nsOf ps, OkT p := ok_from P.ok
theorem ddT_ok : OkT ddT := by
  intro t ht
  have : t = (46, false) := by simpa using ht
  rw [this]
  exact ⟨by decide, by decide, fun h => nomatch h⟩
theorem ddT_calm : Calm ddT := ⟨(fun h => nomatch h), trivial⟩
theorem PF.stOk (P : PF ps) : ∀ p ∈ stOf ps, OkT p := fun p hp => by
  rcases mem_straight hp with rfl | hp
  · exact ddT_ok
  · exact P.nsOk p hp
theorem PF.stCalm (_P : PF ps) : ∀ p ∈ stOf ps, Calm p := fun p hp => by
  rcases mem_straight hp with rfl | hp
  · exact ddT_calm
  · exact calm_from p hp
theorem PF.len (P : PF ps) : ps.length ≤ 85 := by
  have : ∀ l : List (List Nat), l.length ≤ ptot l := by
    intro l
    induction l with
    | nil => exact Nat.le_refl _
    | cons a l ih => simp [ptot] at ih ⊢; omega
  exact Nat.le_trans (this ps) P.sum
theorem PF.mem (P : PF ps) {p : List Nat} (h : p ∈ ps) : p.length ≤ 85 := by
  have : ∀ l : List (List Nat), p ∈ l → p.length ≤ ptot l := by
    intro l
    induction l with
    | nil => exact fun h => nomatch h
    | cons a l ih =>
      intro hm
      have e : ptot (a :: l) = a.length + 1 + ptot l := by simp [ptot]
      rw [e]
      rcases List.mem_cons.mp hm with rfl | hm
      · omega
      · have := ih hm; omega
  exact Nat.le_trans (this ps h) P.sum
theorem PF.nsMem (P : PF ps) {l : List Tk} (h : l ∈ nsOf ps) : l.length ≤ 85 := Nat.le_trans (tot_mem h) P.nsTot
theorem PF.stMem (P : PF ps) {l : List Tk} (h : l ∈ stOf ps) : l.length ≤ 85 := Nat.le_trans (tot_mem h) P.stTot
theorem PF.nsLen (P : PF ps) : (nsOf ps).length ≤ 85 := Nat.le_trans (tot_count _) P.nsTot
theorem PF.stLen (P : PF ps) : (stOf ps).length ≤ 85 := Nat.le_trans (tot_count _) P.stTot
theorem PF.toldT_len (P : PF ps) : (pathT (leadOf ps) (stOf ps)).length ≤ 87 := Nat.le_trans (path_len _ _) (by have := P.stTot; omega)
theorem PF.keptT_len (P : PF ps) : (pathT (leadOf ps) (nsOf ps)).length ≤ 87 := Nat.le_trans (path_len _ _) (by have := P.nsTot; omega)
theorem PF.sent_len (P : PF ps) : (wr e2 (pathT (leadOf ps) (stOf ps))).length ≤ 261 := Nat.le_trans (wr_le e2_le _) (by have := P.toldT_len; omega)
theorem PF.told_len (P : PF ps) : (toldL ps).length ≤ 87 := by
  rw [toldL, textP, ← wordOf_wr, wordOf, List.length_map]; exact P.toldT_len
theorem PF.kept_len (P : PF ps) : (keptL ps).length ≤ 87 := by
  rw [keptL, textP, ← wordOf_wr, wordOf, List.length_map]; exact P.keptT_len
theorem PF.kept_ne (_P : PF ps) : keptL ps ≠ [] := by
  rw [keptL, textP, ← wordOf_wr, wordOf]
  intro q
  exact path_ne _ _ (List.map_eq_nil_iff.mp q)
theorem PF.kept_ok (P : PF ps) : ∀ c ∈ keptL ps, c < 256 := by
  intro c hc
  rw [keptL, textP, ← wordOf_wr, wordOf] at hc
  obtain ⟨t, ht, rfl⟩ := List.mem_map.mp hc
  exact (ok_path P.nsOk t ht).1
theorem PF.worded_len (P : PF ps) : ((keptL ps).flatMap htab).length ≤ 261 := by
  have := wr_le (e := htab) (fun a => e3_le (a, false)) (keptL ps)
  have := P.kept_len
  have e : wr htab (keptL ps) = (keptL ps).flatMap htab := rfl
  rw [← e]; omega
theorem law_dec (_P : PF ps) : decAns (pathT (leadOf ps) (stOf ps)) = (toldL ps).take ((toldL ps).length - ((stOf ps).getLast?.map bares).getD 0) := dec_answer _ _
/-- the texts' lengths together -/
theorem texts_sum {e : Nat → List Nat} (he : ∀ a, (e a).length ≤ 3) (ps : List (List Nat)) : ((ps.map fun p => p.flatMap e).map List.length).sum ≤ 3 * (ps.map List.length).sum := by
  induction ps with
  | nil => exact Nat.le_refl _
  | cons p ps ih =>
    have := wr_le he p
    have e : wr e p = p.flatMap e := rfl
    rw [e] at this
    simp only [List.map_cons, List.sum_cons] at ih ⊢
    omega
theorem ptot_eq (ps : List (List Nat)) : ptot ps = (ps.map List.length).sum + ps.length := by
  induction ps with
  | nil => rfl
  | cons p ps ih => simp [ptot] at ih ⊢; omega
end
end Mine
end

section
open PySem PySem.W PyProof.Rows PySem.Calls
set_option maxRecDepth 100000
set_option maxHeartbeats 0
namespace Mine
section
variable {prog : Program} {w : World} {A : Around} {E : Value → Shared → Prop} {s : Shared} {env : Env} {h₀ : Heap} {x : Str} {body : List Stmt} {Q : Flow → Shared → Prop}
theorem rng_small {n : Nat} (hn : n ≤ 100000) : Builtin.Range.small 0 (n : Nat) 1 = true := small_one (by decide) (by decide) (by omega) (by omega)
theorem rng_size (n : Nat) : Builtin.Range.rangeSize 0 (n : Nat) 1 = (n : Int) := by
  unfold Builtin.Range.rangeSize
  simp only [show (1 : Int) > 0 by decide, if_true]
  split <;> omega
/-- a loop over range(n) that rebinds the names -/
theorem iter_rangeN {L r : Addr} {b₀ : Int} {t₀ u₀ v₀ : Tok} {n : Nat} {m₀ : Str → Option Value} {news : List (Addr × Obj)} (names : List Str) (S : Nat → (Str → Option Value) → List (Addr × Obj) → Prop)
    (hL : env.locals = L) (hh : A.handled = none) (hr : IsRange s.heap r 0 b₀ 1 t₀ u₀ v₀) (hb : b₀ = (n : Nat)) (hn : n ≤ 100000) (F : Fr h₀ L s.heap m₀) (N : News h₀ L s.heap news) (hj : S 0 m₀ news)
    (turn : ∀ (I : Addr) (i : Nat) (t : Tok) (m₁ : Str → Option Value) (news₁ own : List (Addr × Obj)) (h : Heap) (tk : Nat) (oI : Obj), i < n → (∀ z, z ∉ names → m₁ z = m₀ z) → S i m₁ news₁ → (∀ p ∈ news₁, p.1 ≠ I) → (∀ p ∈ own, p.1 = I) → (I, oI) ∈ own →
      Fr h₀ L h (fun z => if z = x then some (.int (i : Nat) t) else m₁ z) → News h₀ L h (news₁ ++ own) →
      wpAny (model prog w) A (execs body env) (TE h₀ L I own (fun m news => (∀ z, z ∉ names → m z = m₀ z) ∧ S (i + 1) m news) { s with heap := h, toks := tk } Q) E { s with heap := h, toks := tk })
    (done : ∀ (m₁ : Str → Option Value) (news₁ : List (Addr × Obj)) (h : Heap) (tk : Nat), (∀ z, z ∉ names → m₁ z = m₀ z) → S n m₁ news₁ → Fr h₀ L h m₁ → News h₀ L h news₁ → Q .next { s with heap := h, toks := tk }) :
    wpAny (model prog w) A (pyIter (.ref r)) (fun it s₂ => LoopAtV prog w A h₀ env x body Q E it s₂) E s := by
  subst hL
  subst hb
  refine wpAny_pyIter_range hr (rng_small hn) ?_
  have W := Walks.range (prog := prog) (w := w) hh s.heap.objs.size 0 1 n
  refine loop_walk (I := s.heap.objs.size) (fun i m news => (∀ z, z ∉ names → m z = m₀ z) ∧ S i m news) W ?_ ?_ ?_ (by show IsRangeIter _ _ _ _ _; rw [rng_size]; simpa using Heap.get?_push_size _ rfl) ?_ (F.push _) (fun p hp => ⟨Heap.get?_push_of_some _ (N p hp).1, (N p hp).2⟩) ⟨fun _ _ => rfl, hj⟩ ?_ ?_
  · intro hm
    exact absurd F.ns.lt ((List.mem_singleton.mp hm) ▸ Nat.lt_irrefl _)
  · exact next_is_new F
  · intro p hp hI
    exact absurd (Heap.lt_size (N p hp).1) (hI ▸ Nat.lt_irrefl _)
  · intro i h st; exact ⟨_, st⟩
  · rintro i v m₁ news₁ own h tk oI hi ⟨t, rfl⟩ ⟨hm, hS⟩ h1 h2 h3 hst F₁ N₁
    have e : (0 : Int) + (i : Int) * 1 = (i : Nat) := by omega
    rw [e] at F₁
    exact turn s.heap.objs.size i t m₁ news₁ own h tk oI hi hm hS h1 (fun p hp => List.mem_singleton.mp (h2 p hp)) h3 F₁ N₁
  · rintro m₁ news₁ h tk ⟨hm, hS⟩ F₁ N₁
    exact done m₁ news₁ h tk hm hS F₁ N₁
/-- a comprehension over range(n) -/
theorem comp_range {elt iter : PySem.Expr} {x : Str} {px : Pos} {ifs : List PySem.Expr} {scope : Scope} {cl : List (Str × Addr)} {pos : Pos} {Q : Value → Shared → Prop}
    (hclos : closureFor scope env = pure cl) (hcell : ∀ y ∈ scope.names, y.2 ≠ .cell) (hkind : scope.kind = .function)
    (hnames : ∀ y ∈ scope.names, y.2 = .local → scope.names.lookup y.1 = some .local) (hx : scope.names.lookup x = some .local) (hh : A.handled = none)
    (h : wpAny (model prog w) A (eval iter env) (fun xv s₁ => Hold (∃ (r : Addr) (b₀ : Int) (t₀ u₀ v₀ : Tok) (n : Nat) (S : Nat → List Value → List (Addr × Obj) → Prop), xv = .ref r ∧ IsRange s₁.heap r 0 b₀ 1 t₀ u₀ v₀ ∧ b₀ = (n : Nat) ∧ n ≤ 10000 ∧ (∀ i ys made, S i ys made → ys.length ≤ i) ∧ S 0 [] [] ∧
      (∀ (I C D : Addr) (i : Nat) (t : Tok) (m₁ : Str → Option Value) (ys : List Value) (k : Nat) (made : List (Addr × Obj)) (oI : Obj) (h : Heap) (tk : Nat) (E' : Value → Shared → Prop), i < n → S i ys made → Fr s₁.heap C h (fun y => if y = x then some (.int (i : Nat) t) else m₁ y) → News s₁.heap C h ((D, W.listOf ys.toArray k) :: (I, oI) :: made) → (∀ p ∈ made, p.1 ≠ D ∧ p.1 ≠ I) → D ≠ I →
        wpAny (model prog w) A (forIn ifs true fun c r => if r = true then do let ok ← isTrue c (compEnvC scope cl C env) (eval c (compEnvC scope cl C env)); pure (ForInStep.yield ok) else pure (ForInStep.yield r)) (fun ok s₃ =>
          if ok = true then wpAny (model prog w) A (eval elt (compEnvC scope cl C env)) (fun y s₄ => CE s₁.heap C D I oI ys k (S (i + 1)) { s₁ with heap := h, toks := tk } (ys ++ [y]) s₄) E' s₃
          else CE s₁.heap C D I oI ys k (S (i + 1)) { s₁ with heap := h, toks := tk } ys s₃) E' { s₁ with heap := h, toks := tk }) ∧
      (∀ D ys k made h tk, S n ys made → (∀ b o, s₁.heap.get? b = some o → h.get? b = some o) → (∀ p ∈ (D, W.listOf ys.toArray k) :: made, h.get? p.1 = some p.2 ∧ s₁.heap.get? p.1 = none) → Q (.ref D) { s₁ with heap := h, toks := tk }))) E s)
    (hs : ∀ x, foldedSetIterable iter env x = pure x := by intro _; rfl) :
    wpAny (model prog w) A (eval (.ListComp elt [⟨.Name x px, iter, ifs, 0⟩] scope pos) env) Q E s := by
  refine comp_walk hclos hcell hkind hnames hx (wpAny_mono h (fun xv s₁ h₁ => ?_) fun _ _ e => e) hs
  obtain ⟨r, b₀, t₀, u₀, v₀, n, S, rfl, hr, rfl, hlen, hys, h0, turn, done⟩ := h₁
  refine wpAny_pyIter_range hr (rng_small (by omega)) ?_
  refine ⟨s₁.heap.objs.size, _, _, _, _, s₁.heap, S, rfl, Walks.range hh s₁.heap.objs.size 0 1 n, ?_, ?_, objs_none _, hlen, hys, (by show IsRangeIter _ _ _ _ _; rw [rng_size]; simpa using Heap.get?_push_size _ rfl), h0, fun b o e => Heap.get?_push_of_some _ e, ?_, ?_, ?_⟩
  · intro i h st; exact ⟨_, st⟩
  · intro b hb
    exact .inl (List.mem_singleton.mp hb)
  · show s₁.heap.objs.size ≤ (s₁.heap.push _).objs.size
    rw [Heap.size_push]; exact Nat.le_succ _
  · rintro C D i v m₁ ys k made oI h tk E' hi ⟨t, rfl⟩ hS F N hm hD
    have e : (0 : Int) + (i : Int) * 1 = (i : Nat) := by omega
    rw [e] at F
    exact turn _ C D i t m₁ ys k made oI h tk E' hi hS F N hm hD
  · intro D ys k made h tk hS hk hp
    exact done D ys k made h tk hS hk hp
end
end Mine
end

section
open PySem PySem.W PyProof.Rows
set_option maxRecDepth 100000
set_option maxHeartbeats 0
namespace MineHd
noncomputable abbrev PX : Program := Challenge.rw_pd0176_01.row.toRowW.1
/-- the statement at a place of the program's top, or of a class's body there -/
noncomputable def defAt (i : Nat) (j : Option Nat) : Option Stmt := match j with
  | none => PX.main.body[i]?
  | some j => match PX.main.body[i]? with
    | some (.ClassDef (body := body) ..) => body[j]?
    | _ => none
/-- the function that the def at that place makes -/
noncomputable def fnD (i : Nat) (j : Option Nat) (qual : Str) (g : Addr) (cl : List (Str × Addr)) (dv kv doc pm : Value) (an : Option Addr) (cd ct : Value) (b : Addr) : FuncData := match defAt i j with
  | some (.FunctionDef (name := name) (args := args) (body := body) (scope := scope) ..) => ⟨name, qual, args, .stmts body, scope, g, cl, dv, kv, doc, pm, an, cd, ct, b⟩
  | _ => default
noncomputable def K (P : Params) : Frag := (
 (nat_lit 2, (.mk .none none (.dict #[(.mk (PyData.keyHash P "\x69mport.loaded._sre") (.str "\x69mport.loaded._sre" 183) (.bool true)), (.mk (PyData.keyHash P "class._frozen_importlib.BuiltinImporter") (.str "class._frozen_importlib.BuiltinImporter" 185) (.ref 14)), (.mk (PyData.keyHash P "watched.\x69mport") (.str "watched.\x69mport" 206) (.ref 18)), (.mk (PyData.keyHash P "class._frozen_importlib.ModuleSpec") (.str "class._frozen_importlib.ModuleSpec" 216) (.ref 22)), (.mk (PyData.keyHash P "sys.modules.booked-epoch") (.str "sys.modules.booked-epoch" 245) (.int 3 0)), (.mk (PyData.keyHash P "\x69mport.later-laid._sre") (.str "\x69mport.later-laid._sre" 270) (.bool true)), (.mk (PyData.keyHash P "watched.library") (.str "watched.library" 272) (.ref 27)), (.mk (PyData.keyHash P "watched.library-objects") (.str "watched.library-objects" 0) (.str "\x0c" 0)), (.mk (PyData.keyHash P "watched.library-deep._sre") (.str "watched.library-deep._sre" 273) (.str "\x04\x00\x00\x0b\x04\x00\x00\x0b\x04\x00\x00\x03\x04\x00\x00\x0b\x08\x04dict\x02" 0))] 9) #[])) ::
 (nat_lit 3, (.mk (.type "dict") none (.dict #[(.mk (PyData.keyHash P "__name__") (.str "__name__" 165) (.str "law_pd0176_01" 2106)), (.mk (PyData.keyHash P "__doc__") (.str "__doc__" 166) .none), (.mk (PyData.keyHash P "__package__") (.str "__package__" 167) .none), (.mk (PyData.keyHash P "__loader__") (.str "__loader__" 168) (.builtin "__main__.__loader__#opaque")), (.mk (PyData.keyHash P "__spec__") (.str "__spec__" 169) .none), (.mk (PyData.keyHash P "__annotations__") (.str "__annotations__" 170) (.ref 6)), (.mk (PyData.keyHash P "__builtins__") (.str "__builtins__" 171) (.ref 4)), (.mk (PyData.keyHash P "__file__") (.str "__file__" 173) (.str "/claim/cut.py" 172)), (.mk (PyData.keyHash P "__cached__") (.str "__cached__" 174) .none), (.mk (PyData.keyHash P "_sre") (.str "_sre" 275) (.ref 12)), (.mk (PyData.keyHash P "_wall") (.str "_wall" 288) (.ref 38)), (.mk (PyData.keyHash P "_plain_name") (.str "_plain_name" 299) (.ref 45)), (.mk (PyData.keyHash P "ABCMeta") (.str "ABCMeta" 325) (.ref 62)), (.mk (PyData.keyHash P "_ABCLike") (.str "_ABCLike" 368) (.ref 95)), (.mk (PyData.keyHash P "_abc_plain_meta") (.str "_abc_plain_meta" 375) (.ref 104)), (.mk (PyData.keyHash P "fspath") (.str "fspath" 387) (.ref 111)), (.mk (PyData.keyHash P "_check_arg_types") (.str "_check_arg_types" 400) (.ref 118)), (.mk (PyData.keyHash P "_get_sep") (.str "_get_sep" 409) (.ref 125)), (.mk (PyData.keyHash P "join") (.str "join" 420) (.ref 132)), (.mk (PyData.keyHash P "splitroot") (.str "splitroot" 429) (.ref 139)), (.mk (PyData.keyHash P "normpath") (.str "normpath" 444) (.ref 146)), (.mk (PyData.keyHash P "_twin_re_1") (.str "_twin_re_1" 479) (.ref 151)), (.mk (PyData.keyHash P "CRLF") (.str "CRLF" 481) (.str "\r\n" 480)), (.mk (PyData.keyHash P "NL") (.str "NL" 483) (.str "\n" 482)), (.mk (PyData.keyHash P "_QUOPRI_MAP") (.str "_QUOPRI_MAP" 1511) (.ref 154)), (.mk (PyData.keyHash P "_QUOPRI_HEADER_MAP") (.str "_QUOPRI_HEADER_MAP" 1512) (.ref 159)), (.mk (PyData.keyHash P "_QUOPRI_BODY_MAP") (.str "_QUOPRI_BODY_MAP" 1513) (.ref 161)), (.mk (PyData.keyHash P "ascii_lowercase") (.str "ascii_lowercase" 1515) (.str "abcdefghijklmnopqrstuvwxyz" 1514)), (.mk (PyData.keyHash P "ascii_uppercase") (.str "ascii_uppercase" 1517) (.str "ABCDEFGHIJKLMNOPQRSTUVWXYZ" 1516)), (.mk (PyData.keyHash P "ascii_letters") (.str "ascii_letters" 1519) (.str "abcdefghijklmnopqrstuvwxyzABCDEFGHIJKLMNOPQRSTUVWXYZ" 1518)), (.mk (PyData.keyHash P "digits") (.str "digits" 1521) (.str "0123456789" 1520)), (.mk (PyData.keyHash P "hexdigits") (.str "hexdigits" 1526) (.str "0123456789abcdefABCDEF" 1525)), (.mk (PyData.keyHash P "unquote") (.str "unquote" 2032) (.ref 174)), (.mk (PyData.keyHash P "quote") (.str "quote" 2039) (.ref 181)), (.mk (PyData.keyHash P "header_encode") (.str "header_encode" 2049) (.ref 189)), (.mk (PyData.keyHash P "_QUOPRI_BODY_ENCODE_MAP") (.str "_QUOPRI_BODY_ENCODE_MAP" 2050) (.ref 191)), (.mk (PyData.keyHash P "body_encode") (.str "body_encode" 2077) (.ref 202)), (.mk (PyData.keyHash P "decode") (.str "decode" 2090) (.ref 210)), (.mk (PyData.keyHash P "_unquote_match") (.str "_unquote_match" 2098) (.ref 217)), (.mk (PyData.keyHash P "header_decode") (.str "header_decode" 2105) (.ref 224)), (.mk (PyData.keyHash P "_law_parts") (.str "_law_parts" 2118) (.ref 231)), (.mk (PyData.keyHash P "_law_names") (.str "_law_names" 2124) (.ref 236)), (.mk (PyData.keyHash P "_law_straight") (.str "_law_straight" 2130) (.ref 241)), (.mk (PyData.keyHash P "_law_text") (.str "_law_text" 2136) (.ref 246)), (.mk (PyData.keyHash P "_law_bare_end") (.str "_law_bare_end" 2144) (.ref 253)), (.mk (PyData.keyHash P "_law_worded") (.str "_law_worded" 2152) (.ref 260)), (.mk (PyData.keyHash P "law") (.str "law" 2158) (.ref 265))] 49) #[])) ::
 (nat_lit 32, (.mk (.type "tuple") none (.seq #[] 0) #[])) ::
 (nat_lit 34, (.mk (.type "tuple") none (.seq #[(.str "k" 285)] 0) #[])) ::
 (nat_lit 35, (.mk (.type "tuple") none (.seq #[] 0) #[])) ::
 (nat_lit 37, (.mk (.type "code") none (.fields #[(.str "_wall" 282), (.str "_wall" 283), (.str "/claim/cut.py" 284), (.int 2 0), (.int 1 0), (.int 0 0), (.int 0 0), (.int 3 0), (.ref 32), (.bool true), (.int 276 0), (.ref 33), .none, (.ref 34), (.ref 35), (.ref 36), (.int 286 0), (.int 2 0), (.str "/claim/cut.py" 287)]) #[])) ::
 (nat_lit 38, (.mk (.type "function") none (.func (fnD 1 none "_wall" 3 [] .none .none .none (.str "__main__" 164) none (.ref 37) .none 0)) #[])) ::
 (nat_lit 39, (.mk (.type "tuple") none (.seq #[] 0) #[])) ::
 (nat_lit 41, (.mk (.type "tuple") none (.seq #[(.str "x" 294), (.str "what" 295), (.str "kind" 296)] 0) #[])) ::
 (nat_lit 42, (.mk (.type "tuple") none (.seq #[] 0) #[])) ::
 (nat_lit 44, (.mk (.type "code") none (.fields #[(.str "_plain_name" 291), (.str "_plain_name" 292), (.str "/claim/cut.py" 293), (.int 6 0), (.int 2 0), (.int 0 0), (.int 0 0), (.int 3 0), (.ref 39), (.bool true), (.int 276 0), (.ref 40), .none, (.ref 41), (.ref 42), (.ref 43), (.int 297 0), (.int 6 0), (.str "/claim/cut.py" 298)]) #[])) ::
 (nat_lit 45, (.mk (.type "function") none (.func (fnD 3 none "_plain_name" 3 [] .none .none .none (.str "os" 289) none (.ref 44) .none 0)) #[])) ::
 (nat_lit 46, (.mk (.type "tuple") none (.seq #[(.type "type")] 0) #[])) ::
 (nat_lit 53, (.mk (.type "tuple") none (.seq #[] 0) #[])) ::
 (nat_lit 55, (.mk (.type "tuple") none (.seq #[(.str "cls" 317), (.str "subclass" 318)] 0) #[])) ::
 (nat_lit 56, (.mk (.type "tuple") none (.seq #[] 0) #[])) ::
 (nat_lit 58, (.mk (.type "code") none (.fields #[(.str "register" 314), (.str "ABCMeta.register" 315), (.str "/claim/cut.py" 316), (.int 14 0), (.int 2 0), (.int 0 0), (.int 0 0), (.int 3 0), (.ref 53), (.bool true), (.int 276 0), (.ref 54), .none, (.ref 55), (.ref 56), (.ref 57), (.int 319 0), (.int 14 0), (.str "/claim/cut.py" 320)]) #[])) ::
 (nat_lit 59, (.mk (.type "function") none (.func (fnD 5 (some 0) "ABCMeta.register" 3 [] .none .none .none (.str "abc" 300) none (.ref 58) .none 0)) #[])) ::
 (nat_lit 60, (.mk (.type "tuple") none (.seq #[] 0) #[])) ::
 (nat_lit 61, (.mk (.type "dict") none (.dict #[(.mk (PyData.keyHash P "__module__") (.str "__module__" 309) (.str "abc" 300)), (.mk (PyData.keyHash P "__firstlineno__") (.str "__firstlineno__" 313) (.int 12 312)), (.mk (PyData.keyHash P "register") (.str "register" 321) (.ref 59)), (.mk (PyData.keyHash P "__static_attributes__") (.str "__static_attributes__" 322) (.ref 60)), (.mk (PyData.keyHash P "__doc__") (.str "__doc__" 323) .none)] 2) #[])) ::
 (nat_lit 62, (.mk (.type "type") none (.cls (.mk "ABCMeta" [(.type "type")] [(.ref 62), (.type "type"), (.type "object")] 61 "ABCMeta" true [] [(.ref 95)] false none false)) #[(some (.ref 46)), none, (some (.str "ABCMeta" 302)), (some (.str "ABCMeta" 310)), (some (.builtin "type.__new__")), (some (.bool true))])) ::
 (nat_lit 65, (.mk (.type "tuple") none (.seq #[(.ref 62)] 0) #[])) ::
 (nat_lit 72, (.mk (.type "tuple") none (.seq #[] 0) #[])) ::
 (nat_lit 74, (.mk (.type "tuple") none (.seq #[(.str "cls" 343), (.str "\x69nstance" 344), (.str "C" 345)] 0) #[])) ::
 (nat_lit 75, (.mk (.type "tuple") none (.seq #[] 0) #[])) ::
 (nat_lit 77, (.mk (.type "code") none (.fields #[(.str "__instancecheck__" 340), (.str "_ABCLike.__instancecheck__" 341), (.str "/claim/cut.py" 342), (.int 19 0), (.int 2 0), (.int 0 0), (.int 0 0), (.int 3 0), (.ref 72), (.bool true), (.int 276 0), (.ref 73), .none, (.ref 74), (.ref 75), (.ref 76), (.int 346 0), (.int 19 0), (.str "/claim/cut.py" 347)]) #[])) ::
 (nat_lit 78, (.mk (.type "function") none (.func (fnD 7 (some 0) "_ABCLike.__instancecheck__" 3 [] .none .none .none (.str "collections.abc" 326) none (.ref 77) .none 0)) #[])) ::
 (nat_lit 79, (.mk (.type "tuple") none (.seq #[] 0) #[])) ::
 (nat_lit 81, (.mk (.type "tuple") none (.seq #[(.str "cls" 352), (.str "C" 353)] 0) #[])) ::
 (nat_lit 82, (.mk (.type "tuple") none (.seq #[] 0) #[])) ::
 (nat_lit 84, (.mk (.type "code") none (.fields #[(.str "__subclasscheck__" 349), (.str "_ABCLike.__subclasscheck__" 350), (.str "/claim/cut.py" 351), (.int 25 0), (.int 2 0), (.int 0 0), (.int 0 0), (.int 3 0), (.ref 79), (.bool true), (.int 276 0), (.ref 80), .none, (.ref 81), (.ref 82), (.ref 83), (.int 354 0), (.int 25 0), (.str "/claim/cut.py" 355)]) #[])) ::
 (nat_lit 85, (.mk (.type "function") none (.func (fnD 7 (some 1) "_ABCLike.__subclasscheck__" 3 [] .none .none .none (.str "collections.abc" 326) none (.ref 84) .none 0)) #[])) ::
 (nat_lit 86, (.mk (.type "tuple") none (.seq #[] 0) #[])) ::
 (nat_lit 88, (.mk (.type "tuple") none (.seq #[(.str "cls" 360), (.str "subclass" 361)] 0) #[])) ::
 (nat_lit 89, (.mk (.type "tuple") none (.seq #[] 0) #[])) ::
 (nat_lit 91, (.mk (.type "code") none (.fields #[(.str "register" 357), (.str "_ABCLike.register" 358), (.str "/claim/cut.py" 359), (.int 30 0), (.int 2 0), (.int 0 0), (.int 0 0), (.int 3 0), (.ref 86), (.bool true), (.int 276 0), (.ref 87), .none, (.ref 88), (.ref 89), (.ref 90), (.int 362 0), (.int 30 0), (.str "/claim/cut.py" 363)]) #[])) ::
 (nat_lit 92, (.mk (.type "function") none (.func (fnD 7 (some 2) "_ABCLike.register" 3 [] .none .none .none (.str "collections.abc" 326) none (.ref 91) .none 0)) #[])) ::
 (nat_lit 93, (.mk (.type "tuple") none (.seq #[] 0) #[])) ::
 (nat_lit 94, (.mk (.type "dict") none (.dict #[(.mk (PyData.keyHash P "__module__") (.str "__module__" 335) (.str "collections.abc" 326)), (.mk (PyData.keyHash P "__firstlineno__") (.str "__firstlineno__" 339) (.int 17 338)), (.mk (PyData.keyHash P "__instancecheck__") (.str "__instancecheck__" 348) (.ref 78)), (.mk (PyData.keyHash P "__subclasscheck__") (.str "__subclasscheck__" 356) (.ref 85)), (.mk (PyData.keyHash P "register") (.str "register" 364) (.ref 92)), (.mk (PyData.keyHash P "__static_attributes__") (.str "__static_attributes__" 365) (.ref 93)), (.mk (PyData.keyHash P "__doc__") (.str "__doc__" 366) .none)] 2) #[])) ::
 (nat_lit 95, (.mk (.type "type") none (.cls (.mk "_ABCLike" [(.ref 62)] [(.ref 95), (.ref 62), (.type "type"), (.type "object")] 94 "_ABCLike" true [] [] false none false)) #[(some (.ref 65)), none, (some (.str "_ABCLike" 328)), (some (.str "_ABCLike" 336)), (some (.builtin "type.__new__")), (some (.bool true))])) ::
 (nat_lit 98, (.mk (.type "tuple") none (.seq #[] 0) #[])) ::
 (nat_lit 100, (.mk (.type "tuple") none (.seq #[(.str "C" 372)] 0) #[])) ::
 (nat_lit 101, (.mk (.type "tuple") none (.seq #[] 0) #[])) ::
 (nat_lit 103, (.mk (.type "code") none (.fields #[(.str "_abc_plain_meta" 369), (.str "_abc_plain_meta" 370), (.str "/claim/cut.py" 371), (.int 32 0), (.int 1 0), (.int 0 0), (.int 0 0), (.int 3 0), (.ref 98), (.bool true), (.int 276 0), (.ref 99), .none, (.ref 100), (.ref 101), (.ref 102), (.int 373 0), (.int 32 0), (.str "/claim/cut.py" 374)]) #[])) ::
 (nat_lit 104, (.mk (.type "function") none (.func (fnD 8 none "_abc_plain_meta" 3 [] .none .none .none (.str "collections.abc" 326) none (.ref 103) .none 0)) #[])) ::
 (nat_lit 105, (.mk (.type "tuple") none (.seq #[] 0) #[])) ::
 (nat_lit 107, (.mk (.type "tuple") none (.seq #[(.str "path" 381), (.str "kind" 382), (.str "hook" 383), (.str "given" 384)] 0) #[])) ::
 (nat_lit 108, (.mk (.type "tuple") none (.seq #[] 0) #[])) ::
 (nat_lit 110, (.mk (.type "code") none (.fields #[(.str "fspath" 378), (.str "fspath" 379), (.str "/claim/cut.py" 380), (.int 36 0), (.int 1 0), (.int 0 0), (.int 0 0), (.int 3 0), (.ref 105), (.bool true), (.int 276 0), (.ref 106), .none, (.ref 107), (.ref 108), (.ref 109), (.int 385 0), (.int 36 0), (.str "/claim/cut.py" 386)]) #[])) ::
 (nat_lit 111, (.mk (.type "function") none (.func (fnD 10 none "fspath" 3 [] .none .none .none (.str "os" 376) none (.ref 110) .none 0)) #[])) ::
 (nat_lit 112, (.mk (.type "tuple") none (.seq #[] 0) #[])) ::
 (nat_lit 114, (.mk (.type "tuple") none (.seq #[(.str "funcname" 393), (.str "args" 394), (.str "hasstr" 395), (.str "hasbytes" 396), (.str "s" 397)] 0) #[])) ::
 (nat_lit 115, (.mk (.type "tuple") none (.seq #[] 0) #[])) ::
 (nat_lit 117, (.mk (.type "code") none (.fields #[(.str "_check_arg_types" 390), (.str "_check_arg_types" 391), (.str "/claim/cut.py" 392), (.int 53 0), (.int 1 0), (.int 0 0), (.int 0 0), (.int 7 0), (.ref 112), (.bool true), (.int 276 0), (.ref 113), .none, (.ref 114), (.ref 115), (.ref 116), (.int 398 0), (.int 53 0), (.str "/claim/cut.py" 399)]) #[])) ::
 (nat_lit 118, (.mk (.type "function") none (.func (fnD 12 none "_check_arg_types" 3 [] .none .none .none (.str "cpy313.genericpath" 388) none (.ref 117) .none 0)) #[])) ::
 (nat_lit 119, (.mk (.type "tuple") none (.seq #[] 0) #[])) ::
 (nat_lit 121, (.mk (.type "tuple") none (.seq #[(.str "path" 406)] 0) #[])) ::
 (nat_lit 122, (.mk (.type "tuple") none (.seq #[] 0) #[])) ::
 (nat_lit 124, (.mk (.type "code") none (.fields #[(.str "_get_sep" 403), (.str "_get_sep" 404), (.str "/claim/cut.py" 405), (.int 65 0), (.int 1 0), (.int 0 0), (.int 0 0), (.int 3 0), (.ref 119), (.bool true), (.int 276 0), (.ref 120), .none, (.ref 121), (.ref 122), (.ref 123), (.int 407 0), (.int 65 0), (.str "/claim/cut.py" 408)]) #[])) ::
 (nat_lit 125, (.mk (.type "function") none (.func (fnD 14 none "_get_sep" 3 [] .none .none .none (.str "cpy313.posixpath" 401) none (.ref 124) .none 0)) #[])) ::
 (nat_lit 126, (.mk (.type "tuple") none (.seq #[] 0) #[])) ::
 (nat_lit 128, (.mk (.type "tuple") none (.seq #[(.str "a" 413), (.str "p" 414), (.str "sep" 415), (.str "path" 416), (.str "b" 417)] 0) #[])) ::
 (nat_lit 129, (.mk (.type "tuple") none (.seq #[] 0) #[])) ::
 (nat_lit 131, (.mk (.type "code") none (.fields #[(.str "join" 410), (.str "join" 411), (.str "/claim/cut.py" 412), (.int 70 0), (.int 1 0), (.int 0 0), (.int 0 0), (.int 7 0), (.ref 126), (.bool true), (.int 276 0), (.ref 127), .none, (.ref 128), (.ref 129), (.ref 130), (.int 418 0), (.int 70 0), (.str "/claim/cut.py" 419)]) #[])) ::
 (nat_lit 132, (.mk (.type "function") none (.func (fnD 15 none "join" 3 [] .none .none .none (.str "cpy313.posixpath" 401) none (.ref 131) .none 0)) #[])) ::
 (nat_lit 133, (.mk (.type "tuple") none (.seq #[] 0) #[])) ::
 (nat_lit 135, (.mk (.type "tuple") none (.seq #[(.str "p" 424), (.str "sep" 425), (.str "empty" 426)] 0) #[])) ::
 (nat_lit 136, (.mk (.type "tuple") none (.seq #[] 0) #[])) ::
 (nat_lit 138, (.mk (.type "code") none (.fields #[(.str "splitroot" 421), (.str "splitroot" 422), (.str "/claim/cut.py" 423), (.int 87 0), (.int 1 0), (.int 0 0), (.int 0 0), (.int 3 0), (.ref 133), (.bool true), (.int 276 0), (.ref 134), .none, (.ref 135), (.ref 136), (.ref 137), (.int 427 0), (.int 87 0), (.str "/claim/cut.py" 428)]) #[])) ::
 (nat_lit 139, (.mk (.type "function") none (.func (fnD 16 none "splitroot" 3 [] .none .none .none (.str "cpy313.posixpath" 401) none (.ref 138) .none 0)) #[])) ::
 (nat_lit 140, (.mk (.type "tuple") none (.seq #[] 0) #[])) ::
 (nat_lit 142, (.mk (.type "tuple") none (.seq #[(.str "path" 433), (.str "sep" 434), (.str "dot" 435), (.str "dotdot" 436), (.str "_" 437), (.str "initial_slashes" 438), (.str "comps" 439), (.str "new_comps" 440), (.str "comp" 441)] 0) #[])) ::
 (nat_lit 143, (.mk (.type "tuple") none (.seq #[] 0) #[])) ::
 (nat_lit 145, (.mk (.type "code") none (.fields #[(.str "normpath" 430), (.str "normpath" 431), (.str "/claim/cut.py" 432), (.int 101 0), (.int 1 0), (.int 0 0), (.int 0 0), (.int 3 0), (.ref 140), (.bool true), (.int 276 0), (.ref 141), .none, (.ref 142), (.ref 143), (.ref 144), (.int 442 0), (.int 101 0), (.str "/claim/cut.py" 443)]) #[])) ::
 (nat_lit 146, (.mk (.type "function") none (.func (fnD 17 none "normpath" 3 [] .none .none .none (.str "cpy313.posixpath" 401) none (.ref 145) .none 0)) #[])) ::
 (nat_lit 150, (.mk (.type "tuple") none (.seq #[(.int 14 0), (.int 8 0), (.int 1 0), (.int 3 0), (.int 3 0), (.int 1 0), (.int 1 0), (.int 61 0), (.int 0 0), (.int 16 0), (.int 61 0), (.int 24 0), (.int 16 0), (.int 2 0), (.int 2 0), (.int 13 0), (.int 11 0), (.int 9 0), (.int 0 0), (.int 67043328 0), (.int 126 0), (.int 126 0), (.int 0 0), (.int 0 0), (.int 0 0), (.int 0 0), (.int 0 0), (.int 1 0), (.int 1 0)] 0) #[])) ::
 (nat_lit 151, (.mk (.type "re.Pattern") none (.fields #[(.str "=[a-fA-F0-9]{2}" 446), (.int 256 478), (.int 0 0), .none, .none, (.ref 150), (.int 0 0)]) #[])) ::
 (nat_lit 154, (.mk (.type "list") none (.seq (List.toArray ((.str "=00" 490) :: (.str "=01" 494) :: (.str "=02" 498) :: (.str "=03" 502) :: (.str "=04" 506) :: (.str "=05" 510) :: (.str "=06" 514) :: (.str "=07" 518) :: (.str "=08" 522) :: (.str "=09" 526) :: (.str "=0A" 530) :: (.str "=0B" 534) :: (.str "=0C" 538) :: (.str "=0D" 542) :: (.str "=0E" 546) :: (.str "=0F" 550) :: (.str "=10" 554) :: (.str "=11" 558) :: (.str "=12" 562) :: (.str "=13" 566) :: (.str "=14" 570) :: (.str "=15" 574) :: (.str "=16" 578) :: (.str "=17" 582) :: (.str "=18" 586) :: (.str "=19" 590) :: (.str "=1A" 594) :: (.str "=1B" 598) :: (.str "=1C" 602) :: (.str "=1D" 606) :: (.str "=1E" 610) :: (.str "=1F" 614) :: (.str "=20" 618) :: (.str "=21" 622) :: (.str "=22" 626) :: (.str "=23" 630) :: (.str "=24" 634) :: (.str "=25" 638) :: (.str "=26" 642) :: (.str "=27" 646) :: (.str "=28" 650) :: (.str "=29" 654) :: (.str "=2A" 658) :: (.str "=2B" 662) :: (.str "=2C" 666) :: (.str "=2D" 670) :: (.str "=2E" 674) :: (.str "=2F" 678) :: (.str "=30" 682) :: (.str "=31" 686) :: (.str "=32" 690) :: (.str "=33" 694) :: (.str "=34" 698) :: (.str "=35" 702) :: (.str "=36" 706) :: (.str "=37" 710) :: (.str "=38" 714) :: (.str "=39" 718) :: (.str "=3A" 722) :: (.str "=3B" 726) :: (.str "=3C" 730) :: (.str "=3D" 734) :: (.str "=3E" 738) :: (.str "=3F" 742) :: (.str "=40" 746) :: (.str "=41" 750) :: (.str "=42" 754) :: (.str "=43" 758) :: (.str "=44" 762) :: (.str "=45" 766) :: (.str "=46" 770) :: (.str "=47" 774) :: (.str "=48" 778) :: (.str "=49" 782) :: (.str "=4A" 786) :: (.str "=4B" 790) :: (.str "=4C" 794) :: (.str "=4D" 798) :: (.str "=4E" 802) :: (.str "=4F" 806) :: (.str "=50" 810) :: (.str "=51" 814) :: (.str "=52" 818) :: (.str "=53" 822) :: (.str "=54" 826) :: (.str "=55" 830) :: (.str "=56" 834) :: (.str "=57" 838) :: (.str "=58" 842) :: (.str "=59" 846) :: (.str "=5A" 850) :: (.str "=5B" 854) :: (.str "=5C" 858) :: (.str "=5D" 862) :: (.str "=5E" 866) :: (.str "=5F" 870) :: (.str "=60" 874) :: (.str "=61" 878) :: (.str "=62" 882) :: (.str "=63" 886) :: (.str "=64" 890) :: (.str "=65" 894) :: (.str "=66" 898) :: (.str "=67" 902) :: (.str "=68" 906) :: (.str "=69" 910) :: (.str "=6A" 914) :: (.str "=6B" 918) :: (.str "=6C" 922) :: (.str "=6D" 926) :: (.str "=6E" 930) :: (.str "=6F" 934) :: (.str "=70" 938) :: (.str "=71" 942) :: (.str "=72" 946) :: (.str "=73" 950) :: (.str "=74" 954) :: (.str "=75" 958) :: (.str "=76" 962) :: (.str "=77" 966) :: (.str "=78" 970) :: (.str "=79" 974) :: (.str "=7A" 978) :: (.str "=7B" 982) :: (.str "=7C" 986) :: (.str "=7D" 990) :: (.str "=7E" 994) :: (.str "=7F" 998) :: (.str "=80" 1002) :: (.str "=81" 1006) :: (.str "=82" 1010) :: (.str "=83" 1014) :: (.str "=84" 1018) :: (.str "=85" 1022) :: (.str "=86" 1026) :: (.str "=87" 1030) :: (.str "=88" 1034) :: (.str "=89" 1038) :: (.str "=8A" 1042) :: (.str "=8B" 1046) :: (.str "=8C" 1050) :: (.str "=8D" 1054) :: (.str "=8E" 1058) :: (.str "=8F" 1062) :: (.str "=90" 1066) :: (.str "=91" 1070) :: (.str "=92" 1074) :: (.str "=93" 1078) :: (.str "=94" 1082) :: (.str "=95" 1086) :: (.str "=96" 1090) :: (.str "=97" 1094) :: (.str "=98" 1098) :: (.str "=99" 1102) :: (.str "=9A" 1106) :: (.str "=9B" 1110) :: (.str "=9C" 1114) :: (.str "=9D" 1118) :: (.str "=9E" 1122) :: (.str "=9F" 1126) :: (.str "=A0" 1130) :: (.str "=A1" 1134) :: (.str "=A2" 1138) :: (.str "=A3" 1142) :: (.str "=A4" 1146) :: (.str "=A5" 1150) :: (.str "=A6" 1154) :: (.str "=A7" 1158) :: (.str "=A8" 1162) :: (.str "=A9" 1166) :: (.str "=AA" 1170) :: (.str "=AB" 1174) :: (.str "=AC" 1178) :: (.str "=AD" 1182) :: (.str "=AE" 1186) :: (.str "=AF" 1190) :: (.str "=B0" 1194) :: (.str "=B1" 1198) :: (.str "=B2" 1202) :: (.str "=B3" 1206) :: (.str "=B4" 1210) :: (.str "=B5" 1214) :: (.str "=B6" 1218) :: (.str "=B7" 1222) :: (.str "=B8" 1226) :: (.str "=B9" 1230) :: (.str "=BA" 1234) :: (.str "=BB" 1238) :: (.str "=BC" 1242) :: (.str "=BD" 1246) :: (.str "=BE" 1250) :: (.str "=BF" 1254) :: (.str "=C0" 1258) :: (.str "=C1" 1262) :: (.str "=C2" 1266) :: (.str "=C3" 1270) :: (.str "=C4" 1274) :: (.str "=C5" 1278) :: (.str "=C6" 1282) :: (.str "=C7" 1286) :: (.str "=C8" 1290) :: (.str "=C9" 1294) :: (.str "=CA" 1298) :: (.str "=CB" 1302) :: (.str "=CC" 1306) :: (.str "=CD" 1310) :: (.str "=CE" 1314) :: (.str "=CF" 1318) :: (.str "=D0" 1322) :: (.str "=D1" 1326) :: (.str "=D2" 1330) :: (.str "=D3" 1334) :: (.str "=D4" 1338) :: (.str "=D5" 1342) :: (.str "=D6" 1346) :: (.str "=D7" 1350) :: (.str "=D8" 1354) :: (.str "=D9" 1358) :: (.str "=DA" 1362) :: (.str "=DB" 1366) :: (.str "=DC" 1370) :: (.str "=DD" 1374) :: (.str "=DE" 1378) :: (.str "=DF" 1382) :: (.str "=E0" 1386) :: (.str "=E1" 1390) :: (.str "=E2" 1394) :: (.str "=E3" 1398) :: (.str "=E4" 1402) :: (.str "=E5" 1406) :: (.str "=E6" 1410) :: (.str "=E7" 1414) :: (.str "=E8" 1418) :: (.str "=E9" 1422) :: (.str "=EA" 1426) :: (.str "=EB" 1430) :: (.str "=EC" 1434) :: (.str "=ED" 1438) :: (.str "=EE" 1442) :: (.str "=EF" 1446) :: (.str "=F0" 1450) :: (.str "=F1" 1454) :: (.str "=F2" 1458) :: (.str "=F3" 1462) :: (.str "=F4" 1466) :: (.str "=F5" 1470) :: (.str "=F6" 1474) :: (.str "=F7" 1478) :: (.str "=F8" 1482) :: (.str "=F9" 1486) :: (.str "=FA" 1490) :: (.str "=FB" 1494) :: (.str "=FC" 1498) :: (.str "=FD" 1502) :: (.str "=FE" 1506) :: (.str "=FF" 1510) :: [])) 256) #[])) ::
 (nat_lit 159, (.mk (.type "list") none (.seq (List.toArray ((.str "=00" 490) :: (.str "=01" 494) :: (.str "=02" 498) :: (.str "=03" 502) :: (.str "=04" 506) :: (.str "=05" 510) :: (.str "=06" 514) :: (.str "=07" 518) :: (.str "=08" 522) :: (.str "=09" 526) :: (.str "=0A" 530) :: (.str "=0B" 534) :: (.str "=0C" 538) :: (.str "=0D" 542) :: (.str "=0E" 546) :: (.str "=0F" 550) :: (.str "=10" 554) :: (.str "=11" 558) :: (.str "=12" 562) :: (.str "=13" 566) :: (.str "=14" 570) :: (.str "=15" 574) :: (.str "=16" 578) :: (.str "=17" 582) :: (.str "=18" 586) :: (.str "=19" 590) :: (.str "=1A" 594) :: (.str "=1B" 598) :: (.str "=1C" 602) :: (.str "=1D" 606) :: (.str "=1E" 610) :: (.str "=1F" 614) :: (.str "_" 1737) :: (.str "!" 1541) :: (.str "=22" 626) :: (.str "=23" 630) :: (.str "=24" 634) :: (.str "=25" 638) :: (.str "=26" 642) :: (.str "=27" 646) :: (.str "=28" 650) :: (.str "=29" 654) :: (.str "*" 1544) :: (.str "+" 1547) :: (.str "=2C" 666) :: (.str "-" 1538) :: (.str "=2E" 674) :: (.str "/" 1550) :: (.str "0" 1709) :: (.str "1" 1712) :: (.str "2" 1715) :: (.str "3" 1718) :: (.str "4" 1721) :: (.str "5" 1724) :: (.str "6" 1727) :: (.str "7" 1730) :: (.str "8" 1733) :: (.str "9" 1736) :: (.str "=3A" 722) :: (.str "=3B" 726) :: (.str "=3C" 730) :: (.str "=3D" 734) :: (.str "=3E" 738) :: (.str "=3F" 742) :: (.str "=40" 746) :: (.str "A" 1631) :: (.str "B" 1634) :: (.str "C" 1637) :: (.str "D" 1640) :: (.str "E" 1643) :: (.str "F" 1646) :: (.str "G" 1649) :: (.str "H" 1652) :: (.str "I" 1655) :: (.str "J" 1658) :: (.str "K" 1661) :: (.str "L" 1664) :: (.str "M" 1667) :: (.str "N" 1670) :: (.str "O" 1673) :: (.str "P" 1676) :: (.str "Q" 1679) :: (.str "R" 1682) :: (.str "S" 1685) :: (.str "T" 1688) :: (.str "U" 1691) :: (.str "V" 1694) :: (.str "W" 1697) :: (.str "X" 1700) :: (.str "Y" 1703) :: (.str "Z" 1706) :: (.str "=5B" 854) :: (.str "=5C" 858) :: (.str "=5D" 862) :: (.str "=5E" 866) :: (.str "=5F" 870) :: (.str "=60" 874) :: (.str "a" 1553) :: (.str "b" 1556) :: (.str "c" 1559) :: (.str "d" 1562) :: (.str "e" 1565) :: (.str "f" 1568) :: (.str "g" 1571) :: (.str "h" 1574) :: (.str "i" 1577) :: (.str "j" 1580) :: (.str "k" 1583) :: (.str "l" 1586) :: (.str "m" 1589) :: (.str "n" 1592) :: (.str "o" 1595) :: (.str "p" 1598) :: (.str "q" 1601) :: (.str "r" 1604) :: (.str "s" 1607) :: (.str "t" 1610) :: (.str "u" 1613) :: (.str "v" 1616) :: (.str "w" 1619) :: (.str "x" 1622) :: (.str "y" 1625) :: (.str "z" 1628) :: (.str "=7B" 982) :: (.str "=7C" 986) :: (.str "=7D" 990) :: (.str "=7E" 994) :: (.str "=7F" 998) :: (.str "=80" 1002) :: (.str "=81" 1006) :: (.str "=82" 1010) :: (.str "=83" 1014) :: (.str "=84" 1018) :: (.str "=85" 1022) :: (.str "=86" 1026) :: (.str "=87" 1030) :: (.str "=88" 1034) :: (.str "=89" 1038) :: (.str "=8A" 1042) :: (.str "=8B" 1046) :: (.str "=8C" 1050) :: (.str "=8D" 1054) :: (.str "=8E" 1058) :: (.str "=8F" 1062) :: (.str "=90" 1066) :: (.str "=91" 1070) :: (.str "=92" 1074) :: (.str "=93" 1078) :: (.str "=94" 1082) :: (.str "=95" 1086) :: (.str "=96" 1090) :: (.str "=97" 1094) :: (.str "=98" 1098) :: (.str "=99" 1102) :: (.str "=9A" 1106) :: (.str "=9B" 1110) :: (.str "=9C" 1114) :: (.str "=9D" 1118) :: (.str "=9E" 1122) :: (.str "=9F" 1126) :: (.str "=A0" 1130) :: (.str "=A1" 1134) :: (.str "=A2" 1138) :: (.str "=A3" 1142) :: (.str "=A4" 1146) :: (.str "=A5" 1150) :: (.str "=A6" 1154) :: (.str "=A7" 1158) :: (.str "=A8" 1162) :: (.str "=A9" 1166) :: (.str "=AA" 1170) :: (.str "=AB" 1174) :: (.str "=AC" 1178) :: (.str "=AD" 1182) :: (.str "=AE" 1186) :: (.str "=AF" 1190) :: (.str "=B0" 1194) :: (.str "=B1" 1198) :: (.str "=B2" 1202) :: (.str "=B3" 1206) :: (.str "=B4" 1210) :: (.str "=B5" 1214) :: (.str "=B6" 1218) :: (.str "=B7" 1222) :: (.str "=B8" 1226) :: (.str "=B9" 1230) :: (.str "=BA" 1234) :: (.str "=BB" 1238) :: (.str "=BC" 1242) :: (.str "=BD" 1246) :: (.str "=BE" 1250) :: (.str "=BF" 1254) :: (.str "=C0" 1258) :: (.str "=C1" 1262) :: (.str "=C2" 1266) :: (.str "=C3" 1270) :: (.str "=C4" 1274) :: (.str "=C5" 1278) :: (.str "=C6" 1282) :: (.str "=C7" 1286) :: (.str "=C8" 1290) :: (.str "=C9" 1294) :: (.str "=CA" 1298) :: (.str "=CB" 1302) :: (.str "=CC" 1306) :: (.str "=CD" 1310) :: (.str "=CE" 1314) :: (.str "=CF" 1318) :: (.str "=D0" 1322) :: (.str "=D1" 1326) :: (.str "=D2" 1330) :: (.str "=D3" 1334) :: (.str "=D4" 1338) :: (.str "=D5" 1342) :: (.str "=D6" 1346) :: (.str "=D7" 1350) :: (.str "=D8" 1354) :: (.str "=D9" 1358) :: (.str "=DA" 1362) :: (.str "=DB" 1366) :: (.str "=DC" 1370) :: (.str "=DD" 1374) :: (.str "=DE" 1378) :: (.str "=DF" 1382) :: (.str "=E0" 1386) :: (.str "=E1" 1390) :: (.str "=E2" 1394) :: (.str "=E3" 1398) :: (.str "=E4" 1402) :: (.str "=E5" 1406) :: (.str "=E6" 1410) :: (.str "=E7" 1414) :: (.str "=E8" 1418) :: (.str "=E9" 1422) :: (.str "=EA" 1426) :: (.str "=EB" 1430) :: (.str "=EC" 1434) :: (.str "=ED" 1438) :: (.str "=EE" 1442) :: (.str "=EF" 1446) :: (.str "=F0" 1450) :: (.str "=F1" 1454) :: (.str "=F2" 1458) :: (.str "=F3" 1462) :: (.str "=F4" 1466) :: (.str "=F5" 1470) :: (.str "=F6" 1474) :: (.str "=F7" 1478) :: (.str "=F8" 1482) :: (.str "=F9" 1486) :: (.str "=FA" 1490) :: (.str "=FB" 1494) :: (.str "=FC" 1498) :: (.str "=FD" 1502) :: (.str "=FE" 1506) :: (.str "=FF" 1510) :: [])) 0) #[])) ::
 (nat_lit 168, (.mk (.type "tuple") none (.seq #[] 0) #[])) ::
 (nat_lit 170, (.mk (.type "tuple") none (.seq #[(.str "s" 2029)] 0) #[])) ::
 (nat_lit 171, (.mk (.type "tuple") none (.seq #[] 0) #[])) ::
 (nat_lit 173, (.mk (.type "code") none (.fields #[(.str "unquote" 2026), (.str "unquote" 2027), (.str "/claim/cut.py" 2028), (.int 143 0), (.int 1 0), (.int 0 0), (.int 0 0), (.int 3 0), (.ref 168), (.bool true), (.int 276 0), (.ref 169), .none, (.ref 170), (.ref 171), (.ref 172), (.int 2030 0), (.int 143 0), (.str "/claim/cut.py" 2031)]) #[])) ::
 (nat_lit 174, (.mk (.type "function") none (.func (fnD 33 none "unquote" 3 [] .none .none .none (.str "cpy313.email.quoprimime" 1527) none (.ref 173) .none 0)) #[])) ::
 (nat_lit 175, (.mk (.type "tuple") none (.seq #[] 0) #[])) ::
 (nat_lit 177, (.mk (.type "tuple") none (.seq #[(.str "c" 2036)] 0) #[])) ::
 (nat_lit 178, (.mk (.type "tuple") none (.seq #[] 0) #[])) ::
 (nat_lit 180, (.mk (.type "code") none (.fields #[(.str "quote" 2033), (.str "quote" 2034), (.str "/claim/cut.py" 2035), (.int 145 0), (.int 1 0), (.int 0 0), (.int 0 0), (.int 3 0), (.ref 175), (.bool true), (.int 276 0), (.ref 176), .none, (.ref 177), (.ref 178), (.ref 179), (.int 2037 0), (.int 145 0), (.str "/claim/cut.py" 2038)]) #[])) ::
 (nat_lit 181, (.mk (.type "function") none (.func (fnD 34 none "quote" 3 [] .none .none .none (.str "cpy313.email.quoprimime" 1527) none (.ref 180) .none 0)) #[])) ::
 (nat_lit 182, (.mk (.type "tuple") none (.seq #[(.str "iso-8859-1" 2040)] 0) #[])) ::
 (nat_lit 183, (.mk (.type "tuple") none (.seq #[] 0) #[])) ::
 (nat_lit 185, (.mk (.type "tuple") none (.seq #[(.str "header_bytes" 2044), (.str "charset" 2045), (.str "encoded" 2046)] 0) #[])) ::
 (nat_lit 186, (.mk (.type "tuple") none (.seq #[] 0) #[])) ::
 (nat_lit 188, (.mk (.type "code") none (.fields #[(.str "header_encode" 2041), (.str "header_encode" 2042), (.str "/claim/cut.py" 2043), (.int 147 0), (.int 2 0), (.int 0 0), (.int 0 0), (.int 3 0), (.ref 183), (.bool true), (.int 276 0), (.ref 184), .none, (.ref 185), (.ref 186), (.ref 187), (.int 2047 0), (.int 147 0), (.str "/claim/cut.py" 2048)]) #[])) ::
 (nat_lit 189, (.mk (.type "function") none (.func (fnD 35 none "header_encode" 3 [] (.ref 182) .none .none (.str "cpy313.email.quoprimime" 1527) none (.ref 188) .none 0)) #[])) ::
 (nat_lit 191, (.mk (.type "list") none (.seq (List.toArray ((.str "=00" 490) :: (.str "=01" 494) :: (.str "=02" 498) :: (.str "=03" 502) :: (.str "=04" 506) :: (.str "=05" 510) :: (.str "=06" 514) :: (.str "=07" 518) :: (.str "=08" 522) :: (.str "\t" 2025) :: (.str "\n" 2057) :: (.str "=0B" 534) :: (.str "=0C" 538) :: (.str "\r" 2054) :: (.str "=0E" 546) :: (.str "=0F" 550) :: (.str "=10" 554) :: (.str "=11" 558) :: (.str "=12" 562) :: (.str "=13" 566) :: (.str "=14" 570) :: (.str "=15" 574) :: (.str "=16" 578) :: (.str "=17" 582) :: (.str "=18" 586) :: (.str "=19" 590) :: (.str "=1A" 594) :: (.str "=1B" 598) :: (.str "=1C" 602) :: (.str "=1D" 606) :: (.str "=1E" 610) :: (.str "=1F" 614) :: (.str " " 1743) :: (.str "!" 1746) :: (.str "\"" 1749) :: (.str "#" 1752) :: (.str "$" 1755) :: (.str "%" 1758) :: (.str "&" 1761) :: (.str "'" 1764) :: (.str "(" 1767) :: (.str ")" 1770) :: (.str "*" 1773) :: (.str "+" 1776) :: (.str "," 1779) :: (.str "-" 1782) :: (.str "." 1785) :: (.str "/" 1788) :: (.str "0" 1791) :: (.str "1" 1794) :: (.str "2" 1797) :: (.str "3" 1800) :: (.str "4" 1803) :: (.str "5" 1806) :: (.str "6" 1809) :: (.str "7" 1812) :: (.str "8" 1815) :: (.str "9" 1818) :: (.str ":" 1821) :: (.str ";" 1824) :: (.str "<" 1827) :: (.str "=3D" 734) :: (.str ">" 1830) :: (.str "?" 1833) :: (.str "@" 1836) :: (.str "A" 1839) :: (.str "B" 1842) :: (.str "C" 1845) :: (.str "D" 1848) :: (.str "E" 1851) :: (.str "F" 1854) :: (.str "G" 1857) :: (.str "H" 1860) :: (.str "I" 1863) :: (.str "J" 1866) :: (.str "K" 1869) :: (.str "L" 1872) :: (.str "M" 1875) :: (.str "N" 1878) :: (.str "O" 1881) :: (.str "P" 1884) :: (.str "Q" 1887) :: (.str "R" 1890) :: (.str "S" 1893) :: (.str "T" 1896) :: (.str "U" 1899) :: (.str "V" 1902) :: (.str "W" 1905) :: (.str "X" 1908) :: (.str "Y" 1911) :: (.str "Z" 1914) :: (.str "[" 1917) :: (.str "\\" 1920) :: (.str "]" 1923) :: (.str "^" 1926) :: (.str "_" 1929) :: (.str "`" 1932) :: (.str "a" 1935) :: (.str "b" 1938) :: (.str "c" 1941) :: (.str "d" 1944) :: (.str "e" 1947) :: (.str "f" 1950) :: (.str "g" 1953) :: (.str "h" 1956) :: (.str "i" 1959) :: (.str "j" 1962) :: (.str "k" 1965) :: (.str "l" 1968) :: (.str "m" 1971) :: (.str "n" 1974) :: (.str "o" 1977) :: (.str "p" 1980) :: (.str "q" 1983) :: (.str "r" 1986) :: (.str "s" 1989) :: (.str "t" 1992) :: (.str "u" 1995) :: (.str "v" 1998) :: (.str "w" 2001) :: (.str "x" 2004) :: (.str "y" 2007) :: (.str "z" 2010) :: (.str "{" 2013) :: (.str "|" 2016) :: (.str "}" 2019) :: (.str "~" 2022) :: (.str "=7F" 998) :: (.str "=80" 1002) :: (.str "=81" 1006) :: (.str "=82" 1010) :: (.str "=83" 1014) :: (.str "=84" 1018) :: (.str "=85" 1022) :: (.str "=86" 1026) :: (.str "=87" 1030) :: (.str "=88" 1034) :: (.str "=89" 1038) :: (.str "=8A" 1042) :: (.str "=8B" 1046) :: (.str "=8C" 1050) :: (.str "=8D" 1054) :: (.str "=8E" 1058) :: (.str "=8F" 1062) :: (.str "=90" 1066) :: (.str "=91" 1070) :: (.str "=92" 1074) :: (.str "=93" 1078) :: (.str "=94" 1082) :: (.str "=95" 1086) :: (.str "=96" 1090) :: (.str "=97" 1094) :: (.str "=98" 1098) :: (.str "=99" 1102) :: (.str "=9A" 1106) :: (.str "=9B" 1110) :: (.str "=9C" 1114) :: (.str "=9D" 1118) :: (.str "=9E" 1122) :: (.str "=9F" 1126) :: (.str "=A0" 1130) :: (.str "=A1" 1134) :: (.str "=A2" 1138) :: (.str "=A3" 1142) :: (.str "=A4" 1146) :: (.str "=A5" 1150) :: (.str "=A6" 1154) :: (.str "=A7" 1158) :: (.str "=A8" 1162) :: (.str "=A9" 1166) :: (.str "=AA" 1170) :: (.str "=AB" 1174) :: (.str "=AC" 1178) :: (.str "=AD" 1182) :: (.str "=AE" 1186) :: (.str "=AF" 1190) :: (.str "=B0" 1194) :: (.str "=B1" 1198) :: (.str "=B2" 1202) :: (.str "=B3" 1206) :: (.str "=B4" 1210) :: (.str "=B5" 1214) :: (.str "=B6" 1218) :: (.str "=B7" 1222) :: (.str "=B8" 1226) :: (.str "=B9" 1230) :: (.str "=BA" 1234) :: (.str "=BB" 1238) :: (.str "=BC" 1242) :: (.str "=BD" 1246) :: (.str "=BE" 1250) :: (.str "=BF" 1254) :: (.str "=C0" 1258) :: (.str "=C1" 1262) :: (.str "=C2" 1266) :: (.str "=C3" 1270) :: (.str "=C4" 1274) :: (.str "=C5" 1278) :: (.str "=C6" 1282) :: (.str "=C7" 1286) :: (.str "=C8" 1290) :: (.str "=C9" 1294) :: (.str "=CA" 1298) :: (.str "=CB" 1302) :: (.str "=CC" 1306) :: (.str "=CD" 1310) :: (.str "=CE" 1314) :: (.str "=CF" 1318) :: (.str "=D0" 1322) :: (.str "=D1" 1326) :: (.str "=D2" 1330) :: (.str "=D3" 1334) :: (.str "=D4" 1338) :: (.str "=D5" 1342) :: (.str "=D6" 1346) :: (.str "=D7" 1350) :: (.str "=D8" 1354) :: (.str "=D9" 1358) :: (.str "=DA" 1362) :: (.str "=DB" 1366) :: (.str "=DC" 1370) :: (.str "=DD" 1374) :: (.str "=DE" 1378) :: (.str "=DF" 1382) :: (.str "=E0" 1386) :: (.str "=E1" 1390) :: (.str "=E2" 1394) :: (.str "=E3" 1398) :: (.str "=E4" 1402) :: (.str "=E5" 1406) :: (.str "=E6" 1410) :: (.str "=E7" 1414) :: (.str "=E8" 1418) :: (.str "=E9" 1422) :: (.str "=EA" 1426) :: (.str "=EB" 1430) :: (.str "=EC" 1434) :: (.str "=ED" 1438) :: (.str "=EE" 1442) :: (.str "=EF" 1446) :: (.str "=F0" 1450) :: (.str "=F1" 1454) :: (.str "=F2" 1458) :: (.str "=F3" 1462) :: (.str "=F4" 1466) :: (.str "=F5" 1470) :: (.str "=F6" 1474) :: (.str "=F7" 1478) :: (.str "=F8" 1482) :: (.str "=F9" 1486) :: (.str "=FA" 1490) :: (.str "=FB" 1494) :: (.str "=FC" 1498) :: (.str "=FD" 1502) :: (.str "=FE" 1506) :: (.str "=FF" 1510) :: [])) 0) #[])) ::
 (nat_lit 195, (.mk (.type "tuple") none (.seq #[(.int 76 2058), (.str "\n" 482)] 0) #[])) ::
 (nat_lit 196, (.mk (.type "tuple") none (.seq #[] 0) #[])) ::
 (nat_lit 198, (.mk (.type "tuple") none (.seq #[(.str "body" 2062), (.str "maxlinelen" 2063), (.str "eol" 2064), (.str "soft_break" 2065), (.str "maxlinelen1" 2066), (.str "encoded_body" 2067), (.str "append" 2068), (.str "line" 2069), (.str "start" 2070), (.str "laststart" 2071), (.str "stop" 2072), (.str "room" 2073), (.str "q" 2074)] 0) #[])) ::
 (nat_lit 199, (.mk (.type "tuple") none (.seq #[] 0) #[])) ::
 (nat_lit 201, (.mk (.type "code") none (.fields #[(.str "body_encode" 2059), (.str "body_encode" 2060), (.str "/claim/cut.py" 2061), (.int 156 0), (.int 3 0), (.int 0 0), (.int 0 0), (.int 3 0), (.ref 196), (.bool true), (.int 276 0), (.ref 197), .none, (.ref 198), (.ref 199), (.ref 200), (.int 2075 0), (.int 156 0), (.str "/claim/cut.py" 2076)]) #[])) ::
 (nat_lit 202, (.mk (.type "function") none (.func (fnD 39 none "body_encode" 3 [] (.ref 195) .none .none (.str "cpy313.email.quoprimime" 1527) none (.ref 201) .none 0)) #[])) ::
 (nat_lit 203, (.mk (.type "tuple") none (.seq #[(.str "\n" 482)] 0) #[])) ::
 (nat_lit 204, (.mk (.type "tuple") none (.seq #[] 0) #[])) ::
 (nat_lit 206, (.mk (.type "tuple") none (.seq #[(.str "encoded" 2081), (.str "eol" 2082), (.str "decoded" 2083), (.str "line" 2084), (.str "i" 2085), (.str "n" 2086), (.str "c" 2087)] 0) #[])) ::
 (nat_lit 207, (.mk (.type "tuple") none (.seq #[] 0) #[])) ::
 (nat_lit 209, (.mk (.type "code") none (.fields #[(.str "decode" 2078), (.str "decode" 2079), (.str "/claim/cut.py" 2080), (.int 194 0), (.int 2 0), (.int 0 0), (.int 0 0), (.int 3 0), (.ref 204), (.bool true), (.int 276 0), (.ref 205), .none, (.ref 206), (.ref 207), (.ref 208), (.int 2088 0), (.int 194 0), (.str "/claim/cut.py" 2089)]) #[])) ::
 (nat_lit 210, (.mk (.type "function") none (.func (fnD 40 none "decode" 3 [] (.ref 203) .none .none (.str "cpy313.email.quoprimime" 1527) none (.ref 209) .none 0)) #[])) ::
 (nat_lit 211, (.mk (.type "tuple") none (.seq #[] 0) #[])) ::
 (nat_lit 213, (.mk (.type "tuple") none (.seq #[(.str "match" 2094), (.str "s" 2095)] 0) #[])) ::
 (nat_lit 214, (.mk (.type "tuple") none (.seq #[] 0) #[])) ::
 (nat_lit 216, (.mk (.type "code") none (.fields #[(.str "_unquote_match" 2091), (.str "_unquote_match" 2092), (.str "/claim/cut.py" 2093), (.int 224 0), (.int 1 0), (.int 0 0), (.int 0 0), (.int 3 0), (.ref 211), (.bool true), (.int 276 0), (.ref 212), .none, (.ref 213), (.ref 214), (.ref 215), (.int 2096 0), (.int 224 0), (.str "/claim/cut.py" 2097)]) #[])) ::
 (nat_lit 217, (.mk (.type "function") none (.func (fnD 41 none "_unquote_match" 3 [] .none .none .none (.str "cpy313.email.quoprimime" 1527) none (.ref 216) .none 0)) #[])) ::
 (nat_lit 218, (.mk (.type "tuple") none (.seq #[] 0) #[])) ::
 (nat_lit 220, (.mk (.type "tuple") none (.seq #[(.str "s" 2102)] 0) #[])) ::
 (nat_lit 221, (.mk (.type "tuple") none (.seq #[] 0) #[])) ::
 (nat_lit 223, (.mk (.type "code") none (.fields #[(.str "header_decode" 2099), (.str "header_decode" 2100), (.str "/claim/cut.py" 2101), (.int 227 0), (.int 1 0), (.int 0 0), (.int 0 0), (.int 3 0), (.ref 218), (.bool true), (.int 276 0), (.ref 219), .none, (.ref 220), (.ref 221), (.ref 222), (.int 2103 0), (.int 227 0), (.str "/claim/cut.py" 2104)]) #[])) ::
 (nat_lit 224, (.mk (.type "function") none (.func (fnD 42 none "header_decode" 3 [] .none .none .none (.str "cpy313.email.quoprimime" 1527) none (.ref 223) .none 0)) #[])) ::
 (nat_lit 225, (.mk (.type "tuple") none (.seq #[] 0) #[])) ::
 (nat_lit 227, (.mk (.type "tuple") none (.seq #[(.str "script" 2111), (.str "parts" 2112), (.str "x" 2113), (.str "kind" 2114), (.str "octet" 2115)] 0) #[])) ::
 (nat_lit 228, (.mk (.type "tuple") none (.seq #[] 0) #[])) ::
 (nat_lit 230, (.mk (.type "code") none (.fields #[(.str "_law_parts" 2108), (.str "_law_parts" 2109), (.str "/claim/cut.py" 2110), (.int 231 0), (.int 1 0), (.int 0 0), (.int 0 0), (.int 3 0), (.ref 225), (.bool true), (.int 276 0), (.ref 226), .none, (.ref 227), (.ref 228), (.ref 229), (.int 2116 0), (.int 231 0), (.str "/claim/cut.py" 2117)]) #[])) ::
 (nat_lit 231, (.mk (.type "function") none (.func (fnD 44 none "_law_parts" 3 [] .none .none .none (.str "law_pd0176_01" 2106) none (.ref 230) .none 0)) #[])) ::
 (nat_lit 232, (.mk (.type "tuple") none (.seq #[] 0) #[])) ::
 (nat_lit 235, (.mk (.type "code") none (.fields #[(.str "_law_names" 2119), (.str "_law_names" 2120), (.str "/claim/cut.py" 2121), (.int 243 0), (.int 1 0), (.int 0 0), (.int 0 0), (.int 3 0), (.ref 232), (.bool true), (.int 276 0), (.ref 233), .none, .none, .none, (.ref 234), (.int 2122 0), (.int 243 0), (.str "/claim/cut.py" 2123)]) #[])) ::
 (nat_lit 236, (.mk (.type "function") none (.func (fnD 45 none "_law_names" 3 [] .none .none .none (.str "law_pd0176_01" 2106) none (.ref 235) .none 0)) #[])) ::
 (nat_lit 237, (.mk (.type "tuple") none (.seq #[] 0) #[])) ::
 (nat_lit 240, (.mk (.type "code") none (.fields #[(.str "_law_straight" 2125), (.str "_law_straight" 2126), (.str "/claim/cut.py" 2127), (.int 258 0), (.int 2 0), (.int 0 0), (.int 0 0), (.int 3 0), (.ref 237), (.bool true), (.int 276 0), (.ref 238), .none, .none, .none, (.ref 239), (.int 2128 0), (.int 258 0), (.str "/claim/cut.py" 2129)]) #[])) ::
 (nat_lit 241, (.mk (.type "function") none (.func (fnD 46 none "_law_straight" 3 [] .none .none .none (.str "law_pd0176_01" 2106) none (.ref 240) .none 0)) #[])) ::
 (nat_lit 242, (.mk (.type "tuple") none (.seq #[] 0) #[])) ::
 (nat_lit 245, (.mk (.type "code") none (.fields #[(.str "_law_text" 2131), (.str "_law_text" 2132), (.str "/claim/cut.py" 2133), (.int 272 0), (.int 2 0), (.int 0 0), (.int 0 0), (.int 3 0), (.ref 242), (.bool true), (.int 276 0), (.ref 243), .none, .none, .none, (.ref 244), (.int 2134 0), (.int 272 0), (.str "/claim/cut.py" 2135)]) #[])) ::
 (nat_lit 246, (.mk (.type "function") none (.func (fnD 47 none "_law_text" 3 [] .none .none .none (.str "law_pd0176_01" 2106) none (.ref 245) .none 0)) #[])) ::
 (nat_lit 247, (.mk (.type "tuple") none (.seq #[] 0) #[])) ::
 (nat_lit 249, (.mk (.type "tuple") none (.seq #[(.str "names" 2140), (.str "count" 2141)] 0) #[])) ::
 (nat_lit 250, (.mk (.type "tuple") none (.seq #[] 0) #[])) ::
 (nat_lit 252, (.mk (.type "code") none (.fields #[(.str "_law_bare_end" 2137), (.str "_law_bare_end" 2138), (.str "/claim/cut.py" 2139), (.int 275 0), (.int 1 0), (.int 0 0), (.int 0 0), (.int 3 0), (.ref 247), (.bool true), (.int 276 0), (.ref 248), .none, (.ref 249), (.ref 250), (.ref 251), (.int 2142 0), (.int 275 0), (.str "/claim/cut.py" 2143)]) #[])) ::
 (nat_lit 253, (.mk (.type "function") none (.func (fnD 48 none "_law_bare_end" 3 [] .none .none .none (.str "law_pd0176_01" 2106) none (.ref 252) .none 0)) #[])) ::
 (nat_lit 254, (.mk (.type "tuple") none (.seq #[] 0) #[])) ::
 (nat_lit 256, (.mk (.type "tuple") none (.seq #[(.str "sign" 2148), (.str "figures" 2149)] 0) #[])) ::
 (nat_lit 257, (.mk (.type "tuple") none (.seq #[] 0) #[])) ::
 (nat_lit 259, (.mk (.type "code") none (.fields #[(.str "_law_worded" 2145), (.str "_law_worded" 2146), (.str "/claim/cut.py" 2147), (.int 281 0), (.int 1 0), (.int 0 0), (.int 0 0), (.int 3 0), (.ref 254), (.bool true), (.int 276 0), (.ref 255), .none, (.ref 256), (.ref 257), (.ref 258), (.int 2150 0), (.int 281 0), (.str "/claim/cut.py" 2151)]) #[])) ::
 (nat_lit 260, (.mk (.type "function") none (.func (fnD 49 none "_law_worded" 3 [] .none .none .none (.str "law_pd0176_01" 2106) none (.ref 259) .none 0)) #[])) ::
 (nat_lit 261, (.mk (.type "tuple") none (.seq #[] 0) #[])) ::
 (nat_lit 264, (.mk (.type "code") none (.fields #[(.str "law" 2153), (.str "law" 2154), (.str "/claim/cut.py" 2155), (.int 288 0), (.int 1 0), (.int 0 0), (.int 0 0), (.int 3 0), (.ref 261), (.bool true), (.int 276 0), (.ref 262), .none, .none, .none, (.ref 263), (.int 2156 0), (.int 288 0), (.str "/claim/cut.py" 2157)]) #[])) ::
 (nat_lit 265, (.mk (.type "function") none (.func (fnD 50 none "law" 3 [] .none .none .none (.str "law_pd0176_01" 2106) none (.ref 264) .none 0)) #[])) :: [] : List (Nat × Obj))
noncomputable def VV : Program := PySem.W.view PX [0, 1, 3, 5, 7, 8, 10, 12, 14, 15, 16, 17, 18, 19, 20, 21, 22, 23, 24, 25, 26, 27, 28, 33, 34, 36, 41, 42, 44, 45, 46, 47, 48, 49, 50]
end MineHd
end

section
open PySem PySem.W PyProof.Rows
set_option maxRecDepth 100000
set_option maxHeartbeats 0
namespace MineHd
noncomputable def ok (P : Params) (a : Nat) : Obj := ((K P).lookup a).getD default
noncomputable def o41 (P : Params) : Obj := (.mk (.type "dict") none (.dict (List.toArray ((.mk (PyData.keyHash P "__name__") (.str "__name__" 1) (.str "builtins" 160)) :: (.mk (PyData.keyHash P "__doc__") (.str "__doc__" 2) (.builtin "builtins.__doc__:str#opaque")) :: (.mk (PyData.keyHash P "__package__") (.str "__package__" 3) (.builtin "builtins.__package__:str#opaque")) :: (.mk (PyData.keyHash P "__loader__") (.str "__loader__" 4) (.builtin "builtins.__loader__:shared#opaque")) :: (.mk (PyData.keyHash P "__spec__") (.str "__spec__" 5) (.builtin "builtins.__spec__#opaque")) :: (.mk (PyData.keyHash P "__build_class__") (.str "__build_class__" 6) (.builtin "__build_class__")) :: (.mk (PyData.keyHash P "__import__") (.str "__import__" 7) (.builtin "__import__")) :: (.mk (PyData.keyHash P "abs") (.str "abs" 8) (.builtin "abs")) :: (.mk (PyData.keyHash P "all") (.str "all" 9) (.builtin "all")) :: (.mk (PyData.keyHash P "any") (.str "any" 10) (.builtin "any")) :: (.mk (PyData.keyHash P "ascii") (.str "ascii" 11) (.builtin "ascii")) :: (.mk (PyData.keyHash P "bin") (.str "bin" 12) (.builtin "bin")) :: (.mk (PyData.keyHash P "breakpoint") (.str "breakpoint" 13) (.builtin "breakpoint")) :: (.mk (PyData.keyHash P "callable") (.str "callable" 14) (.builtin "callable")) :: (.mk (PyData.keyHash P "chr") (.str "chr" 15) (.builtin "chr")) :: (.mk (PyData.keyHash P "compile") (.str "compile" 16) (.builtin "compile")) :: (.mk (PyData.keyHash P "delattr") (.str "delattr" 17) (.builtin "delattr")) :: (.mk (PyData.keyHash P "dir") (.str "dir" 18) (.builtin "dir")) :: (.mk (PyData.keyHash P "divmod") (.str "divmod" 19) (.builtin "divmod")) :: (.mk (PyData.keyHash P "eval") (.str "eval" 20) (.builtin "eval")) :: (.mk (PyData.keyHash P "exec") (.str "exec" 21) (.builtin "exec")) :: (.mk (PyData.keyHash P "format") (.str "format" 22) (.builtin "format")) :: (.mk (PyData.keyHash P "getattr") (.str "getattr" 23) (.builtin "getattr")) :: (.mk (PyData.keyHash P "globals") (.str "globals" 24) (.builtin "globals")) :: (.mk (PyData.keyHash P "hasattr") (.str "hasattr" 25) (.builtin "hasattr")) :: (.mk (PyData.keyHash P "hash") (.str "hash" 26) (.builtin "hash")) :: (.mk (PyData.keyHash P "hex") (.str "hex" 27) (.builtin "hex")) :: (.mk (PyData.keyHash P "id") (.str "id" 28) (.builtin "id")) :: (.mk (PyData.keyHash P "input") (.str "input" 29) (.builtin "input")) :: (.mk (PyData.keyHash P "isinstance") (.str "isinstance" 30) (.builtin "isinstance")) :: (.mk (PyData.keyHash P "issubclass") (.str "issubclass" 31) (.builtin "issubclass")) :: (.mk (PyData.keyHash P "iter") (.str "iter" 32) (.builtin "iter")) :: (.mk (PyData.keyHash P "aiter") (.str "aiter" 33) (.builtin "aiter")) :: (.mk (PyData.keyHash P "len") (.str "len" 34) (.builtin "len")) :: (.mk (PyData.keyHash P "locals") (.str "locals" 35) (.builtin "locals")) :: (.mk (PyData.keyHash P "max") (.str "max" 36) (.builtin "max")) :: (.mk (PyData.keyHash P "min") (.str "min" 37) (.builtin "min")) :: (.mk (PyData.keyHash P "next") (.str "next" 38) (.builtin "next")) :: (.mk (PyData.keyHash P "anext") (.str "anext" 39) (.builtin "anext")) :: (.mk (PyData.keyHash P "oct") (.str "oct" 40) (.builtin "oct")) :: (.mk (PyData.keyHash P "ord") (.str "ord" 41) (.builtin "ord")) :: (.mk (PyData.keyHash P "pow") (.str "pow" 42) (.builtin "pow")) :: (.mk (PyData.keyHash P "print") (.str "print" 43) (.builtin "print")) :: (.mk (PyData.keyHash P "repr") (.str "repr" 44) (.builtin "repr")) :: (.mk (PyData.keyHash P "round") (.str "round" 45) (.builtin "round")) :: (.mk (PyData.keyHash P "setattr") (.str "setattr" 46) (.builtin "setattr")) :: (.mk (PyData.keyHash P "sorted") (.str "sorted" 47) (.builtin "sorted")) :: (.mk (PyData.keyHash P "sum") (.str "sum" 48) (.builtin "sum")) :: (.mk (PyData.keyHash P "vars") (.str "vars" 49) (.builtin "vars")) :: (.mk (PyData.keyHash P "None") (.str "None" 50) .none) :: (.mk (PyData.keyHash P "Ellipsis") (.str "Ellipsis" 51) .ellipsis) :: (.mk (PyData.keyHash P "NotImplemented") (.str "NotImplemented" 52) .notImplemented) :: (.mk (PyData.keyHash P "False") (.str "False" 53) (.bool false)) :: (.mk (PyData.keyHash P "True") (.str "True" 54) (.bool true)) :: (.mk (PyData.keyHash P "bool") (.str "bool" 55) (.type "bool")) :: (.mk (PyData.keyHash P "memoryview") (.str "memoryview" 56) (.type "memoryview")) :: (.mk (PyData.keyHash P "bytearray") (.str "bytearray" 57) (.type "bytearray")) :: (.mk (PyData.keyHash P "bytes") (.str "bytes" 58) (.type "bytes")) :: (.mk (PyData.keyHash P "classmethod") (.str "classmethod" 59) (.type "classmethod")) :: (.mk (PyData.keyHash P "complex") (.str "complex" 60) (.type "complex")) :: (.mk (PyData.keyHash P "dict") (.str "dict" 61) (.type "dict")) :: (.mk (PyData.keyHash P "enumerate") (.str "enumerate" 62) (.type "enumerate")) :: (.mk (PyData.keyHash P "filter") (.str "filter" 63) (.type "filter")) :: (.mk (PyData.keyHash P "float") (.str "float" 64) (.type "float")) :: (.mk (PyData.keyHash P "frozenset") (.str "frozenset" 65) (.type "frozenset")) :: (.mk (PyData.keyHash P "property") (.str "property" 66) (.type "property")) :: (.mk (PyData.keyHash P "int") (.str "int" 67) (.type "int")) :: (.mk (PyData.keyHash P "list") (.str "list" 68) (.type "list")) :: (.mk (PyData.keyHash P "map") (.str "map" 69) (.type "map")) :: (.mk (PyData.keyHash P "object") (.str "object" 70) (.type "object")) :: (.mk (PyData.keyHash P "range") (.str "range" 71) (.type "range")) :: (.mk (PyData.keyHash P "reversed") (.str "reversed" 72) (.type "reversed")) :: (.mk (PyData.keyHash P "set") (.str "set" 73) (.type "set")) :: (.mk (PyData.keyHash P "slice") (.str "slice" 74) (.type "slice")) :: (.mk (PyData.keyHash P "staticmethod") (.str "staticmethod" 75) (.type "staticmethod")) :: (.mk (PyData.keyHash P "str") (.str "str" 76) (.type "str")) :: (.mk (PyData.keyHash P "super") (.str "super" 77) (.type "super")) :: (.mk (PyData.keyHash P "tuple") (.str "tuple" 78) (.type "tuple")) :: (.mk (PyData.keyHash P "type") (.str "type" 79) (.type "type")) :: (.mk (PyData.keyHash P "zip") (.str "zip" 80) (.type "zip")) :: (.mk (PyData.keyHash P "__debug__") (.str "__debug__" 81) (.bool true)) :: (.mk (PyData.keyHash P "BaseException") (.str "BaseException" 82) (.type "BaseException")) :: (.mk (PyData.keyHash P "BaseExceptionGroup") (.str "BaseExceptionGroup" 83) (.type "BaseExceptionGroup")) :: (.mk (PyData.keyHash P "Exception") (.str "Exception" 84) (.type "Exception")) :: (.mk (PyData.keyHash P "GeneratorExit") (.str "GeneratorExit" 85) (.type "GeneratorExit")) :: (.mk (PyData.keyHash P "KeyboardInterrupt") (.str "KeyboardInterrupt" 86) (.type "KeyboardInterrupt")) :: (.mk (PyData.keyHash P "SystemExit") (.str "SystemExit" 87) (.type "SystemExit")) :: (.mk (PyData.keyHash P "ArithmeticError") (.str "ArithmeticError" 88) (.type "ArithmeticError")) :: (.mk (PyData.keyHash P "AssertionError") (.str "AssertionError" 89) (.type "AssertionError")) :: (.mk (PyData.keyHash P "AttributeError") (.str "AttributeError" 90) (.type "AttributeError")) :: (.mk (PyData.keyHash P "BufferError") (.str "BufferError" 91) (.type "BufferError")) :: (.mk (PyData.keyHash P "EOFError") (.str "EOFError" 92) (.type "EOFError")) :: (.mk (PyData.keyHash P "ImportError") (.str "ImportError" 93) (.type "ImportError")) :: (.mk (PyData.keyHash P "LookupError") (.str "LookupError" 94) (.type "LookupError")) :: (.mk (PyData.keyHash P "MemoryError") (.str "MemoryError" 95) (.type "MemoryError")) :: (.mk (PyData.keyHash P "NameError") (.str "NameError" 96) (.type "NameError")) :: (.mk (PyData.keyHash P "OSError") (.str "OSError" 97) (.type "OSError")) :: (.mk (PyData.keyHash P "ReferenceError") (.str "ReferenceError" 98) (.type "ReferenceError")) :: (.mk (PyData.keyHash P "RuntimeError") (.str "RuntimeError" 99) (.type "RuntimeError")) :: (.mk (PyData.keyHash P "StopAsyncIteration") (.str "StopAsyncIteration" 100) (.type "StopAsyncIteration")) :: (.mk (PyData.keyHash P "StopIteration") (.str "StopIteration" 101) (.type "StopIteration")) :: (.mk (PyData.keyHash P "SyntaxError") (.str "SyntaxError" 102) (.type "SyntaxError")) :: (.mk (PyData.keyHash P "SystemError") (.str "SystemError" 103) (.type "SystemError")) :: (.mk (PyData.keyHash P "TypeError") (.str "TypeError" 104) (.type "TypeError")) :: (.mk (PyData.keyHash P "ValueError") (.str "ValueError" 105) (.type "ValueError")) :: (.mk (PyData.keyHash P "Warning") (.str "Warning" 106) (.type "Warning")) :: (.mk (PyData.keyHash P "FloatingPointError") (.str "FloatingPointError" 107) (.type "FloatingPointError")) :: (.mk (PyData.keyHash P "OverflowError") (.str "OverflowError" 108) (.type "OverflowError")) :: (.mk (PyData.keyHash P "ZeroDivisionError") (.str "ZeroDivisionError" 109) (.type "ZeroDivisionError")) :: (.mk (PyData.keyHash P "BytesWarning") (.str "BytesWarning" 110) (.type "BytesWarning")) :: (.mk (PyData.keyHash P "DeprecationWarning") (.str "DeprecationWarning" 111) (.type "DeprecationWarning")) :: (.mk (PyData.keyHash P "EncodingWarning") (.str "EncodingWarning" 112) (.type "EncodingWarning")) :: (.mk (PyData.keyHash P "FutureWarning") (.str "FutureWarning" 113) (.type "FutureWarning")) :: (.mk (PyData.keyHash P "ImportWarning") (.str "ImportWarning" 114) (.type "ImportWarning")) :: (.mk (PyData.keyHash P "PendingDeprecationWarning") (.str "PendingDeprecationWarning" 115) (.type "PendingDeprecationWarning")) :: (.mk (PyData.keyHash P "ResourceWarning") (.str "ResourceWarning" 116) (.type "ResourceWarning")) :: (.mk (PyData.keyHash P "RuntimeWarning") (.str "RuntimeWarning" 117) (.type "RuntimeWarning")) :: (.mk (PyData.keyHash P "SyntaxWarning") (.str "SyntaxWarning" 118) (.type "SyntaxWarning")) :: (.mk (PyData.keyHash P "UnicodeWarning") (.str "UnicodeWarning" 119) (.type "UnicodeWarning")) :: (.mk (PyData.keyHash P "UserWarning") (.str "UserWarning" 120) (.type "UserWarning")) :: (.mk (PyData.keyHash P "BlockingIOError") (.str "BlockingIOError" 121) (.type "BlockingIOError")) :: (.mk (PyData.keyHash P "ChildProcessError") (.str "ChildProcessError" 122) (.type "ChildProcessError")) :: (.mk (PyData.keyHash P "ConnectionError") (.str "ConnectionError" 123) (.type "ConnectionError")) :: (.mk (PyData.keyHash P "FileExistsError") (.str "FileExistsError" 124) (.type "FileExistsError")) :: (.mk (PyData.keyHash P "FileNotFoundError") (.str "FileNotFoundError" 125) (.type "FileNotFoundError")) :: (.mk (PyData.keyHash P "InterruptedError") (.str "InterruptedError" 126) (.type "InterruptedError")) :: (.mk (PyData.keyHash P "IsADirectoryError") (.str "IsADirectoryError" 127) (.type "IsADirectoryError")) :: (.mk (PyData.keyHash P "NotADirectoryError") (.str "NotADirectoryError" 128) (.type "NotADirectoryError")) :: (.mk (PyData.keyHash P "PermissionError") (.str "PermissionError" 129) (.type "PermissionError")) :: (.mk (PyData.keyHash P "ProcessLookupError") (.str "ProcessLookupError" 130) (.type "ProcessLookupError")) :: (.mk (PyData.keyHash P "TimeoutError") (.str "TimeoutError" 131) (.type "TimeoutError")) :: (.mk (PyData.keyHash P "IndentationError") (.str "IndentationError" 132) (.type "IndentationError")) :: (.mk (PyData.keyHash P "_IncompleteInputError") (.str "_IncompleteInputError" 133) (.type "_IncompleteInputError")) :: (.mk (PyData.keyHash P "IndexError") (.str "IndexError" 134) (.type "IndexError")) :: (.mk (PyData.keyHash P "KeyError") (.str "KeyError" 135) (.type "KeyError")) :: (.mk (PyData.keyHash P "ModuleNotFoundError") (.str "ModuleNotFoundError" 136) (.type "ModuleNotFoundError")) :: (.mk (PyData.keyHash P "NotImplementedError") (.str "NotImplementedError" 137) (.type "NotImplementedError")) :: (.mk (PyData.keyHash P "PythonFinalizationError") (.str "PythonFinalizationError" 138) (.type "PythonFinalizationError")) :: (.mk (PyData.keyHash P "RecursionError") (.str "RecursionError" 139) (.type "RecursionError")) :: (.mk (PyData.keyHash P "UnboundLocalError") (.str "UnboundLocalError" 140) (.type "UnboundLocalError")) :: (.mk (PyData.keyHash P "UnicodeError") (.str "UnicodeError" 141) (.type "UnicodeError")) :: (.mk (PyData.keyHash P "BrokenPipeError") (.str "BrokenPipeError" 142) (.type "BrokenPipeError")) :: (.mk (PyData.keyHash P "ConnectionAbortedError") (.str "ConnectionAbortedError" 143) (.type "ConnectionAbortedError")) :: (.mk (PyData.keyHash P "ConnectionRefusedError") (.str "ConnectionRefusedError" 144) (.type "ConnectionRefusedError")) :: (.mk (PyData.keyHash P "ConnectionResetError") (.str "ConnectionResetError" 145) (.type "ConnectionResetError")) :: (.mk (PyData.keyHash P "TabError") (.str "TabError" 146) (.type "TabError")) :: (.mk (PyData.keyHash P "UnicodeDecodeError") (.str "UnicodeDecodeError" 147) (.type "UnicodeDecodeError")) :: (.mk (PyData.keyHash P "UnicodeEncodeError") (.str "UnicodeEncodeError" 148) (.type "UnicodeEncodeError")) :: (.mk (PyData.keyHash P "UnicodeTranslateError") (.str "UnicodeTranslateError" 149) (.type "UnicodeTranslateError")) :: (.mk (PyData.keyHash P "ExceptionGroup") (.str "ExceptionGroup" 150) (.type "ExceptionGroup")) :: (.mk (PyData.keyHash P "EnvironmentError") (.str "EnvironmentError" 151) (.type "OSError")) :: (.mk (PyData.keyHash P "IOError") (.str "IOError" 152) (.type "OSError")) :: (.mk (PyData.keyHash P "open") (.str "open" 153) (.builtin "open")) :: (.mk (PyData.keyHash P "quit") (.str "quit" 154) (.builtin "builtins.quit#opaque")) :: (.mk (PyData.keyHash P "exit") (.str "exit" 155) (.builtin "builtins.exit#opaque")) :: (.mk (PyData.keyHash P "copyright") (.str "copyright" 156) (.builtin "builtins.copyright#opaque")) :: (.mk (PyData.keyHash P "credits") (.str "credits" 157) (.builtin "builtins.credits#opaque")) :: (.mk (PyData.keyHash P "license") (.str "license" 158) (.builtin "builtins.license#opaque")) :: (.mk (PyData.keyHash P "help") (.str "help" 159) (.builtin "builtins.help#opaque")) :: [])) 159) #[])
noncomputable def o42 (P : Params) : Obj := (.mk (.type "dict") none (.dict #[(.mk (PyData.keyHash P "builtins") (.str "builtins" 162) (.ref 4)), (.mk (PyData.keyHash P "__main__") (.str "__main__" 163) (.ref 5)), (.mk (PyData.keyHash P "_sre") (.str "_sre" 244) (.ref 12))] 3) #[])
noncomputable def o44 (P : Params) : Obj := (.mk (.type "dict") none (.dict #[(.mk (PyData.keyHash P "__name__") (.str "__name__" 165) (.str "__main__" 164)), (.mk (PyData.keyHash P "__doc__") (.str "__doc__" 166) .none), (.mk (PyData.keyHash P "__package__") (.str "__package__" 167) .none), (.mk (PyData.keyHash P "__loader__") (.str "__loader__" 168) (.builtin "__main__.__loader__#opaque")), (.mk (PyData.keyHash P "__spec__") (.str "__spec__" 169) .none), (.mk (PyData.keyHash P "__annotations__") (.str "__annotations__" 170) (.ref 6)), (.mk (PyData.keyHash P "__builtins__") (.str "__builtins__" 171) (.ref 4)), (.mk (PyData.keyHash P "__file__") (.str "__file__" 173) (.str "/claim/cut.py" 172)), (.mk (PyData.keyHash P "__cached__") (.str "__cached__" 174) .none), (.mk (PyData.keyHash P "_sre") (.str "_sre" 275) (.ref 12))] 10) #[])
noncomputable def o45 (P : Params) : Obj := (.mk (.type "module") (some 0) .plain #[])
noncomputable def o46 (P : Params) : Obj := (.mk (.type "module") (some 3) .plain #[])
noncomputable def o47 (P : Params) : Obj := (.mk (.type "dict") none (.dict #[] 0) #[])
noncomputable def o48 (P : Params) : Obj := (.mk (.type "tuple") none (.seq #[] 0) #[])
noncomputable def o49 (P : Params) : Obj := (.mk .none none (.fields #[]) #[])
noncomputable def o50 (P : Params) : Obj := (.mk (.type "code") none (.fields #[(.str "<module>" 176), (.str "<module>" 177), (.str "/claim/cut.py" 178), (.int 1 0), (.int 0 0), (.int 0 0), (.int 0 0), (.int 0 0), (.ref 7), (.bool false), (.int 175 0), (.ref 8), .none, .none, .none, .none, (.int 179 0), (.int 1 0), (.str "/claim/cut.py" 180)]) #[])
noncomputable def o51 (P : Params) : Obj := (.mk (.type "frame") none .plain #[(some (.ref 9)), (some (.ref 3)), (some (.ref 3)), none, (some (.str "__main__" 164)), none, (some (.ref 0))])
noncomputable def o52 (P : Params) : Obj := (.mk (.type "dict") none (.dict #[(.mk (PyData.keyHash P "__name__") (.str "__name__" 247) (.str "_sre" 246)), (.mk (PyData.keyHash P "__doc__") (.str "__doc__" 248) .none), (.mk (PyData.keyHash P "__package__") (.str "__package__" 250) (.str "" 249)), (.mk (PyData.keyHash P "__loader__") (.str "__loader__" 251) (.builtin "off-the-table:_sre.__loader__:shared#opaque")), (.mk (PyData.keyHash P "__spec__") (.str "__spec__" 252) (.builtin "off-the-table:_sre.__spec__:shared#opaque")), (.mk (PyData.keyHash P "compile") (.str "compile" 253) (.builtin "_sre.compile")), (.mk (PyData.keyHash P "template") (.str "template" 254) (.builtin "off-the-table:_sre.template:shared#opaque")), (.mk (PyData.keyHash P "getcodesize") (.str "getcodesize" 255) (.builtin "off-the-table:_sre.getcodesize:shared#opaque")), (.mk (PyData.keyHash P "ascii_iscased") (.str "ascii_iscased" 256) (.builtin "off-the-table:_sre.ascii_iscased:shared#opaque")), (.mk (PyData.keyHash P "unicode_iscased") (.str "unicode_iscased" 257) (.builtin "off-the-table:_sre.unicode_iscased:shared#opaque")), (.mk (PyData.keyHash P "ascii_tolower") (.str "ascii_tolower" 258) (.builtin "off-the-table:_sre.ascii_tolower:shared#opaque")), (.mk (PyData.keyHash P "unicode_tolower") (.str "unicode_tolower" 259) (.builtin "off-the-table:_sre.unicode_tolower:shared#opaque")), (.mk (PyData.keyHash P "MAGIC") (.str "MAGIC" 261) (.int 20230612 260)), (.mk (PyData.keyHash P "CODESIZE") (.str "CODESIZE" 263) (.int 4 262)), (.mk (PyData.keyHash P "MAXREPEAT") (.str "MAXREPEAT" 265) (.int 4294967295 264)), (.mk (PyData.keyHash P "MAXGROUPS") (.str "MAXGROUPS" 267) (.int 1073741823 266)), (.mk (PyData.keyHash P "copyright") (.str "copyright" 269) (.str " SRE 2.2.2 Copyright (c) 1997-2002 by Secret Labs AB " 268))] 17) #[])
noncomputable def o53 (P : Params) : Obj := (.mk (.type "module") (some 11) .plain #[])
noncomputable def o54 (P : Params) : Obj := (.mk (.type "dict") none (.dict #[(.mk (PyData.keyHash P "__module__") (.str "__module__" 189) (.str "_frozen_importlib" 186)), (.mk (PyData.keyHash P "__firstlineno__") (.str "__firstlineno__" 190) (.int 971 187)), (.mk (PyData.keyHash P "__doc__") (.str "__doc__" 191) (.builtin "_frozen_importlib.BuiltinImporter.__doc__:str#opaque")), (.mk (PyData.keyHash P "_ORIGIN") (.str "_ORIGIN" 192) (.str "built-in" 188)), (.mk (PyData.keyHash P "find_spec") (.str "find_spec" 193) (.builtin "_frozen_importlib.BuiltinImporter.find_spec#opaque")), (.mk (PyData.keyHash P "create_module") (.str "create_module" 194) (.builtin "_frozen_importlib.BuiltinImporter.create_module#opaque")), (.mk (PyData.keyHash P "exec_module") (.str "exec_module" 195) (.builtin "_frozen_importlib.BuiltinImporter.exec_module#opaque")), (.mk (PyData.keyHash P "get_code") (.str "get_code" 196) (.builtin "_frozen_importlib.BuiltinImporter.get_code#opaque")), (.mk (PyData.keyHash P "get_source") (.str "get_source" 197) (.builtin "_frozen_importlib.BuiltinImporter.get_source#opaque")), (.mk (PyData.keyHash P "is_package") (.str "is_package" 198) (.builtin "_frozen_importlib.BuiltinImporter.is_package#opaque")), (.mk (PyData.keyHash P "load_module") (.str "load_module" 199) (.builtin "_frozen_importlib.BuiltinImporter.load_module#opaque")), (.mk (PyData.keyHash P "__static_attributes__") (.str "__static_attributes__" 200) (.ref 15)), (.mk (PyData.keyHash P "__dict__") (.str "__dict__" 202) (.ref 16)), (.mk (PyData.keyHash P "__weakref__") (.str "__weakref__" 204) (.ref 17))] 14) #[])
noncomputable def o55 (P : Params) : Obj := (.mk (.type "type") none (.cls (.mk "BuiltinImporter" [(.type "object")] [(.ref 14), (.type "object")] 13 "BuiltinImporter" true [] [] false none false)) #[])
noncomputable def o56 (P : Params) : Obj := (.mk (.type "tuple") none (.seq #[] 0) #[])
noncomputable def o57 (P : Params) : Obj := (.mk (.type "getset_descriptor") none (.fields #[(.str "__dict__" 201), (.ref 14), (.builtin "function.__dict__"), (.builtin "function.__dict__#set")]) #[])
noncomputable def o58 (P : Params) : Obj := (.mk (.type "getset_descriptor") none (.fields #[(.str "__weakref__" 203), (.ref 14), (.builtin "ExceptionGroup.__weakref__"), .none]) #[])
noncomputable def o59 (P : Params) : Obj := (.mk .none none (.seq #[(.int 13 0), (.str ⟨Array.mk (6 :: 189 :: 10 :: 95 :: 95 :: 109 :: 111 :: 100 :: 117 :: 108 :: 101 :: 95 :: 95 :: 6 :: 186 :: 17 :: 95 :: 102 :: 114 :: 111 :: 122 :: 101 :: 110 :: 95 :: 105 :: 109 :: 112 :: 111 :: 114 :: 116 :: 108 :: 105 :: 98 :: 6 :: 190 :: 15 :: 95 :: 95 :: 102 :: 105 :: 114 :: 115 :: 116 :: 108 :: 105 :: 110 :: 101 :: 110 :: 111 :: 95 :: 95 :: 4 :: 187 :: 0 :: 971 :: 6 :: 191 :: 7 :: 95 :: 95 :: 100 :: 111 :: 99 :: 95 :: 95 :: 9 :: 52 :: 95 :: 102 :: 114 :: 111 :: 122 :: 101 :: 110 :: 95 :: 105 :: 109 :: 112 :: 111 :: 114 :: 116 :: 108 :: 105 :: 98 :: 46 :: 66 :: 117 :: 105 :: 108 :: 116 :: 105 :: 110 :: 73 :: 109 :: 112 :: 111 :: 114 :: 116 :: 101 :: 114 :: 46 :: 95 :: 95 :: 100 :: 111 :: 99 :: 95 :: 95 :: 58 :: 115 :: 116 :: 114 :: 35 :: 111 :: 112 :: 97 :: 113 :: 117 :: 101 :: 6 :: 192 :: 7 :: 95 :: 79 :: 82 :: 73 :: 71 :: 73 :: 78 :: 6 :: 188 :: 8 :: 98 :: 117 :: 105 :: 108 :: 116 :: 45 :: 105 :: 110 :: 6 :: 193 :: 9 :: 102 :: 105 :: 110 :: 100 :: 95 :: 115 :: 112 :: 101 :: 99 :: 9 :: 50 :: 95 :: 102 :: 114 :: 111 :: 122 :: 101 :: 110 :: 95 :: 105 :: 109 :: 112 :: 111 :: 114 :: 116 :: 108 :: 105 :: 98 :: 46 :: 66 :: 117 :: 105 :: 108 :: 116 :: 105 :: 110 :: 73 :: 109 :: 112 :: 111 :: 114 :: 116 :: 101 :: 114 :: 46 :: 102 :: 105 :: 110 :: 100 :: 95 :: 115 :: 112 :: 101 :: 99 :: 35 :: 111 :: 112 :: 97 :: 113 :: 117 :: 101 :: 6 :: 194 :: 13 :: 99 :: 114 :: 101 :: 97 :: 116 :: 101 :: 95 :: 109 :: 111 :: 100 :: 117 :: 108 :: 101 :: 9 :: 54 :: 95 :: 102 :: 114 :: 111 :: 122 :: 101 :: 110 :: 95 :: 105 :: 109 :: 112 :: 111 :: 114 :: 116 :: 108 :: 105 :: 98 :: 46 :: 66 :: 117 :: 105 :: 108 :: 116 :: 105 :: 110 :: 73 :: 109 :: 112 :: 111 :: 114 :: 116 :: 101 :: 114 :: 46 :: 99 :: 114 :: 101 :: 97 :: 116 :: 101 :: 95 :: 109 :: 111 :: 100 :: 117 :: 108 :: 101 :: 35 :: 111 :: 112 :: 97 :: 113 :: 117 :: 101 :: 6 :: 195 :: 11 :: 101 :: 120 :: 101 :: 99 :: 95 :: 109 :: 111 :: 100 :: 117 :: 108 :: 101 :: 9 :: 52 :: 95 :: 102 :: 114 :: 111 :: 122 :: 101 :: 110 :: 95 :: 105 :: 109 :: 112 :: 111 :: 114 :: 116 :: 108 :: 105 :: 98 :: 46 :: 66 :: 117 :: 105 :: 108 :: 116 :: 105 :: 110 :: 73 :: 109 :: 112 :: 111 :: 114 :: 116 :: 101 :: 114 :: 46 :: 101 :: 120 :: 101 :: 99 :: 95 :: 109 :: 111 :: 100 :: 117 :: 108 :: 101 :: 35 :: 111 :: 112 :: 97 :: 113 :: 117 :: 101 :: 6 :: 196 :: 8 :: 103 :: 101 :: 116 :: 95 :: 99 :: 111 :: 100 :: 101 :: 9 :: 49 :: 95 :: 102 :: 114 :: 111 :: 122 :: 101 :: 110 :: 95 :: 105 :: 109 :: 112 :: 111 :: 114 :: 116 :: 108 :: 105 :: 98 :: 46 :: 66 :: 117 :: 105 :: 108 :: 116 :: 105 :: 110 :: 73 :: 109 :: 112 :: 111 :: 114 :: 116 :: 101 :: 114 :: 46 :: 103 :: 101 :: 116 :: 95 :: 99 :: 111 :: 100 :: 101 :: 35 :: 111 :: 112 :: 97 :: 113 :: 117 :: 101 :: 6 :: 197 :: 10 :: 103 :: 101 :: 116 :: 95 :: 115 :: 111 :: 117 :: 114 :: 99 :: 101 :: 9 :: 51 :: 95 :: 102 :: 114 :: 111 :: 122 :: 101 :: 110 :: 95 :: 105 :: 109 :: 112 :: 111 :: 114 :: 116 :: 108 :: 105 :: 98 :: 46 :: 66 :: 117 :: 105 :: 108 :: 116 :: 105 :: 110 :: 73 :: 109 :: 112 :: 111 :: 114 :: 116 :: 101 :: 114 :: 46 :: 103 :: 101 :: 116 :: 95 :: 115 :: 111 :: 117 :: 114 :: 99 :: 101 :: 35 :: 111 :: 112 :: 97 :: 113 :: 117 :: 101 :: 6 :: 198 :: 10 :: 105 :: 115 :: 95 :: 112 :: 97 :: 99 :: 107 :: 97 :: 103 :: 101 :: 9 :: 51 :: 95 :: 102 :: 114 :: 111 :: 122 :: 101 :: 110 :: 95 :: 105 :: 109 :: 112 :: 111 :: 114 :: 116 :: 108 :: 105 :: 98 :: 46 :: 66 :: 117 :: 105 :: 108 :: 116 :: 105 :: 110 :: 73 :: 109 :: 112 :: 111 :: 114 :: 116 :: 101 :: 114 :: 46 :: 105 :: 115 :: 95 :: 112 :: 97 :: 99 :: 107 :: 97 :: 103 :: 101 :: 35 :: 111 :: 112 :: 97 :: 113 :: 117 :: 101 :: 6 :: 199 :: 11 :: 108 :: 111 :: 97 :: 100 :: 95 :: 109 :: 111 :: 100 :: 117 :: 108 :: 101 :: 9 :: 52 :: 95 :: 102 :: 114 :: 111 :: 122 :: 101 :: 110 :: 95 :: 105 :: 109 :: 112 :: 111 :: 114 :: 116 :: 108 :: 105 :: 98 :: 46 :: 66 :: 117 :: 105 :: 108 :: 116 :: 105 :: 110 :: 73 :: 109 :: 112 :: 111 :: 114 :: 116 :: 101 :: 114 :: 46 :: 108 :: 111 :: 97 :: 100 :: 95 :: 109 :: 111 :: 100 :: 117 :: 108 :: 101 :: 35 :: 111 :: 112 :: 97 :: 113 :: 117 :: 101 :: 6 :: 200 :: 21 :: 95 :: 95 :: 115 :: 116 :: 97 :: 116 :: 105 :: 99 :: 95 :: 97 :: 116 :: 116 :: 114 :: 105 :: 98 :: 117 :: 116 :: 101 :: 115 :: 95 :: 95 :: 4 :: 0 :: 0 :: 15 :: 6 :: 202 :: 8 :: 95 :: 95 :: 100 :: 105 :: 99 :: 116 :: 95 :: 95 :: 4 :: 0 :: 0 :: 16 :: 6 :: 204 :: 11 :: 95 :: 95 :: 119 :: 101 :: 97 :: 107 :: 114 :: 101 :: 102 :: 95 :: 95 :: 4 :: 0 :: 0 :: 17 :: [])⟩ 0), (.bool true), (.bool true), (.str "" 205), (.int 21 0), (.str ⟨Array.mk (6 :: 227 :: 10 :: 95 :: 95 :: 109 :: 111 :: 100 :: 117 :: 108 :: 101 :: 95 :: 95 :: 6 :: 217 :: 17 :: 95 :: 102 :: 114 :: 111 :: 122 :: 101 :: 110 :: 95 :: 105 :: 109 :: 112 :: 111 :: 114 :: 116 :: 108 :: 105 :: 98 :: 6 :: 228 :: 15 :: 95 :: 95 :: 102 :: 105 :: 114 :: 115 :: 116 :: 108 :: 105 :: 110 :: 101 :: 110 :: 111 :: 95 :: 95 :: 4 :: 218 :: 0 :: 562 :: 6 :: 229 :: 7 :: 95 :: 95 :: 100 :: 111 :: 99 :: 95 :: 95 :: 9 :: 47 :: 95 :: 102 :: 114 :: 111 :: 122 :: 101 :: 110 :: 95 :: 105 :: 109 :: 112 :: 111 :: 114 :: 116 :: 108 :: 105 :: 98 :: 46 :: 77 :: 111 :: 100 :: 117 :: 108 :: 101 :: 83 :: 112 :: 101 :: 99 :: 46 :: 95 :: 95 :: 100 :: 111 :: 99 :: 95 :: 95 :: 58 :: 115 :: 116 :: 114 :: 35 :: 111 :: 112 :: 97 :: 113 :: 117 :: 101 :: 6 :: 230 :: 8 :: 95 :: 95 :: 105 :: 110 :: 105 :: 116 :: 95 :: 95 :: 9 :: 44 :: 95 :: 102 :: 114 :: 111 :: 122 :: 101 :: 110 :: 95 :: 105 :: 109 :: 112 :: 111 :: 114 :: 116 :: 108 :: 105 :: 98 :: 46 :: 77 :: 111 :: 100 :: 117 :: 108 :: 101 :: 83 :: 112 :: 101 :: 99 :: 46 :: 95 :: 95 :: 105 :: 110 :: 105 :: 116 :: 95 :: 95 :: 35 :: 111 :: 112 :: 97 :: 113 :: 117 :: 101 :: 6 :: 231 :: 8 :: 95 :: 95 :: 114 :: 101 :: 112 :: 114 :: 95 :: 95 :: 9 :: 44 :: 95 :: 102 :: 114 :: 111 :: 122 :: 101 :: 110 :: 95 :: 105 :: 109 :: 112 :: 111 :: 114 :: 116 :: 108 :: 105 :: 98 :: 46 :: 77 :: 111 :: 100 :: 117 :: 108 :: 101 :: 83 :: 112 :: 101 :: 99 :: 46 :: 95 :: 95 :: 114 :: 101 :: 112 :: 114 :: 95 :: 95 :: 35 :: 111 :: 112 :: 97 :: 113 :: 117 :: 101 :: 6 :: 232 :: 6 :: 95 :: 95 :: 101 :: 113 :: 95 :: 95 :: 9 :: 42 :: 95 :: 102 :: 114 :: 111 :: 122 :: 101 :: 110 :: 95 :: 105 :: 109 :: 112 :: 111 :: 114 :: 116 :: 108 :: 105 :: 98 :: 46 :: 77 :: 111 :: 100 :: 117 :: 108 :: 101 :: 83 :: 112 :: 101 :: 99 :: 46 :: 95 :: 95 :: 101 :: 113 :: 95 :: 95 :: 35 :: 111 :: 112 :: 97 :: 113 :: 117 :: 101 :: 6 :: 233 :: 6 :: 99 :: 97 :: 99 :: 104 :: 101 :: 100 :: 9 :: 42 :: 95 :: 102 :: 114 :: 111 :: 122 :: 101 :: 110 :: 95 :: 105 :: 109 :: 112 :: 111 :: 114 :: 116 :: 108 :: 105 :: 98 :: 46 :: 77 :: 111 :: 100 :: 117 :: 108 :: 101 :: 83 :: 112 :: 101 :: 99 :: 46 :: 99 :: 97 :: 99 :: 104 :: 101 :: 100 :: 35 :: 111 :: 112 :: 97 :: 113 :: 117 :: 101 :: 6 :: 234 :: 6 :: 112 :: 97 :: 114 :: 101 :: 110 :: 116 :: 9 :: 42 :: 95 :: 102 :: 114 :: 111 :: 122 :: 101 :: 110 :: 95 :: 105 :: 109 :: 112 :: 111 :: 114 :: 116 :: 108 :: 105 :: 98 :: 46 :: 77 :: 111 :: 100 :: 117 :: 108 :: 101 :: 83 :: 112 :: 101 :: 99 :: 46 :: 112 :: 97 :: 114 :: 101 :: 110 :: 116 :: 35 :: 111 :: 112 :: 97 :: 113 :: 117 :: 101 :: 6 :: 235 :: 12 :: 104 :: 97 :: 115 :: 95 :: 108 :: 111 :: 99 :: 97 :: 116 :: 105 :: 111 :: 110 :: 9 :: 48 :: 95 :: 102 :: 114 :: 111 :: 122 :: 101 :: 110 :: 95 :: 105 :: 109 :: 112 :: 111 :: 114 :: 116 :: 108 :: 105 :: 98 :: 46 :: 77 :: 111 :: 100 :: 117 :: 108 :: 101 :: 83 :: 112 :: 101 :: 99 :: 46 :: 104 :: 97 :: 115 :: 95 :: 108 :: 111 :: 99 :: 97 :: 116 :: 105 :: 111 :: 110 :: 35 :: 111 :: 112 :: 97 :: 113 :: 117 :: 101 :: 6 :: 236 :: 21 :: 95 :: 95 :: 115 :: 116 :: 97 :: 116 :: 105 :: 99 :: 95 :: 97 :: 116 :: 116 :: 114 :: 105 :: 98 :: 117 :: 116 :: 101 :: 115 :: 95 :: 95 :: 4 :: 0 :: 0 :: 23 :: 6 :: 238 :: 8 :: 95 :: 95 :: 100 :: 105 :: 99 :: 116 :: 95 :: 95 :: 4 :: 0 :: 0 :: 24 :: 6 :: 240 :: 11 :: 95 :: 95 :: 119 :: 101 :: 97 :: 107 :: 114 :: 101 :: 102 :: 95 :: 95 :: 4 :: 0 :: 0 :: 25 :: 6 :: 241 :: 8 :: 95 :: 95 :: 104 :: 97 :: 115 :: 104 :: 95 :: 95 :: 0 :: [])⟩ 0), (.bool true), (.bool true), (.str "" 242)] 1) #[])
noncomputable def o60 (P : Params) : Obj := (.mk (.type "list") none (.seq #[] 0) #[])
noncomputable def o61 (P : Params) : Obj := (.mk (.type "dict") none (.dict #[(.mk (PyData.keyHash P "name") (.str "name" 208) (.str "_sre" 207)), (.mk (PyData.keyHash P "loader") (.str "loader" 209) (.ref 14)), (.mk (PyData.keyHash P "origin") (.str "origin" 210) (.str "built-in" 184)), (.mk (PyData.keyHash P "loader_state") (.str "loader_state" 211) .none), (.mk (PyData.keyHash P "submodule_search_locations") (.str "submodule_search_locations" 212) .none), (.mk (PyData.keyHash P "_uninitialized_submodules") (.str "_uninitialized_submodules" 213) (.ref 19)), (.mk (PyData.keyHash P "_set_fileattr") (.str "_set_fileattr" 214) (.bool false)), (.mk (PyData.keyHash P "_cached") (.str "_cached" 215) .none), (.mk (PyData.keyHash P "_initializing") (.str "_initializing" 243) (.bool false))] 9) #[])
noncomputable def o62 (P : Params) : Obj := (.mk (.type "dict") none (.dict #[(.mk (PyData.keyHash P "__module__") (.str "__module__" 227) (.str "_frozen_importlib" 217)), (.mk (PyData.keyHash P "__firstlineno__") (.str "__firstlineno__" 228) (.int 562 218)), (.mk (PyData.keyHash P "__doc__") (.str "__doc__" 229) (.builtin "_frozen_importlib.ModuleSpec.__doc__:str#opaque")), (.mk (PyData.keyHash P "__init__") (.str "__init__" 230) (.builtin "_frozen_importlib.ModuleSpec.__init__#opaque")), (.mk (PyData.keyHash P "__repr__") (.str "__repr__" 231) (.builtin "_frozen_importlib.ModuleSpec.__repr__#opaque")), (.mk (PyData.keyHash P "__eq__") (.str "__eq__" 232) (.builtin "_frozen_importlib.ModuleSpec.__eq__#opaque")), (.mk (PyData.keyHash P "cached") (.str "cached" 233) (.builtin "_frozen_importlib.ModuleSpec.cached#opaque")), (.mk (PyData.keyHash P "parent") (.str "parent" 234) (.builtin "_frozen_importlib.ModuleSpec.parent#opaque")), (.mk (PyData.keyHash P "has_location") (.str "has_location" 235) (.builtin "_frozen_importlib.ModuleSpec.has_location#opaque")), (.mk (PyData.keyHash P "__static_attributes__") (.str "__static_attributes__" 236) (.ref 23)), (.mk (PyData.keyHash P "__dict__") (.str "__dict__" 238) (.ref 24)), (.mk (PyData.keyHash P "__weakref__") (.str "__weakref__" 240) (.ref 25)), (.mk (PyData.keyHash P "__hash__") (.str "__hash__" 241) .none)] 13) #[])
noncomputable def o63 (P : Params) : Obj := (.mk (.type "type") none (.cls (.mk "ModuleSpec" [(.type "object")] [(.ref 22), (.type "object")] 21 "ModuleSpec" true [] [] false none false)) #[])
noncomputable def o64 (P : Params) : Obj := (.mk (.type "tuple") none (.seq #[(.str "_cached" 219), (.str "_set_fileattr" 220), (.str "_uninitialized_submodules" 221), (.str "loader" 222), (.str "loader_state" 223), (.str "name" 224), (.str "origin" 225), (.str "submodule_search_locations" 226)] 0) #[])
noncomputable def o65 (P : Params) : Obj := (.mk (.type "getset_descriptor") none (.fields #[(.str "__dict__" 237), (.ref 22), (.builtin "function.__dict__"), (.builtin "function.__dict__#set")]) #[])
noncomputable def o66 (P : Params) : Obj := (.mk (.type "getset_descriptor") none (.fields #[(.str "__weakref__" 239), (.ref 22), (.builtin "ExceptionGroup.__weakref__"), .none]) #[])
noncomputable def o67 (P : Params) : Obj := (.mk (.ref 22) (some 20) .plain #[])
noncomputable def o68 (P : Params) : Obj := (.mk .none none (.seq #[(.int 11 0), (.str (.mk (List.toArray (6 :: 247 :: 8 :: 95 :: 95 :: 110 :: 97 :: 109 :: 101 :: 95 :: 95 :: 6 :: 246 :: 4 :: 95 :: 115 :: 114 :: 101 :: 6 :: 248 :: 7 :: 95 :: 95 :: 100 :: 111 :: 99 :: 95 :: 95 :: 0 :: 6 :: 250 :: 11 :: 95 :: 95 :: 112 :: 97 :: 99 :: 107 :: 97 :: 103 :: 101 :: 95 :: 95 :: 6 :: 249 :: 0 :: 6 :: 251 :: 10 :: 95 :: 95 :: 108 :: 111 :: 97 :: 100 :: 101 :: 114 :: 95 :: 95 :: 4 :: 0 :: 0 :: 14 :: 6 :: 252 :: 8 :: 95 :: 95 :: 115 :: 112 :: 101 :: 99 :: 95 :: 95 :: 4 :: 0 :: 0 :: 26 :: 6 :: 253 :: 7 :: 99 :: 111 :: 109 :: 112 :: 105 :: 108 :: 101 :: 9 :: 12 :: 95 :: 115 :: 114 :: 101 :: 46 :: 99 :: 111 :: 109 :: 112 :: 105 :: 108 :: 101 :: 6 :: 254 :: 8 :: 116 :: 101 :: 109 :: 112 :: 108 :: 97 :: 116 :: 101 :: 9 :: 13 :: 95 :: 115 :: 114 :: 101 :: 46 :: 116 :: 101 :: 109 :: 112 :: 108 :: 97 :: 116 :: 101 :: 6 :: 255 :: 11 :: 103 :: 101 :: 116 :: 99 :: 111 :: 100 :: 101 :: 115 :: 105 :: 122 :: 101 :: 9 :: 16 :: 95 :: 115 :: 114 :: 101 :: 46 :: 103 :: 101 :: 116 :: 99 :: 111 :: 100 :: 101 :: 115 :: 105 :: 122 :: 101 :: 6 :: 256 :: 13 :: 97 :: 115 :: 99 :: 105 :: 105 :: 95 :: 105 :: 115 :: 99 :: 97 :: 115 :: 101 :: 100 :: 9 :: 18 :: 95 :: 115 :: 114 :: 101 :: 46 :: 97 :: 115 :: 99 :: 105 :: 105 :: 95 :: 105 :: 115 :: 99 :: 97 :: 115 :: 101 :: 100 :: 6 :: 257 :: 15 :: 117 :: 110 :: 105 :: 99 :: 111 :: 100 :: 101 :: 95 :: 105 :: 115 :: 99 :: 97 :: 115 :: 101 :: 100 :: 9 :: 20 :: 95 :: 115 :: 114 :: 101 :: 46 :: 117 :: 110 :: 105 :: 99 :: 111 :: 100 :: 101 :: 95 :: 105 :: 115 :: 99 :: 97 :: 115 :: 101 :: 100 :: 6 :: 258 :: 13 :: 97 :: 115 :: 99 :: 105 :: 105 :: 95 :: 116 :: 111 :: 108 :: 111 :: 119 :: 101 :: 114 :: 9 :: 18 :: 95 :: 115 :: 114 :: 101 :: 46 :: 97 :: 115 :: 99 :: 105 :: 105 :: 95 :: 116 :: 111 :: 108 :: 111 :: 119 :: 101 :: 114 :: 6 :: 259 :: 15 :: 117 :: 110 :: 105 :: 99 :: 111 :: 100 :: 101 :: 95 :: 116 :: 111 :: 108 :: 111 :: 119 :: 101 :: 114 :: 9 :: 20 :: 95 :: 115 :: 114 :: 101 :: 46 :: 117 :: 110 :: 105 :: 99 :: 111 :: 100 :: 101 :: 95 :: 116 :: 111 :: 108 :: 111 :: 119 :: 101 :: 114 :: 6 :: 261 :: 5 :: 77 :: 65 :: 71 :: 73 :: 67 :: 4 :: 260 :: 0 :: 20230612 :: 6 :: 263 :: 8 :: 67 :: 79 :: 68 :: 69 :: 83 :: 73 :: 90 :: 69 :: 4 :: 262 :: 0 :: 4 :: 6 :: 265 :: 9 :: 77 :: 65 :: 88 :: 82 :: 69 :: 80 :: 69 :: 65 :: 84 :: 4 :: 264 :: 0 :: 4294967295 :: 6 :: 267 :: 9 :: 77 :: 65 :: 88 :: 71 :: 82 :: 79 :: 85 :: 80 :: 83 :: 4 :: 266 :: 0 :: 1073741823 :: 6 :: 269 :: 9 :: 99 :: 111 :: 112 :: 121 :: 114 :: 105 :: 103 :: 104 :: 116 :: 6 :: 268 :: 53 :: 32 :: 83 :: 82 :: 69 :: 32 :: 50 :: 46 :: 50 :: 46 :: 50 :: 32 :: 67 :: 111 :: 112 :: 121 :: 114 :: 105 :: 103 :: 104 :: 116 :: 32 :: 40 :: 99 :: 41 :: 32 :: 49 :: 57 :: 57 :: 55 :: 45 :: 50 :: 48 :: 48 :: 50 :: 32 :: 98 :: 121 :: 32 :: 83 :: 101 :: 99 :: 114 :: 101 :: 116 :: 32 :: 76 :: 97 :: 98 :: 115 :: 32 :: 65 :: 66 :: 32 :: []))) 0), (.bool true), (.bool false), (.str "_sre" 271)] 0) #[])
noncomputable def o69 (P : Params) : Obj := (.mk (.type "tuple") none (.seq #[] 0) #[])
noncomputable def o70 (P : Params) : Obj := (.mk .none none (.fields #[]) #[])
noncomputable def o71 (P : Params) : Obj := (.mk (.type "code") none (.fields #[(.str "<module>" 277), (.str "<module>" 278), (.str "/claim/cut.py" 279), (.int 1 0), (.int 0 0), (.int 0 0), (.int 0 0), (.int 0 0), (.ref 28), (.bool false), (.int 276 0), (.ref 29), .none, .none, .none, .none, (.int 280 0), (.int 1 0), (.str "/claim/cut.py" 281)]) #[])
noncomputable def o72 (P : Params) : Obj := (.mk (.type "frame") none .plain #[(some (.ref 30)), (some (.ref 3)), (some (.ref 3)), none, (some (.str "__main__" 164)), none, (some (.ref 0))])
noncomputable def o599 (P : Params) : Obj := (.mk .none none (.fields (List.toArray ((.int 2 0) :: (.int 0 0) :: (.ref 37) :: (.int 6 0) :: (.int 0 0) :: (.ref 44) :: (.int 12 0) :: (.int 0 0) :: (.ref 51) :: (.int 17 0) :: (.int 0 0) :: (.ref 70) :: (.int 32 0) :: (.int 0 0) :: (.ref 103) :: (.int 36 0) :: (.int 0 0) :: (.ref 110) :: (.int 53 0) :: (.int 0 0) :: (.ref 117) :: (.int 65 0) :: (.int 0 0) :: (.ref 124) :: (.int 70 0) :: (.int 0 0) :: (.ref 131) :: (.int 87 0) :: (.int 0 0) :: (.ref 138) :: (.int 101 0) :: (.int 0 0) :: (.ref 145) :: (.int 143 0) :: (.int 0 0) :: (.ref 173) :: (.int 145 0) :: (.int 0 0) :: (.ref 180) :: (.int 147 0) :: (.int 0 0) :: (.ref 188) :: (.int 156 0) :: (.int 0 0) :: (.ref 201) :: (.int 194 0) :: (.int 0 0) :: (.ref 209) :: (.int 224 0) :: (.int 0 0) :: (.ref 216) :: (.int 227 0) :: (.int 0 0) :: (.ref 223) :: (.int 231 0) :: (.int 0 0) :: (.ref 230) :: (.int 243 0) :: (.int 0 0) :: (.ref 235) :: (.int 258 0) :: (.int 0 0) :: (.ref 240) :: (.int 272 0) :: (.int 0 0) :: (.ref 245) :: (.int 275 0) :: (.int 0 0) :: (.ref 252) :: (.int 281 0) :: (.int 0 0) :: (.ref 259) :: (.int 288 0) :: (.int 0 0) :: (.ref 264) :: []))) #[])
noncomputable def o78 (P : Params) : Obj := (.mk .none none (.fields #[]) #[])
noncomputable def o81 (P : Params) : Obj := (.mk .none none (.func (fnD 1 none "_wall" 0 [] .none .none .none .none none .none .none 0)) #[])
noncomputable def o85 (P : Params) : Obj := (.mk .none none (.fields #[]) #[])
noncomputable def o88 (P : Params) : Obj := (.mk .none none (.func (fnD 3 none "_plain_name" 0 [] .none .none .none .none none .none .none 0)) #[])
noncomputable def o92 (P : Params) : Obj := (.mk (.type "builtin_function_or_method") none (.fields #[(.builtin "type.__prepare__"), (.type "type")]) #[])
noncomputable def o93 (P : Params) : Obj := (.mk (.type "dict") none (.dict #[(.mk (PyData.keyHash P "__module__") (.str "__module__" 309) (.str "abc" 300)), (.mk (PyData.keyHash P "__qualname__") (.str "__qualname__" 311) (.str "ABCMeta" 310)), (.mk (PyData.keyHash P "__firstlineno__") (.str "__firstlineno__" 313) (.int 12 312)), (.mk (PyData.keyHash P "register") (.str "register" 321) (.ref 59)), (.mk (PyData.keyHash P "__static_attributes__") (.str "__static_attributes__" 322) (.ref 60))] 5) #[])
noncomputable def o94 (P : Params) : Obj := (.mk (.type "tuple") none (.seq #[] 0) #[])
noncomputable def o95 (P : Params) : Obj := (.mk .none none (.fields #[(.int 14 0), (.int 4 0), (.ref 58)]) #[])
noncomputable def o96 (P : Params) : Obj := (.mk (.type "code") none (.fields #[(.str "ABCMeta" 304), (.str "ABCMeta" 305), (.str "/claim/cut.py" 306), (.int 12 0), (.int 0 0), (.int 0 0), (.int 0 0), (.int 0 0), (.ref 49), (.bool false), (.int 276 0), (.ref 50), .none, .none, .none, .none, (.int 307 0), (.int 12 0), (.str "/claim/cut.py" 308)]) #[])
noncomputable def o97 (P : Params) : Obj := (.mk (.type "frame") none .plain #[(some (.ref 51)), (some (.ref 3)), (some (.ref 48)), none, (some (.str "abc" 300)), none, (some (.ref 0))])
noncomputable def o99 (P : Params) : Obj := (.mk .none none (.fields #[]) #[])
noncomputable def o102 (P : Params) : Obj := (.mk .none none (.func (fnD 5 (some 0) "ABCMeta.register" 0 [] .none .none .none .none none .none .none 0)) #[])
noncomputable def o108 (P : Params) : Obj := (.mk (.type "super") none (.fields #[(.ref 62), (.ref 62), (.ref 62)]) #[])
noncomputable def o109 (P : Params) : Obj := (.mk (.type "builtin_function_or_method") none (.fields #[(.builtin "object.__init_subclass__"), (.ref 62)]) #[])
noncomputable def o114 (P : Params) : Obj := (.mk (.type "builtin_function_or_method") none (.fields #[(.builtin "type.__prepare__"), (.type "type")]) #[])
noncomputable def o115 (P : Params) : Obj := (.mk (.type "dict") none (.dict #[(.mk (PyData.keyHash P "__module__") (.str "__module__" 335) (.str "collections.abc" 326)), (.mk (PyData.keyHash P "__qualname__") (.str "__qualname__" 337) (.str "_ABCLike" 336)), (.mk (PyData.keyHash P "__firstlineno__") (.str "__firstlineno__" 339) (.int 17 338)), (.mk (PyData.keyHash P "__instancecheck__") (.str "__instancecheck__" 348) (.ref 78)), (.mk (PyData.keyHash P "__subclasscheck__") (.str "__subclasscheck__" 356) (.ref 85)), (.mk (PyData.keyHash P "register") (.str "register" 364) (.ref 92)), (.mk (PyData.keyHash P "__static_attributes__") (.str "__static_attributes__" 365) (.ref 93))] 7) #[])
noncomputable def o116 (P : Params) : Obj := (.mk (.type "tuple") none (.seq #[] 0) #[])
noncomputable def o117 (P : Params) : Obj := (.mk .none none (.fields #[(.int 19 0), (.int 4 0), (.ref 77), (.int 25 0), (.int 4 0), (.ref 84), (.int 30 0), (.int 4 0), (.ref 91)]) #[])
noncomputable def o118 (P : Params) : Obj := (.mk (.type "code") none (.fields #[(.str "_ABCLike" 330), (.str "_ABCLike" 331), (.str "/claim/cut.py" 332), (.int 17 0), (.int 0 0), (.int 0 0), (.int 0 0), (.int 0 0), (.ref 68), (.bool false), (.int 276 0), (.ref 69), .none, .none, .none, .none, (.int 333 0), (.int 17 0), (.str "/claim/cut.py" 334)]) #[])
noncomputable def o119 (P : Params) : Obj := (.mk (.type "frame") none .plain #[(some (.ref 70)), (some (.ref 3)), (some (.ref 67)), none, (some (.str "collections.abc" 326)), none, (some (.ref 0))])
noncomputable def o121 (P : Params) : Obj := (.mk .none none (.fields #[]) #[])
noncomputable def o124 (P : Params) : Obj := (.mk .none none (.func (fnD 7 (some 0) "_ABCLike.__instancecheck__" 0 [] .none .none .none .none none .none .none 0)) #[])
noncomputable def o128 (P : Params) : Obj := (.mk .none none (.fields #[]) #[])
noncomputable def o131 (P : Params) : Obj := (.mk .none none (.func (fnD 7 (some 1) "_ABCLike.__subclasscheck__" 0 [] .none .none .none .none none .none .none 0)) #[])
noncomputable def o135 (P : Params) : Obj := (.mk .none none (.fields #[]) #[])
noncomputable def o138 (P : Params) : Obj := (.mk .none none (.func (fnD 7 (some 2) "_ABCLike.register" 0 [] .none .none .none .none none .none .none 0)) #[])
noncomputable def o144 (P : Params) : Obj := (.mk (.type "super") none (.fields #[(.ref 95), (.ref 95), (.ref 95)]) #[])
noncomputable def o145 (P : Params) : Obj := (.mk (.type "builtin_function_or_method") none (.fields #[(.builtin "object.__init_subclass__"), (.ref 95)]) #[])
noncomputable def o147 (P : Params) : Obj := (.mk .none none (.fields #[]) #[])
noncomputable def o150 (P : Params) : Obj := (.mk .none none (.func (fnD 8 none "_abc_plain_meta" 0 [] .none .none .none .none none .none .none 0)) #[])
noncomputable def o154 (P : Params) : Obj := (.mk .none none (.fields #[]) #[])
noncomputable def o157 (P : Params) : Obj := (.mk .none none (.func (fnD 10 none "fspath" 0 [] .none .none .none .none none .none .none 0)) #[])
noncomputable def o163 (P : Params) : Obj := (.mk .none none (.fields #[]) #[])
noncomputable def o166 (P : Params) : Obj := (.mk .none none (.func (fnD 12 none "_check_arg_types" 0 [] .none .none .none .none none .none .none 0)) #[])
noncomputable def o170 (P : Params) : Obj := (.mk .none none (.fields #[]) #[])
noncomputable def o173 (P : Params) : Obj := (.mk .none none (.func (fnD 14 none "_get_sep" 0 [] .none .none .none .none none .none .none 0)) #[])
noncomputable def o177 (P : Params) : Obj := (.mk .none none (.fields #[]) #[])
noncomputable def o180 (P : Params) : Obj := (.mk .none none (.func (fnD 15 none "join" 0 [] .none .none .none .none none .none .none 0)) #[])
noncomputable def o184 (P : Params) : Obj := (.mk .none none (.fields #[]) #[])
noncomputable def o187 (P : Params) : Obj := (.mk .none none (.func (fnD 16 none "splitroot" 0 [] .none .none .none .none none .none .none 0)) #[])
noncomputable def o191 (P : Params) : Obj := (.mk .none none (.fields #[]) #[])
noncomputable def o194 (P : Params) : Obj := (.mk .none none (.func (fnD 17 none "normpath" 0 [] .none .none .none .none none .none .none 0)) #[])
noncomputable def o197 (P : Params) : Obj := (.mk (.type "list") none (.seq #[(.int 14 448), (.int 8 449), (.int 1 450), (.int 3 451), (.int 3 452), (.int 1 453), (.int 1 454), (.int 61 455), (.int 0 456), (.int 16 457), (.int 61 458), (.int 24 459), (.int 16 460), (.int 2 461), (.int 2 462), (.int 13 463), (.int 11 464), (.int 9 465), (.int 0 466), (.int 67043328 467), (.int 126 468), (.int 126 469), (.int 0 470), (.int 0 471), (.int 0 472), (.int 0 473), (.int 0 474), (.int 1 475), (.int 1 476)] 0) #[])
noncomputable def o198 (P : Params) : Obj := (.mk (.type "dict") none (.dict #[] 0) #[])
noncomputable def o199 (P : Params) : Obj := (.mk (.type "tuple") none (.seq #[.none] 0) #[])
noncomputable def o203 (P : Params) : Obj := (.mk (.type "range") none (.fields #[(.int 0 485), (.int 256 484), (.int 1 486)]) #[])
noncomputable def o204 (P : Params) : Obj := (.mk (.type "range_iterator") none (.fields #[(.int 256 0), (.int 0 0), (.int 1 0)]) #[])
noncomputable def o206 (P : Params) : Obj := (.mk (.type "dict") none (.dict #[] 2) #[])
noncomputable def o207 (P : Params) : Obj := (.mk (.type "tuple") none (.seq #[] 0) #[])
noncomputable def o208 (P : Params) : Obj := (.mk (.type "StopIteration") none (.fields #[(.ref 156), .none, .none, .none, (.bool false), .none]) #[])
noncomputable def o502 (P : Params) : Obj := (.mk (.type "slice") none (.fields #[.none, .none, .none]) #[])
noncomputable def o504 (P : Params) : Obj := (.mk (.type "slice") none (.fields #[.none, .none, .none]) #[])
noncomputable def o522 (P : Params) : Obj := (.mk (.type "list") none (.seq (List.toArray ((.str "=00" 490) :: (.str "=01" 494) :: (.str "=02" 498) :: (.str "=03" 502) :: (.str "=04" 506) :: (.str "=05" 510) :: (.str "=06" 514) :: (.str "=07" 518) :: (.str "=08" 522) :: (.str "\t" 2025) :: (.str "=0A" 530) :: (.str "=0B" 534) :: (.str "=0C" 538) :: (.str "=0D" 542) :: (.str "=0E" 546) :: (.str "=0F" 550) :: (.str "=10" 554) :: (.str "=11" 558) :: (.str "=12" 562) :: (.str "=13" 566) :: (.str "=14" 570) :: (.str "=15" 574) :: (.str "=16" 578) :: (.str "=17" 582) :: (.str "=18" 586) :: (.str "=19" 590) :: (.str "=1A" 594) :: (.str "=1B" 598) :: (.str "=1C" 602) :: (.str "=1D" 606) :: (.str "=1E" 610) :: (.str "=1F" 614) :: (.str " " 1743) :: (.str "!" 1746) :: (.str "\"" 1749) :: (.str "#" 1752) :: (.str "$" 1755) :: (.str "%" 1758) :: (.str "&" 1761) :: (.str "'" 1764) :: (.str "(" 1767) :: (.str ")" 1770) :: (.str "*" 1773) :: (.str "+" 1776) :: (.str "," 1779) :: (.str "-" 1782) :: (.str "." 1785) :: (.str "/" 1788) :: (.str "0" 1791) :: (.str "1" 1794) :: (.str "2" 1797) :: (.str "3" 1800) :: (.str "4" 1803) :: (.str "5" 1806) :: (.str "6" 1809) :: (.str "7" 1812) :: (.str "8" 1815) :: (.str "9" 1818) :: (.str ":" 1821) :: (.str ";" 1824) :: (.str "<" 1827) :: (.str "=3D" 734) :: (.str ">" 1830) :: (.str "?" 1833) :: (.str "@" 1836) :: (.str "A" 1839) :: (.str "B" 1842) :: (.str "C" 1845) :: (.str "D" 1848) :: (.str "E" 1851) :: (.str "F" 1854) :: (.str "G" 1857) :: (.str "H" 1860) :: (.str "I" 1863) :: (.str "J" 1866) :: (.str "K" 1869) :: (.str "L" 1872) :: (.str "M" 1875) :: (.str "N" 1878) :: (.str "O" 1881) :: (.str "P" 1884) :: (.str "Q" 1887) :: (.str "R" 1890) :: (.str "S" 1893) :: (.str "T" 1896) :: (.str "U" 1899) :: (.str "V" 1902) :: (.str "W" 1905) :: (.str "X" 1908) :: (.str "Y" 1911) :: (.str "Z" 1914) :: (.str "[" 1917) :: (.str "\\" 1920) :: (.str "]" 1923) :: (.str "^" 1926) :: (.str "_" 1929) :: (.str "`" 1932) :: (.str "a" 1935) :: (.str "b" 1938) :: (.str "c" 1941) :: (.str "d" 1944) :: (.str "e" 1947) :: (.str "f" 1950) :: (.str "g" 1953) :: (.str "h" 1956) :: (.str "i" 1959) :: (.str "j" 1962) :: (.str "k" 1965) :: (.str "l" 1968) :: (.str "m" 1971) :: (.str "n" 1974) :: (.str "o" 1977) :: (.str "p" 1980) :: (.str "q" 1983) :: (.str "r" 1986) :: (.str "s" 1989) :: (.str "t" 1992) :: (.str "u" 1995) :: (.str "v" 1998) :: (.str "w" 2001) :: (.str "x" 2004) :: (.str "y" 2007) :: (.str "z" 2010) :: (.str "{" 2013) :: (.str "|" 2016) :: (.str "}" 2019) :: (.str "~" 2022) :: (.str "=7F" 998) :: (.str "=80" 1002) :: (.str "=81" 1006) :: (.str "=82" 1010) :: (.str "=83" 1014) :: (.str "=84" 1018) :: (.str "=85" 1022) :: (.str "=86" 1026) :: (.str "=87" 1030) :: (.str "=88" 1034) :: (.str "=89" 1038) :: (.str "=8A" 1042) :: (.str "=8B" 1046) :: (.str "=8C" 1050) :: (.str "=8D" 1054) :: (.str "=8E" 1058) :: (.str "=8F" 1062) :: (.str "=90" 1066) :: (.str "=91" 1070) :: (.str "=92" 1074) :: (.str "=93" 1078) :: (.str "=94" 1082) :: (.str "=95" 1086) :: (.str "=96" 1090) :: (.str "=97" 1094) :: (.str "=98" 1098) :: (.str "=99" 1102) :: (.str "=9A" 1106) :: (.str "=9B" 1110) :: (.str "=9C" 1114) :: (.str "=9D" 1118) :: (.str "=9E" 1122) :: (.str "=9F" 1126) :: (.str "=A0" 1130) :: (.str "=A1" 1134) :: (.str "=A2" 1138) :: (.str "=A3" 1142) :: (.str "=A4" 1146) :: (.str "=A5" 1150) :: (.str "=A6" 1154) :: (.str "=A7" 1158) :: (.str "=A8" 1162) :: (.str "=A9" 1166) :: (.str "=AA" 1170) :: (.str "=AB" 1174) :: (.str "=AC" 1178) :: (.str "=AD" 1182) :: (.str "=AE" 1186) :: (.str "=AF" 1190) :: (.str "=B0" 1194) :: (.str "=B1" 1198) :: (.str "=B2" 1202) :: (.str "=B3" 1206) :: (.str "=B4" 1210) :: (.str "=B5" 1214) :: (.str "=B6" 1218) :: (.str "=B7" 1222) :: (.str "=B8" 1226) :: (.str "=B9" 1230) :: (.str "=BA" 1234) :: (.str "=BB" 1238) :: (.str "=BC" 1242) :: (.str "=BD" 1246) :: (.str "=BE" 1250) :: (.str "=BF" 1254) :: (.str "=C0" 1258) :: (.str "=C1" 1262) :: (.str "=C2" 1266) :: (.str "=C3" 1270) :: (.str "=C4" 1274) :: (.str "=C5" 1278) :: (.str "=C6" 1282) :: (.str "=C7" 1286) :: (.str "=C8" 1290) :: (.str "=C9" 1294) :: (.str "=CA" 1298) :: (.str "=CB" 1302) :: (.str "=CC" 1306) :: (.str "=CD" 1310) :: (.str "=CE" 1314) :: (.str "=CF" 1318) :: (.str "=D0" 1322) :: (.str "=D1" 1326) :: (.str "=D2" 1330) :: (.str "=D3" 1334) :: (.str "=D4" 1338) :: (.str "=D5" 1342) :: (.str "=D6" 1346) :: (.str "=D7" 1350) :: (.str "=D8" 1354) :: (.str "=D9" 1358) :: (.str "=DA" 1362) :: (.str "=DB" 1366) :: (.str "=DC" 1370) :: (.str "=DD" 1374) :: (.str "=DE" 1378) :: (.str "=DF" 1382) :: (.str "=E0" 1386) :: (.str "=E1" 1390) :: (.str "=E2" 1394) :: (.str "=E3" 1398) :: (.str "=E4" 1402) :: (.str "=E5" 1406) :: (.str "=E6" 1410) :: (.str "=E7" 1414) :: (.str "=E8" 1418) :: (.str "=E9" 1422) :: (.str "=EA" 1426) :: (.str "=EB" 1430) :: (.str "=EC" 1434) :: (.str "=ED" 1438) :: (.str "=EE" 1442) :: (.str "=EF" 1446) :: (.str "=F0" 1450) :: (.str "=F1" 1454) :: (.str "=F2" 1458) :: (.str "=F3" 1462) :: (.str "=F4" 1466) :: (.str "=F5" 1470) :: (.str "=F6" 1474) :: (.str "=F7" 1478) :: (.str "=F8" 1482) :: (.str "=F9" 1486) :: (.str "=FA" 1490) :: (.str "=FB" 1494) :: (.str "=FC" 1498) :: (.str "=FD" 1502) :: (.str "=FE" 1506) :: (.str "=FF" 1510) :: [])) 0) #[])
noncomputable def o508 (P : Params) : Obj := (.mk (.type "bytes_iterator") none (.fields #[.none, (.int 67 0)]) #[])
noncomputable def o509 (P : Params) : Obj := (.mk (.type "tuple") none (.seq #[] 0) #[])
noncomputable def o510 (P : Params) : Obj := (.mk (.type "StopIteration") none (.fields #[(.ref 163), .none, .none, .none, (.bool false), .none]) #[])
noncomputable def o523 (P : Params) : Obj := (.mk (.type "bytes_iterator") none (.fields #[.none, (.int 95 0)]) #[])
noncomputable def o524 (P : Params) : Obj := (.mk (.type "tuple") none (.seq #[] 0) #[])
noncomputable def o525 (P : Params) : Obj := (.mk (.type "StopIteration") none (.fields #[(.ref 166), .none, .none, .none, (.bool false), .none]) #[])
noncomputable def o540 (P : Params) : Obj := (.mk .none none (.fields #[]) #[])
noncomputable def o543 (P : Params) : Obj := (.mk .none none (.func (fnD 33 none "unquote" 0 [] .none .none .none .none none .none .none 0)) #[])
noncomputable def o547 (P : Params) : Obj := (.mk .none none (.fields #[]) #[])
noncomputable def o550 (P : Params) : Obj := (.mk .none none (.func (fnD 34 none "quote" 0 [] .none .none .none .none none .none .none 0)) #[])
noncomputable def o555 (P : Params) : Obj := (.mk .none none (.fields #[]) #[])
noncomputable def o558 (P : Params) : Obj := (.mk .none none (.func (fnD 35 none "header_encode" 0 [] .none .none .none .none none .none .none 0)) #[])
noncomputable def o561 (P : Params) : Obj := (.mk (.type "slice") none (.fields #[.none, .none, .none]) #[])
noncomputable def o563 (P : Params) : Obj := (.mk (.type "bytes_iterator") none (.fields #[.none, (.int 2 0)]) #[])
noncomputable def o564 (P : Params) : Obj := (.mk (.type "tuple") none (.seq #[] 0) #[])
noncomputable def o565 (P : Params) : Obj := (.mk (.type "StopIteration") none (.fields #[(.ref 193), .none, .none, .none, (.bool false), .none]) #[])
noncomputable def o568 (P : Params) : Obj := (.mk .none none (.fields #[]) #[])
noncomputable def o571 (P : Params) : Obj := (.mk .none none (.func (fnD 39 none "body_encode" 0 [] .none .none .none .none none .none .none 0)) #[])
noncomputable def o576 (P : Params) : Obj := (.mk .none none (.fields #[]) #[])
noncomputable def o579 (P : Params) : Obj := (.mk .none none (.func (fnD 40 none "decode" 0 [] .none .none .none .none none .none .none 0)) #[])
noncomputable def o583 (P : Params) : Obj := (.mk .none none (.fields #[]) #[])
noncomputable def o586 (P : Params) : Obj := (.mk .none none (.func (fnD 41 none "_unquote_match" 0 [] .none .none .none .none none .none .none 0)) #[])
noncomputable def o590 (P : Params) : Obj := (.mk .none none (.fields #[]) #[])
noncomputable def o593 (P : Params) : Obj := (.mk .none none (.func (fnD 42 none "header_decode" 0 [] .none .none .none .none none .none .none 0)) #[])
noncomputable def o601 (P : Params) : Obj := (.mk .none none (.fields #[]) #[])
noncomputable def o604 (P : Params) : Obj := (.mk .none none (.func (fnD 44 none "_law_parts" 0 [] .none .none .none .none none .none .none 0)) #[])
noncomputable def o608 (P : Params) : Obj := (.mk .none none (.fields #[]) #[])
noncomputable def o609 (P : Params) : Obj := (.mk .none none (.func (fnD 45 none "_law_names" 0 [] .none .none .none .none none .none .none 0)) #[])
noncomputable def o613 (P : Params) : Obj := (.mk .none none (.fields #[]) #[])
noncomputable def o614 (P : Params) : Obj := (.mk .none none (.func (fnD 46 none "_law_straight" 0 [] .none .none .none .none none .none .none 0)) #[])
noncomputable def o618 (P : Params) : Obj := (.mk .none none (.fields #[]) #[])
noncomputable def o619 (P : Params) : Obj := (.mk .none none (.func (fnD 47 none "_law_text" 0 [] .none .none .none .none none .none .none 0)) #[])
noncomputable def o623 (P : Params) : Obj := (.mk .none none (.fields #[]) #[])
noncomputable def o626 (P : Params) : Obj := (.mk .none none (.func (fnD 48 none "_law_bare_end" 0 [] .none .none .none .none none .none .none 0)) #[])
noncomputable def o630 (P : Params) : Obj := (.mk .none none (.fields #[]) #[])
noncomputable def o633 (P : Params) : Obj := (.mk .none none (.func (fnD 49 none "_law_worded" 0 [] .none .none .none .none none .none .none 0)) #[])
noncomputable def o637 (P : Params) : Obj := (.mk .none none (.fields #[]) #[])
noncomputable def o638 (P : Params) : Obj := (.mk .none none (.func (fnD 50 none "law" 0 [] .none .none .none .none none .none .none 0)) #[])
noncomputable def o160 (P : Params) : Obj := (.mk (.type "dict") none (.dict #[(.mk (PyData.keyHash P "__name__") (.str "__name__" 165) (.str "cpy313.posixpath" 401)), (.mk (PyData.keyHash P "__doc__") (.str "__doc__" 166) .none), (.mk (PyData.keyHash P "__package__") (.str "__package__" 167) .none), (.mk (PyData.keyHash P "__loader__") (.str "__loader__" 168) (.builtin "__main__.__loader__#opaque")), (.mk (PyData.keyHash P "__spec__") (.str "__spec__" 169) .none), (.mk (PyData.keyHash P "__annotations__") (.str "__annotations__" 170) (.ref 6)), (.mk (PyData.keyHash P "__builtins__") (.str "__builtins__" 171) (.ref 4)), (.mk (PyData.keyHash P "__file__") (.str "__file__" 173) (.str "/claim/cut.py" 172)), (.mk (PyData.keyHash P "__cached__") (.str "__cached__" 174) .none), (.mk (PyData.keyHash P "_sre") (.str "_sre" 275) (.ref 12)), (.mk (PyData.keyHash P "_wall") (.str "_wall" 288) (.ref 38)), (.mk (PyData.keyHash P "_plain_name") (.str "_plain_name" 299) (.ref 45)), (.mk (PyData.keyHash P "ABCMeta") (.str "ABCMeta" 325) (.ref 62)), (.mk (PyData.keyHash P "_ABCLike") (.str "_ABCLike" 368) (.ref 95)), (.mk (PyData.keyHash P "_abc_plain_meta") (.str "_abc_plain_meta" 375) (.ref 104)), (.mk (PyData.keyHash P "fspath") (.str "fspath" 387) (.ref 111)), (.mk (PyData.keyHash P "_check_arg_types") (.str "_check_arg_types" 400) (.ref 118)), (.mk (PyData.keyHash P "_get_sep") (.str "_get_sep" 409) (.ref 125)), (.mk (PyData.keyHash P "join") (.str "join" 420) (.ref 132)), (.mk (PyData.keyHash P "splitroot") (.str "splitroot" 429) (.ref 139)), (.mk (PyData.keyHash P "normpath") (.str "normpath" 444) (.ref 146)), (.mk (PyData.keyHash P "_twin_re_1") (.str "_twin_re_1" 479) (.ref 151)), (.mk (PyData.keyHash P "CRLF") (.str "CRLF" 481) (.str "\r\n" 480)), (.mk (PyData.keyHash P "NL") (.str "NL" 483) (.str "\n" 482))] 24) #[])
noncomputable def o161 (P : Params) : Obj := (.mk .none none (.fields #[(.int 2 0), (.int 0 0), (.ref 37), (.int 6 0), (.int 0 0), (.ref 44), (.int 12 0), (.int 0 0), (.ref 51), (.int 17 0), (.int 0 0), (.ref 70), (.int 32 0), (.int 0 0), (.ref 103), (.int 36 0), (.int 0 0), (.ref 110), (.int 53 0), (.int 0 0), (.ref 117), (.int 65 0), (.int 0 0), (.ref 124), (.int 70 0), (.int 0 0), (.ref 131), (.int 87 0), (.int 0 0), (.ref 138), (.int 101 0), (.int 0 0), (.ref 145)]) #[])
noncomputable def o202 (P : Params) : Obj := (.mk (.type "dict") none (.dict #[(.mk (PyData.keyHash P "__name__") (.str "__name__" 165) (.str "cpy313.posixpath" 401)), (.mk (PyData.keyHash P "__doc__") (.str "__doc__" 166) .none), (.mk (PyData.keyHash P "__package__") (.str "__package__" 167) .none), (.mk (PyData.keyHash P "__loader__") (.str "__loader__" 168) (.builtin "__main__.__loader__#opaque")), (.mk (PyData.keyHash P "__spec__") (.str "__spec__" 169) .none), (.mk (PyData.keyHash P "__annotations__") (.str "__annotations__" 170) (.ref 6)), (.mk (PyData.keyHash P "__builtins__") (.str "__builtins__" 171) (.ref 4)), (.mk (PyData.keyHash P "__file__") (.str "__file__" 173) (.str "/claim/cut.py" 172)), (.mk (PyData.keyHash P "__cached__") (.str "__cached__" 174) .none), (.mk (PyData.keyHash P "_sre") (.str "_sre" 275) (.ref 12)), (.mk (PyData.keyHash P "_wall") (.str "_wall" 288) (.ref 38)), (.mk (PyData.keyHash P "_plain_name") (.str "_plain_name" 299) (.ref 45)), (.mk (PyData.keyHash P "ABCMeta") (.str "ABCMeta" 325) (.ref 62)), (.mk (PyData.keyHash P "_ABCLike") (.str "_ABCLike" 368) (.ref 95)), (.mk (PyData.keyHash P "_abc_plain_meta") (.str "_abc_plain_meta" 375) (.ref 104)), (.mk (PyData.keyHash P "fspath") (.str "fspath" 387) (.ref 111)), (.mk (PyData.keyHash P "_check_arg_types") (.str "_check_arg_types" 400) (.ref 118)), (.mk (PyData.keyHash P "_get_sep") (.str "_get_sep" 409) (.ref 125)), (.mk (PyData.keyHash P "join") (.str "join" 420) (.ref 132)), (.mk (PyData.keyHash P "splitroot") (.str "splitroot" 429) (.ref 139)), (.mk (PyData.keyHash P "normpath") (.str "normpath" 444) (.ref 146)), (.mk (PyData.keyHash P "_twin_re_1") (.str "_twin_re_1" 479) (.ref 151)), (.mk (PyData.keyHash P "CRLF") (.str "CRLF" 481) (.str "\r\n" 480)), (.mk (PyData.keyHash P "NL") (.str "NL" 483) (.str "\n" 482)), (.mk (PyData.keyHash P "_QUOPRI_MAP") (.str "_QUOPRI_MAP" 1511) (.ref 154))] 25) #[])
noncomputable def H0 (P : Params) : Heap := ⟨Array.mk ((o41 P) :: (o42 P) :: (ok P 2) :: (o44 P) :: (o45 P) :: (o46 P) :: (o47 P) :: (o48 P) :: (o49 P) :: (o50 P) :: (o51 P) :: (o52 P) :: (o53 P) :: (o54 P) :: (o55 P) :: (o56 P) :: (o57 P) :: (o58 P) :: (o59 P) :: (o60 P) :: (o61 P) :: (o62 P) :: (o63 P) :: (o64 P) :: (o65 P) :: (o66 P) :: (o67 P) :: (o68 P) :: []), {}⟩
noncomputable def Ha (P : Params) : Heap := ⟨Array.mk ((o41 P) :: (o42 P) :: (ok P 2) :: (o44 P) :: (o45 P) :: (o46 P) :: (o47 P) :: (o48 P) :: (o49 P) :: (o50 P) :: (o51 P) :: (o52 P) :: (o53 P) :: (o54 P) :: (o55 P) :: (o56 P) :: (o57 P) :: (o58 P) :: (o59 P) :: (o60 P) :: (o61 P) :: (o62 P) :: (o63 P) :: (o64 P) :: (o65 P) :: (o66 P) :: (o67 P) :: (o68 P) :: (o69 P) :: (o70 P) :: (o71 P) :: (o72 P) :: []), {}⟩
noncomputable def H1 (P : Params) : Heap := ⟨Array.mk ((o41 P) :: (o42 P) :: (ok P 2) :: (ok P 3) :: (o45 P) :: (o46 P) :: (o47 P) :: (o48 P) :: (o49 P) :: (o50 P) :: (o51 P) :: (o52 P) :: (o53 P) :: (o54 P) :: (o55 P) :: (o56 P) :: (o57 P) :: (o58 P) :: (o59 P) :: (o60 P) :: (o61 P) :: (o62 P) :: (o63 P) :: (o64 P) :: (o65 P) :: (o66 P) :: (o67 P) :: (o68 P) :: (o69 P) :: (o599 P) :: (o71 P) :: (o72 P) :: (ok P 32) :: (o78 P) :: (ok P 34) :: (ok P 35) :: (o81 P) :: (ok P 37) :: (ok P 38) :: (ok P 39) :: (o85 P) :: (ok P 41) :: (ok P 42) :: (o88 P) :: (ok P 44) :: (ok P 45) :: (ok P 46) :: (o92 P) :: (o93 P) :: (o94 P) :: (o95 P) :: (o96 P) :: (o97 P) :: (ok P 53) :: (o99 P) :: (ok P 55) :: (ok P 56) :: (o102 P) :: (ok P 58) :: (ok P 59) :: (ok P 60) :: (ok P 61) :: (ok P 62) :: (o108 P) :: (o109 P) :: (ok P 65) :: (o114 P) :: (o115 P) :: (o116 P) :: (o117 P) :: (o118 P) :: (o119 P) :: (ok P 72) :: (o121 P) :: (ok P 74) :: (ok P 75) :: (o124 P) :: (ok P 77) :: (ok P 78) :: (ok P 79) :: (o128 P) :: (ok P 81) :: (ok P 82) :: (o131 P) :: (ok P 84) :: (ok P 85) :: (ok P 86) :: (o135 P) :: (ok P 88) :: (ok P 89) :: (o138 P) :: (ok P 91) :: (ok P 92) :: (ok P 93) :: (ok P 94) :: (ok P 95) :: (o144 P) :: (o145 P) :: (ok P 98) :: (o147 P) :: (ok P 100) :: (ok P 101) :: (o150 P) :: (ok P 103) :: (ok P 104) :: (ok P 105) :: (o154 P) :: (ok P 107) :: (ok P 108) :: (o157 P) :: (ok P 110) :: (ok P 111) :: (ok P 112) :: (o163 P) :: (ok P 114) :: (ok P 115) :: (o166 P) :: (ok P 117) :: (ok P 118) :: (ok P 119) :: (o170 P) :: (ok P 121) :: (ok P 122) :: (o173 P) :: (ok P 124) :: (ok P 125) :: (ok P 126) :: (o177 P) :: (ok P 128) :: (ok P 129) :: (o180 P) :: (ok P 131) :: (ok P 132) :: (ok P 133) :: (o184 P) :: (ok P 135) :: (ok P 136) :: (o187 P) :: (ok P 138) :: (ok P 139) :: (ok P 140) :: (o191 P) :: (ok P 142) :: (ok P 143) :: (o194 P) :: (ok P 145) :: (ok P 146) :: (o197 P) :: (o198 P) :: (o199 P) :: (ok P 150) :: (ok P 151) :: (o203 P) :: (o204 P) :: (ok P 154) :: (o206 P) :: (o207 P) :: (o208 P) :: (o502 P) :: (ok P 159) :: (o504 P) :: (o522 P) :: (o508 P) :: (o509 P) :: (o510 P) :: (o523 P) :: (o524 P) :: (o525 P) :: (ok P 168) :: (o540 P) :: (ok P 170) :: (ok P 171) :: (o543 P) :: (ok P 173) :: (ok P 174) :: (ok P 175) :: (o547 P) :: (ok P 177) :: (ok P 178) :: (o550 P) :: (ok P 180) :: (ok P 181) :: (ok P 182) :: (ok P 183) :: (o555 P) :: (ok P 185) :: (ok P 186) :: (o558 P) :: (ok P 188) :: (ok P 189) :: (o561 P) :: (ok P 191) :: (o563 P) :: (o564 P) :: (o565 P) :: (ok P 195) :: (ok P 196) :: (o568 P) :: (ok P 198) :: (ok P 199) :: (o571 P) :: (ok P 201) :: (ok P 202) :: (ok P 203) :: (ok P 204) :: (o576 P) :: (ok P 206) :: (ok P 207) :: (o579 P) :: (ok P 209) :: (ok P 210) :: (ok P 211) :: (o583 P) :: (ok P 213) :: (ok P 214) :: (o586 P) :: (ok P 216) :: (ok P 217) :: (ok P 218) :: (o590 P) :: (ok P 220) :: (ok P 221) :: (o593 P) :: (ok P 223) :: (ok P 224) :: (ok P 225) :: (o601 P) :: (ok P 227) :: (ok P 228) :: (o604 P) :: (ok P 230) :: (ok P 231) :: (ok P 232) :: (o608 P) :: (o609 P) :: (ok P 235) :: (ok P 236) :: (ok P 237) :: (o613 P) :: (o614 P) :: (ok P 240) :: (ok P 241) :: (ok P 242) :: (o618 P) :: (o619 P) :: (ok P 245) :: (ok P 246) :: (ok P 247) :: (o623 P) :: (ok P 249) :: (ok P 250) :: (o626 P) :: (ok P 252) :: (ok P 253) :: (ok P 254) :: (o630 P) :: (ok P 256) :: (ok P 257) :: (o633 P) :: (ok P 259) :: (ok P 260) :: (ok P 261) :: (o637 P) :: (o638 P) :: (ok P 264) :: (ok P 265) :: []), {}⟩
noncomputable def Tb (P : Params) : BT := (.node (o41 P) (.node (o42 P) (.node (o44 P) (.node (o48 P) (.node (o56 P) (.node (o72 P) .nil .nil) .nil) (.node (o64 P) .nil .nil)) (.node (o52 P) (.node (o60 P) .nil .nil) (.node (o68 P) .nil .nil))) (.node (o46 P) (.node (o50 P) (.node (o58 P) .nil .nil) (.node (o66 P) .nil .nil)) (.node (o54 P) (.node (o62 P) .nil .nil) (.node (o70 P) .nil .nil)))) (.node (ok P 2) (.node (o45 P) (.node (o49 P) (.node (o57 P) .nil .nil) (.node (o65 P) .nil .nil)) (.node (o53 P) (.node (o61 P) .nil .nil) (.node (o69 P) .nil .nil))) (.node (o47 P) (.node (o51 P) (.node (o59 P) .nil .nil) (.node (o67 P) .nil .nil)) (.node (o55 P) (.node (o63 P) .nil .nil) (.node (o71 P) .nil .nil)))))
noncomputable def T3 (P : Params) : BT := (.node (o41 P) (.node (o42 P) (.node (o160 P) (.node (o48 P) (.node (o56 P) (.node (o72 P) (.node (o108 P) (.node (o177 P) .nil .nil) .nil) (.node (ok P 95) .nil .nil)) (.node (o92 P) (.node (ok P 79) (.node (ok P 143) .nil .nil) .nil) (.node (ok P 111) .nil .nil))) (.node (o64 P) (.node (ok P 39) (.node (o119 P) (.node (ok P 135) .nil .nil) .nil) (.node (ok P 103) .nil .nil)) (.node (ok P 55) (.node (o135 P) (.node (ok P 151) .nil .nil) .nil) (.node (ok P 119) .nil .nil)))) (.node (o52 P) (.node (o60 P) (.node (ok P 35) (.node (o115 P) (.node (ok P 131) .nil .nil) .nil) (.node (o147 P) .nil .nil)) (.node (o96 P) (.node (o131 P) (.node (o197 P) .nil .nil) .nil) (.node (ok P 115) .nil .nil))) (.node (o68 P) (.node (o88 P) (.node (ok P 75) (.node (ok P 139) .nil .nil) .nil) (.node (ok P 107) .nil .nil)) (.node (ok P 59) (.node (ok P 91) .nil .nil) (.node (o173 P) .nil .nil))))) (.node (o46 P) (.node (o50 P) (.node (o58 P) (.node (o78 P) (.node (ok P 65) (.node (ok P 129) .nil .nil) .nil) (.node (o145 P) .nil .nil)) (.node (o94 P) (.node (ok P 81) (.node (ok P 145) .nil .nil) .nil) (.node (o163 P) .nil .nil))) (.node (o66 P) (.node (ok P 41) (.node (o121 P) (.node (o187 P) .nil .nil) .nil) (.node (ok P 105) .nil .nil)) (.node (o102 P) (.node (ok P 89) .nil .nil) (.node (ok P 121) .nil .nil)))) (.node (o54 P) (.node (o62 P) (.node (ok P 37) (.node (o117 P) (.node (ok P 133) .nil .nil) .nil) (.node (ok P 101) .nil .nil)) (.node (ok P 53) (.node (ok P 85) (.node (o199 P) .nil .nil) .nil) (.node (ok P 117) .nil .nil))) (.node (o161 P) (.node (ok P 45) (.node (ok P 77) (.node (o191 P) .nil .nil) .nil) (.node (o157 P) .nil .nil)) (.node (ok P 61) (.node (ok P 93) .nil .nil) (.node (ok P 125) .nil .nil)))))) (.node (ok P 2) (.node (o45 P) (.node (o49 P) (.node (o57 P) (.node (ok P 32) (.node (o109 P) (.node (ok P 128) .nil .nil) .nil) (.node (o144 P) .nil .nil)) (.node (o93 P) (.node (o128 P) (.node (o194 P) .nil .nil) .nil) (.node (ok P 112) .nil .nil))) (.node (o65 P) (.node (o85 P) (.node (ok P 72) (.node (ok P 136) .nil .nil) .nil) (.node (ok P 104) .nil .nil)) (.node (ok P 56) (.node (ok P 88) .nil .nil) (.node (o170 P) .nil .nil)))) (.node (o53 P) (.node (o61 P) (.node (o81 P) (.node (o116 P) (.node (ok P 132) .nil .nil) .nil) (.node (ok P 100) .nil .nil)) (.node (o97 P) (.node (ok P 84) (.node (o198 P) .nil .nil) .nil) (.node (o166 P) .nil .nil))) (.node (o69 P) (.node (ok P 44) (.node (o124 P) (.node (ok P 140) .nil .nil) .nil) (.node (ok P 108) .nil .nil)) (.node (ok P 60) (.node (ok P 92) .nil .nil) (.node (ok P 124) .nil .nil))))) (.node (o47 P) (.node (o51 P) (.node (o59 P) (.node (ok P 34) (.node (o114 P) (.node (o180 P) .nil .nil) .nil) (.node (ok P 98) .nil .nil)) (.node (o95 P) (.node (ok P 82) (.node (ok P 146) .nil .nil) .nil) (.node (ok P 114) .nil .nil))) (.node (o67 P) (.node (ok P 42) (.node (ok P 74) (.node (ok P 138) .nil .nil) .nil) (.node (o154 P) .nil .nil)) (.node (ok P 58) (.node (o138 P) .nil .nil) (.node (ok P 122) .nil .nil)))) (.node (o55 P) (.node (o63 P) (.node (ok P 38) (.node (o118 P) (.node (o184 P) .nil .nil) .nil) (.node (o150 P) .nil .nil)) (.node (o99 P) (.node (ok P 86) (.node (ok P 150) .nil .nil) .nil) (.node (ok P 118) .nil .nil))) (.node (o71 P) (.node (ok P 46) (.node (ok P 78) (.node (ok P 142) .nil .nil) .nil) (.node (ok P 110) .nil .nil)) (.node (ok P 62) (.node (ok P 94) .nil .nil) (.node (ok P 126) .nil .nil)))))))
noncomputable def T4 (P : Params) : BT := (.node (o41 P) (.node (o42 P) (.node (o202 P) (.node (o48 P) (.node (o56 P) (.node (o72 P) (.node (o108 P) (.node (o177 P) .nil .nil) .nil) (.node (ok P 95) .nil .nil)) (.node (o92 P) (.node (ok P 79) (.node (ok P 143) .nil .nil) .nil) (.node (ok P 111) .nil .nil))) (.node (o64 P) (.node (ok P 39) (.node (o119 P) (.node (ok P 135) .nil .nil) .nil) (.node (ok P 103) .nil .nil)) (.node (ok P 55) (.node (o135 P) (.node (ok P 151) .nil .nil) .nil) (.node (ok P 119) .nil .nil)))) (.node (o52 P) (.node (o60 P) (.node (ok P 35) (.node (o115 P) (.node (ok P 131) .nil .nil) .nil) (.node (o147 P) .nil .nil)) (.node (o96 P) (.node (o131 P) (.node (o197 P) .nil .nil) .nil) (.node (ok P 115) .nil .nil))) (.node (o68 P) (.node (o88 P) (.node (ok P 75) (.node (ok P 139) .nil .nil) .nil) (.node (ok P 107) .nil .nil)) (.node (ok P 59) (.node (ok P 91) (.node (o206 P) .nil .nil) .nil) (.node (o173 P) .nil .nil))))) (.node (o46 P) (.node (o50 P) (.node (o58 P) (.node (o78 P) (.node (ok P 65) (.node (ok P 129) .nil .nil) .nil) (.node (o145 P) .nil .nil)) (.node (o94 P) (.node (ok P 81) (.node (ok P 145) .nil .nil) .nil) (.node (o163 P) .nil .nil))) (.node (o66 P) (.node (ok P 41) (.node (o121 P) (.node (o187 P) .nil .nil) .nil) (.node (ok P 105) .nil .nil)) (.node (o102 P) (.node (ok P 89) (.node (o204 P) .nil .nil) .nil) (.node (ok P 121) .nil .nil)))) (.node (o54 P) (.node (o62 P) (.node (ok P 37) (.node (o117 P) (.node (ok P 133) .nil .nil) .nil) (.node (ok P 101) .nil .nil)) (.node (ok P 53) (.node (ok P 85) (.node (o199 P) .nil .nil) .nil) (.node (ok P 117) .nil .nil))) (.node (o161 P) (.node (ok P 45) (.node (ok P 77) (.node (o191 P) .nil .nil) .nil) (.node (o157 P) .nil .nil)) (.node (ok P 61) (.node (ok P 93) (.node (o208 P) .nil .nil) .nil) (.node (ok P 125) .nil .nil)))))) (.node (ok P 2) (.node (o45 P) (.node (o49 P) (.node (o57 P) (.node (ok P 32) (.node (o109 P) (.node (ok P 128) .nil .nil) .nil) (.node (o144 P) .nil .nil)) (.node (o93 P) (.node (o128 P) (.node (o194 P) .nil .nil) .nil) (.node (ok P 112) .nil .nil))) (.node (o65 P) (.node (o85 P) (.node (ok P 72) (.node (ok P 136) .nil .nil) .nil) (.node (ok P 104) .nil .nil)) (.node (ok P 56) (.node (ok P 88) (.node (o203 P) .nil .nil) .nil) (.node (o170 P) .nil .nil)))) (.node (o53 P) (.node (o61 P) (.node (o81 P) (.node (o116 P) (.node (ok P 132) .nil .nil) .nil) (.node (ok P 100) .nil .nil)) (.node (o97 P) (.node (ok P 84) (.node (o198 P) .nil .nil) .nil) (.node (o166 P) .nil .nil))) (.node (o69 P) (.node (ok P 44) (.node (o124 P) (.node (ok P 140) .nil .nil) .nil) (.node (ok P 108) .nil .nil)) (.node (ok P 60) (.node (ok P 92) (.node (o207 P) .nil .nil) .nil) (.node (ok P 124) .nil .nil))))) (.node (o47 P) (.node (o51 P) (.node (o59 P) (.node (ok P 34) (.node (o114 P) (.node (o180 P) .nil .nil) .nil) (.node (ok P 98) .nil .nil)) (.node (o95 P) (.node (ok P 82) (.node (ok P 146) .nil .nil) .nil) (.node (ok P 114) .nil .nil))) (.node (o67 P) (.node (ok P 42) (.node (ok P 74) (.node (ok P 138) .nil .nil) .nil) (.node (o154 P) .nil .nil)) (.node (ok P 58) (.node (o138 P) (.node (ok P 154) .nil .nil) .nil) (.node (ok P 122) .nil .nil)))) (.node (o55 P) (.node (o63 P) (.node (ok P 38) (.node (o118 P) (.node (o184 P) .nil .nil) .nil) (.node (o150 P) .nil .nil)) (.node (o99 P) (.node (ok P 86) (.node (ok P 150) .nil .nil) .nil) (.node (ok P 118) .nil .nil))) (.node (o71 P) (.node (ok P 46) (.node (ok P 78) (.node (ok P 142) .nil .nil) .nil) (.node (ok P 110) .nil .nil)) (.node (ok P 62) (.node (ok P 94) .nil .nil) (.node (ok P 126) .nil .nil)))))))
noncomputable def T5 (P : Params) : BT := (.node (o41 P) (.node (o42 P) (.node (ok P 3) (.node (o48 P) (.node (o56 P) (.node (o72 P) (.node (o108 P) (.node (o177 P) (.node (o630 P) .nil .nil) .nil) (.node (ok P 191) .nil .nil)) (.node (ok P 95) (.node (ok P 159) .nil .nil) (.node (ok P 223) .nil .nil))) (.node (o92 P) (.node (ok P 79) (.node (ok P 143) .nil .nil) (.node (ok P 207) .nil .nil)) (.node (ok P 111) (.node (ok P 175) .nil .nil) (.node (o614 P) .nil .nil)))) (.node (o64 P) (.node (ok P 39) (.node (o119 P) (.node (ok P 135) (.node (o638 P) .nil .nil) .nil) (.node (ok P 199) .nil .nil)) (.node (ok P 103) (.node (o525 P) .nil .nil) (.node (ok P 231) .nil .nil))) (.node (ok P 55) (.node (o135 P) (.node (ok P 151) .nil .nil) (.node (o586 P) .nil .nil)) (.node (ok P 119) (.node (ok P 183) .nil .nil) (.node (ok P 247) .nil .nil))))) (.node (o52 P) (.node (o60 P) (.node (ok P 35) (.node (o115 P) (.node (ok P 131) (.node (ok P 259) .nil .nil) .nil) (.node (ok P 195) .nil .nil)) (.node (o147 P) (.node (o509 P) .nil .nil) (.node (ok P 227) .nil .nil))) (.node (o96 P) (.node (o131 P) (.node (o197 P) .nil .nil) (.node (ok P 211) .nil .nil)) (.node (ok P 115) (.node (o550 P) .nil .nil) (.node (o618 P) .nil .nil)))) (.node (o68 P) (.node (o88 P) (.node (ok P 75) (.node (ok P 139) .nil .nil) (.node (ok P 203) .nil .nil)) (.node (ok P 107) (.node (ok P 171) .nil .nil) (.node (ok P 235) .nil .nil))) (.node (ok P 59) (.node (ok P 91) (.node (o206 P) .nil .nil) (.node (o590 P) .nil .nil)) (.node (o173 P) (.node (o558 P) .nil .nil) (.node (o626 P) .nil .nil)))))) (.node (o46 P) (.node (o50 P) (.node (o58 P) (.node (o78 P) (.node (ok P 65) (.node (ok P 129) (.node (ok P 257) .nil .nil) .nil) (.node (o564 P) .nil .nil)) (.node (o145 P) (.node (o522 P) .nil .nil) (.node (ok P 225) .nil .nil))) (.node (o94 P) (.node (ok P 81) (.node (ok P 145) .nil .nil) (.node (ok P 209) .nil .nil)) (.node (o163 P) (.node (ok P 177) .nil .nil) (.node (ok P 241) .nil .nil)))) (.node (o66 P) (.node (ok P 41) (.node (o121 P) (.node (o187 P) (.node (ok P 265) .nil .nil) .nil) (.node (ok P 201) .nil .nil)) (.node (ok P 105) (.node (o540 P) .nil .nil) (.node (o608 P) .nil .nil))) (.node (o102 P) (.node (ok P 89) (.node (o204 P) .nil .nil) (.node (ok P 217) .nil .nil)) (.node (ok P 121) (.node (ok P 185) .nil .nil) (.node (ok P 249) .nil .nil))))) (.node (o54 P) (.node (o62 P) (.node (ok P 37) (.node (o117 P) (.node (ok P 133) (.node (ok P 261) .nil .nil) .nil) (.node (o568 P) .nil .nil)) (.node (ok P 101) (.node (o523 P) .nil .nil) (.node (o604 P) .nil .nil))) (.node (ok P 53) (.node (ok P 85) (.node (o199 P) .nil .nil) (.node (ok P 213) .nil .nil)) (.node (ok P 117) (.node (ok P 181) .nil .nil) (.node (ok P 245) .nil .nil)))) (.node (o599 P) (.node (ok P 45) (.node (ok P 77) (.node (o191 P) .nil .nil) (.node (o576 P) .nil .nil)) (.node (o157 P) (.node (ok P 173) .nil .nil) (.node (ok P 237) .nil .nil))) (.node (ok P 61) (.node (ok P 93) (.node (o208 P) .nil .nil) (.node (ok P 221) .nil .nil)) (.node (ok P 125) (.node (ok P 189) .nil .nil) (.node (ok P 253) .nil .nil))))))) (.node (ok P 2) (.node (o45 P) (.node (o49 P) (.node (o57 P) (.node (ok P 32) (.node (o109 P) (.node (ok P 128) (.node (ok P 256) .nil .nil) .nil) (.node (o563 P) .nil .nil)) (.node (o144 P) (.node (o504 P) .nil .nil) (.node (ok P 224) .nil .nil))) (.node (o93 P) (.node (o128 P) (.node (o194 P) .nil .nil) (.node (o579 P) .nil .nil)) (.node (ok P 112) (.node (o547 P) .nil .nil) (.node (ok P 240) .nil .nil)))) (.node (o65 P) (.node (o85 P) (.node (ok P 72) (.node (ok P 136) (.node (ok P 264) .nil .nil) .nil) (.node (o571 P) .nil .nil)) (.node (ok P 104) (.node (ok P 168) .nil .nil) (.node (ok P 232) .nil .nil))) (.node (ok P 56) (.node (ok P 88) (.node (o203 P) .nil .nil) (.node (ok P 216) .nil .nil)) (.node (o170 P) (.node (o555 P) .nil .nil) (.node (o623 P) .nil .nil))))) (.node (o53 P) (.node (o61 P) (.node (o81 P) (.node (o116 P) (.node (ok P 132) (.node (ok P 260) .nil .nil) .nil) (.node (ok P 196) .nil .nil)) (.node (ok P 100) (.node (o510 P) .nil .nil) (.node (ok P 228) .nil .nil))) (.node (o97 P) (.node (ok P 84) (.node (o198 P) .nil .nil) (.node (o583 P) .nil .nil)) (.node (o166 P) (.node (ok P 180) .nil .nil) (.node (o619 P) .nil .nil)))) (.node (o69 P) (.node (ok P 44) (.node (o124 P) (.node (ok P 140) .nil .nil) (.node (ok P 204) .nil .nil)) (.node (ok P 108) (.node (o543 P) .nil .nil) (.node (ok P 236) .nil .nil))) (.node (ok P 60) (.node (ok P 92) (.node (o207 P) .nil .nil) (.node (ok P 220) .nil .nil)) (.node (ok P 124) (.node (ok P 188) .nil .nil) (.node (ok P 252) .nil .nil)))))) (.node (o47 P) (.node (o51 P) (.node (o59 P) (.node (ok P 34) (.node (o114 P) (.node (o180 P) (.node (o633 P) .nil .nil) .nil) (.node (o565 P) .nil .nil)) (.node (ok P 98) (.node (o508 P) .nil .nil) (.node (o601 P) .nil .nil))) (.node (o95 P) (.node (ok P 82) (.node (ok P 146) .nil .nil) (.node (ok P 210) .nil .nil)) (.node (ok P 114) (.node (ok P 178) .nil .nil) (.node (ok P 242) .nil .nil)))) (.node (o67 P) (.node (ok P 42) (.node (ok P 74) (.node (ok P 138) .nil .nil) (.node (ok P 202) .nil .nil)) (.node (o154 P) (.node (ok P 170) .nil .nil) (.node (o609 P) .nil .nil))) (.node (ok P 58) (.node (o138 P) (.node (ok P 154) .nil .nil) (.node (ok P 218) .nil .nil)) (.node (ok P 122) (.node (ok P 186) .nil .nil) (.node (ok P 250) .nil .nil))))) (.node (o55 P) (.node (o63 P) (.node (ok P 38) (.node (o118 P) (.node (o184 P) (.node (o637 P) .nil .nil) .nil) (.node (ok P 198) .nil .nil)) (.node (o150 P) (.node (o524 P) .nil .nil) (.node (ok P 230) .nil .nil))) (.node (o99 P) (.node (ok P 86) (.node (ok P 150) .nil .nil) (.node (ok P 214) .nil .nil)) (.node (ok P 118) (.node (ok P 182) .nil .nil) (.node (ok P 246) .nil .nil)))) (.node (o71 P) (.node (ok P 46) (.node (ok P 78) (.node (ok P 142) .nil .nil) (.node (ok P 206) .nil .nil)) (.node (ok P 110) (.node (ok P 174) .nil .nil) (.node (o613 P) .nil .nil))) (.node (ok P 62) (.node (ok P 94) (.node (o502 P) .nil .nil) (.node (o593 P) .nil .nil)) (.node (ok P 126) (.node (o561 P) .nil .nil) (.node (ok P 254) .nil .nil))))))))

noncomputable def EV : Env := { scope := Challenge.rw_pd0176_01.row.toRowW.1.main.scope, locals := mainNs, globals := mainNs, cells := [], code := .ref 30, frame := some 31 }
end MineHd
end

section
open PySem PySem.W PyProof.Rows
set_option maxRecDepth 100000
set_option maxHeartbeats 0
namespace MineHd
noncomputable abbrev BD : List Stmt := behindTheImports PX
noncomputable abbrev CE : Code := .body BD EV
noncomputable abbrev p0 : Pos := ⟨0, 0, 0, 0⟩
noncomputable abbrev p3 : Pos := ⟨128, 0, 128, 2⟩
noncomputable abbrev p4 : Pos := ⟨129, 0, 129, 11⟩
noncomputable abbrev p5 : Pos := ⟨288, 0, 303, 40⟩
noncomputable abbrev Sb (P : Params) (os : OsState) : SharedT := ⟨Tb P, 32, {}, Array.mk [], {}, 282, os⟩
noncomputable abbrev S3 (P : Params) (os : OsState) : SharedT := ⟨T3 P, 152, {}, Array.mk [], {}, 484, os⟩
noncomputable abbrev S4 (P : Params) (os : OsState) : SharedT := ⟨T4 P, 158, {}, Array.mk [], {}, 1512, os⟩
noncomputable abbrev S5 (P : Params) (os : OsState) : SharedT := ⟨T5 P, 266, {}, Array.mk [], {}, 2159, os⟩
noncomputable abbrev SegTy := (String → Option Builtin) → Program → World → Nat → Option Value → Nat → Nat → SharedT → Thread → Option (Flow × SharedT × Code × Pos)
theorem g1_ (w : World) : (fun os => (PySem.W.Fast.tw10110043849684766642 : SegTy) PySem.W.Fast.tw14364793385576792824 PX w 28 (some (.ref 6)) 1 955 (Sb w.params os) (piecesOf (BD.take 20) EV CE p0 [topFrame p0])) =
    fun os => some (.next, S3 w.params os, CE, p3) := by kernel_rfl
theorem segRun_twin : (@segRunT : SegTy) = PySem.W.Fast.tw10110043849684766642 := PySem.W.Fast.te10110043849684766642
theorem tree_twin : treeTable = PySem.W.Fast.tw14364793385576792824 := PySem.W.Fast.te14364793385576792824
theorem g1 (w : World) (os : OsState) : segRunT treeTable PX w 28 (some (.ref 6)) 1 955 (Sb w.params os) (piecesOf (BD.take 20) EV CE p0 [topFrame p0]) = some (.next, S3 w.params os, CE, p3) := by
  have := congrFun (g1_ w) os
  rw [← segRun_twin, ← tree_twin] at this
  exact this
end MineHd
end

section
open PySem PySem.W PyProof.Rows
set_option maxRecDepth 100000
set_option maxHeartbeats 0
namespace MineHd
noncomputable abbrev GoTy := (String → Option Builtin) → Program → World → Nat → Option Value → Nat → Nat → SharedT → Thread → Option (SharedT × Thread)
noncomputable abbrev T20 : Thread := piecesOf ((BD.drop 20).take 1) EV CE p3 [topFrame p0]
noncomputable abbrev wX (w : World) (a b : Bool) : World := (w.withFollow "special-get-raises" a).withFollow "comprehension-iter-twice" b
noncomputable def goW (w : World) (k : Nat) (x : SharedT × Thread) : Option (SharedT × Thread) := (PySem.W.Fast.tw10295753902157049106 : GoTy) PySem.W.Fast.tw14364793385576792824 PX w 28 (some (.ref 6)) 1 k x.1 x.2
noncomputable def runW (w : World) (k : Nat) (x : SharedT × Thread) : Option (Flow × SharedT × Code × Pos) := (PySem.W.Fast.tw10110043849684766642 : SegTy) PySem.W.Fast.tw14364793385576792824 PX w 28 (some (.ref 6)) 1 k x.1 x.2
/-- the comprehension's run, k steps from its start: the loop's first turn ends behind 89 steps, or 79; the worlds part before that alone -/
noncomputable def Mid (w : World) (k : Nat) (os : OsState) : Option (SharedT × Thread) := goW w k (S3 w.params os, T20)
theorem mid_ff (w : World) : (fun os => Mid (wX w false false) 89 os) = fun os => Mid (wX (wX w false false) false false) 89 os := by kernel_rfl
theorem mid_tf (w : World) : (fun os => Mid (wX w true false) 89 os) = fun os => Mid (wX (wX w true false) false false) 89 os := by kernel_rfl
theorem mid_ft (w : World) : (fun os => Mid (wX w false true) 79 os) = fun os => Mid (wX (wX w false true) false false) 89 os := by kernel_rfl
theorem mid_tt (w : World) : (fun os => Mid (wX w true true) 79 os) = fun os => Mid (wX (wX w true true) false false) 89 os := by kernel_rfl
/-- at a turn's end the thread is one and the same -/
noncomputable def thr (w : World) (os : OsState) : Thread := match Mid (wX w false false) 89 os with | some x => x.2 | none => T20
noncomputable def items (P : Params) : List Value := match (ok P 154).data with | .seq xs _ => xs.toList | _ => []
noncomputable def entriesOf (o : Obj) : List DictEntry := match o.data with | .dict es _ => es.toList | _ => []
/-- a dict's object, its entry at i (the last) bound anew -/
noncomputable def putAt (i : Nat) (v : Value) (n : Nat) (o : Obj) : Obj := { o with data := .dict (((entriesOf o).take i ++ ((entriesOf o).drop i).map fun e => (⟨e.hash, e.key, v⟩ : DictEntry)).toArray) n }
/-- the state behind i turns -/
noncomputable def St (w : World) (os : OsState) (i : Nat) : SharedT := match Mid (wX w false false) 89 os with
  | some (s, _) => { s with
      tree := ((s.tree.set 153 fun o => { o with data := .fields #[.int (i : Nat) 0, .int ((256 - i : Nat) : Int) 0, .int 1 0] }).set 154 fun o => { o with data := .seq ((items w.params).take i).toArray i }).set 155 (putAt 0 (.int ((i - 1 : Nat) : Int) (483 + 4 * i)) 1)
      toks := 487 + 4 * i }
  | none => S3 w.params os
theorem turn_1 (w : World) : (fun os => Mid (wX w false false) 89 os) = fun os => some (St w os 1, thr w os) := by kernel_rfl
theorem turn_52 (w : World) : (fun os => goW w 1887 (St w os 1, thr w os)) = fun os => some (St w os 52, thr w os) := by kernel_rfl
theorem turn_103 (w : World) : (fun os => goW w 1887 (St w os 52, thr w os)) = fun os => some (St w os 103, thr w os) := by kernel_rfl
theorem turn_154 (w : World) : (fun os => goW w 1887 (St w os 103, thr w os)) = fun os => some (St w os 154, thr w os) := by kernel_rfl
theorem turn_205 (w : World) : (fun os => goW w 1887 (St w os 154, thr w os)) = fun os => some (St w os 205, thr w os) := by kernel_rfl
theorem turn_256 (w : World) : (fun os => goW w 1887 (St w os 205, thr w os)) = fun os => some (St w os 256, thr w os) := by kernel_rfl
theorem turns_end (w : World) : (fun os => runW w 28 (St w os 256, thr w os)) = fun os => some (.next, S4 w.params os, CE, p4) := by kernel_rfl
theorem segGo_twin : (@segGoT : GoTy) = PySem.W.Fast.tw10295753902157049106 := PySem.W.Fast.te10295753902157049106
/-- more steps than a piece needs do no harm -/
theorem segRun_mono {tb : String → Option Builtin} {p : Program} {w : World} {n₀ : Nat} {ann : Option Value} {b : Nat} (k : Nat) : ∀ {n : Nat} {s : Shared} {t : Thread} {r : Flow × Shared × Code × Pos}, segRun tb p w n₀ ann b n s t = some r → segRun tb p w n₀ ann b (n + k) s t = some r
  | 0, _, _, _, h => by cases h
  | n + 1, s, t, r, h => by
    rw [Nat.add_right_comm]
    unfold segRun at h ⊢
    cases he : endAt b t with
    | some f => rw [he] at h; exact h
    | none =>
      rw [he] at h
      cases hk : stepOk n₀ ann t with
      | false => rw [hk] at h; cases h
      | true =>
        rw [hk] at h
        cases hs : step (denote tb) p w s t with
        | halt o s₂ => rw [hs] at h; cases h
        | go s₂ t₂ => rw [hs] at h; exact segRun_mono k h
theorem goW_seg {w : World} {k N : Nat} {x y : SharedT × Thread} {r : Flow × Shared × Code × Pos} (h : goW w k x = some y) (q : segRun treeTable PX w 28 (some (.ref 6)) 1 N y.1.abs y.2 = some r) :
    segRun treeTable PX w 28 (some (.ref 6)) 1 (k + N) x.1.abs x.2 = some r := by
  unfold goW at h
  rw [← segGo_twin, ← tree_twin] at h
  exact seg_go (segGo_of (s' := y.1) (t' := y.2) h) q
theorem runW_seg {w : World} {k : Nat} {x : SharedT × Thread} {f : Flow} {s : SharedT} {c : Code} {q : Pos} (h : runW w k x = some (f, s, c, q)) : segRun treeTable PX w 28 (some (.ref 6)) 1 k x.1.abs x.2 = some (f, s.abs, c, q) := by
  unfold runW at h
  rw [← segRun_twin, ← tree_twin] at h
  exact segRun_of h
theorem at_os {ι α : Type} {a b : ι → α} (h : (fun i => a i) = fun i => b i) (i : ι) : a i = b i := congrFun h i
theorem g2x (X : World) (m k : Nat) (hm : m + (1887 + (1887 + (1887 + (1887 + (1887 + 28))))) + k = 9552) (e : (fun os => Mid X m os) = fun os => Mid (wX X false false) 89 os) (os : OsState) :
    segRun treeTable PX X 28 (some (.ref 6)) 1 9552 (S3 X.params os).abs T20 = some (.next, (S4 X.params os).abs, CE, p4) := by
  have q5 := goW_seg (at_os (turn_256 X) os) (runW_seg (at_os (turns_end X) os))
  have q4 := goW_seg (at_os (turn_205 X) os) q5
  have q3 := goW_seg (at_os (turn_154 X) os) q4
  have q2 := goW_seg (at_os (turn_103 X) os) q3
  have q1 := goW_seg (at_os (turn_52 X) os) q2
  have q0 : goW X m (S3 X.params os, T20) = some (St X os 1, thr X os) := (at_os e os).trans (at_os (turn_1 X) os)
  rw [← hm]
  exact segRun_mono k (goW_seg (x := (S3 X.params os, T20)) q0 q1)
noncomputable def G2 (w : World) : Prop := ∀ os : OsState, segRun treeTable PX w 28 (some (.ref 6)) 1 9552 (S3 w.params os).abs T20 = some (.next, (S4 w.params os).abs, CE, p4)
theorem g2 (w : World) : G2 w :=
  byRow2 "comprehension-iter-twice" (P := G2)
    (byRow2 "special-get-raises" (P := fun w => G2 (w.withFollow "comprehension-iter-twice" false)) (fun w => g2x _ 89 0 rfl (mid_ff w)) (fun w => g2x _ 89 0 rfl (mid_tf w)))
    (byRow2 "special-get-raises" (P := fun w => G2 (w.withFollow "comprehension-iter-twice" true)) (fun w => g2x _ 79 10 rfl (mid_ft w)) (fun w => g2x _ 79 10 rfl (mid_tt w))) w
end MineHd
end

section
open PySem PySem.W PyProof.Rows
set_option maxRecDepth 100000
set_option maxHeartbeats 0
namespace MineHd
noncomputable abbrev wT (w : World) (b : Bool) : World := w.withFollow "special-get-raises" b
/-- the signs of the two loops -/
noncomputable def sg1 : List Nat := [45, 33, 42, 43, 47] ++ (List.range 26).map (· + 97) ++ (List.range 26).map (· + 65) ++ (List.range 10).map (· + 48)
noncomputable def sg2 : List Nat := (List.range 29).map (· + 32) ++ (List.range 65).map (· + 62) ++ [9]
/-- the first j signs of sg put as they are into a map's object -/
noncomputable def putMap (sg : List Nat) (j t : Nat) (o : Obj) : Obj := match o.data with
  | .seq xs n => { o with data := .seq (((sg.take j).zipIdx.foldl (fun l p => l.set p.1 (.str ⟨#[p.1]⟩ (t + 3 * p.2))) xs.toList).toArray) n }
  | _ => o
noncomputable def itAt (j : Nat) (o : Obj) : Obj := match o.data with
  | .fields a => { o with data := .fields #[a.toList.headD .none, .int (j : Nat) 0] }
  | _ => o
/-- behind j turns of a loop over sg: the name (object 3, entry 32), the map m, the iterator i, the tokens -/
noncomputable def turns (sg : List Nat) (m i t j : Nat) (s : SharedT) : SharedT :=
  { s with tree := ((s.tree.set 3 (putAt 32 (.int (((sg.drop (j - 1)).headD 0 : Nat) : Int) (t + 3 * j - 3)) 33)).set m (putMap sg j (t + 2))).set i (itAt j), toks := t + 3 * j }
-- the states ahead of the first loop and of the second
noncomputable def t5 (P : Params) (a : Nat) : Obj := ((T5 P).get a).getD default
noncomputable def dict3 (P : Params) (k : Nat) : Obj := { ok P 3 with data := .dict ((match (entriesOf (ok P 3)).take k with | e :: r => ⟨e.hash, e.key, .str "cpy313.email.quoprimime" 1527⟩ :: r | [] => []) : List DictEntry).toArray k }
noncomputable def dictC (P : Params) : Obj := { ok P 3 with data := .dict (entriesOf (dict3 P 32) ++ [(⟨PyData.keyHash P "c", .str "c" 1537, .int 57 1734⟩ : DictEntry)]).toArray 33 }
noncomputable def l0 (P : Params) : Obj := { t5 P 161 with data := .seq (items P).toArray 0 }
noncomputable def S4b (P : Params) (os : OsState) : SharedT := ⟨(((((T4 P).set 3 fun _ => dict3 P 32).ins 158 (t5 P 158)).ins 159 (l0 P)).ins 160 (t5 P 160)).ins 161 (l0 P), 162, {}, Array.mk [], {}, 1529, os⟩
noncomputable def S4c (P : Params) (os : OsState) : SharedT :=
  ⟨((((((((T4 P).set 3 fun _ => dictC P).ins 158 (t5 P 158)).ins 159 (t5 P 159)).ins 160 (t5 P 160)).ins 161 (l0 P)).ins 162 (t5 P 162)).ins 163 (t5 P 163)).ins 164 (t5 P 164), 165, {}, Array.mk [], {}, 1740, os⟩
noncomputable abbrev pb : Pos := ⟨137, 0, 137, 8⟩
noncomputable abbrev pc : Pos := ⟨140, 0, 140, 28⟩
noncomputable abbrev T21 : Thread := piecesOf ((BD.drop 21).take 8) EV CE p4 [topFrame p0]
noncomputable abbrev T29 : Thread := piecesOf ((BD.drop 29).take 2) EV CE pb [topFrame p0]
noncomputable abbrev T31 : Thread := piecesOf (BD.drop 31) EV CE pc [topFrame p0]
theorem ga (w : World) : (fun os => runW w 140 (S4 w.params os, T21)) = fun os => some (.next, S4b w.params os, CE, pb) := by kernel_rfl
/-- the first loop's first turn -/
noncomputable def R1 (w : World) (os : OsState) : Option (SharedT × Thread) := goW (wT w false) 89 (S4b w.params os, T29)
noncomputable def thr1 (w : World) (os : OsState) : Thread := match R1 w os with | some x => x.2 | none => T29
noncomputable def St1 (w : World) (os : OsState) (j : Nat) : SharedT := match R1 w os with | some x => turns sg1 159 162 1536 j x.1 | none => S4 w.params os
theorem c1 (w : World) : (fun os => goW (wT w true) 89 (S4b w.params os, T29)) = fun os => R1 w os := by kernel_rfl
theorem t1 (w : World) : (fun os => R1 w os) = fun os => some (St1 w os 1, thr1 w os) := by kernel_rfl
theorem t34 (w : World) : (fun os => goW w 1485 (St1 w os 1, thr1 w os)) = fun os => some (St1 w os 34, thr1 w os) := by kernel_rfl
theorem t67 (w : World) : (fun os => goW w 1485 (St1 w os 34, thr1 w os)) = fun os => some (St1 w os 67, thr1 w os) := by kernel_rfl
theorem gb (w : World) : (fun os => runW w 60 (St1 w os 67, thr1 w os)) = fun os => some (.next, S4c w.params os, CE, pc) := by kernel_rfl
/-- the second loop's first turn -/
noncomputable def R2 (w : World) (os : OsState) : Option (SharedT × Thread) := goW (wT w false) 55 (S4c w.params os, T31)
noncomputable def thr2 (w : World) (os : OsState) : Thread := match R2 w os with | some x => x.2 | none => T31
noncomputable def St2 (w : World) (os : OsState) (j : Nat) : SharedT := match R2 w os with | some x => turns sg2 161 165 1741 j x.1 | none => S4 w.params os
theorem c2 (w : World) : (fun os => goW (wT w true) 55 (S4c w.params os, T31)) = fun os => R2 w os := by kernel_rfl
theorem u1 (w : World) : (fun os => R2 w os) = fun os => some (St2 w os 1, thr2 w os) := by kernel_rfl
theorem u32 (w : World) : (fun os => goW w 1395 (St2 w os 1, thr2 w os)) = fun os => some (St2 w os 32, thr2 w os) := by kernel_rfl
theorem u64 (w : World) : (fun os => goW w 1440 (St2 w os 32, thr2 w os)) = fun os => some (St2 w os 64, thr2 w os) := by kernel_rfl
theorem u95 (w : World) : (fun os => goW w 1395 (St2 w os 64, thr2 w os)) = fun os => some (St2 w os 95, thr2 w os) := by kernel_rfl
/-- behind the loops: the row is asked once more -/
noncomputable def Q4 (w : World) (os : OsState) : Option (SharedT × Thread) := goW w 138 (St2 w os 95, thr2 w os)
noncomputable def Q5 (w : World) (os : OsState) : Option (SharedT × Thread) := (Q4 w os).bind (goW (wT w false) 7)
theorem c3 (w : World) : (fun os => (Q4 w os).bind (goW (wT w true) 7)) = fun os => Q5 w os := by kernel_rfl
theorem gc (w : World) : (fun os => (Q5 w os).bind (runW w 510)) = fun os => some (.next, S5 w.params os, CE, p5) := by kernel_rfl
theorem bindS {α β : Type} {x : Option α} {f : α → Option β} {b : β} (h : x.bind f = some b) : ∃ a, x = some a ∧ f a = some b := by
  cases x with
  | none => cases h
  | some a => exact ⟨a, rfl, h⟩
/-- a world is the one or the other of its two -/
theorem two (w : World) : wT w true = w ∨ wT w false = w := by
  have e := World.withFollow_self w "special-get-raises"
  cases b : w.params.followText "special-get-raises" with
  | true => rw [b] at e; exact .inl e
  | false => rw [b] at e; exact .inr e
theorem k1 (w : World) (os : OsState) : goW w 89 (S4b w.params os, T29) = R1 w os := by
  rcases two w with e | e
  · have h := at_os (c1 w) os
    rw [e] at h
    exact h
  · unfold R1; rw [e]
theorem k2 (w : World) (os : OsState) : goW w 55 (S4c w.params os, T31) = R2 w os := by
  rcases two w with e | e
  · have h := at_os (c2 w) os
    rw [e] at h
    exact h
  · unfold R2; rw [e]
theorem k3 (w : World) (os : OsState) : (Q4 w os).bind (goW w 7) = Q5 w os := by
  rcases two w with e | e
  · have h := at_os (c3 w) os
    rw [e] at h
    exact h
  · unfold Q5; rw [e]
theorem g3a (w : World) (os : OsState) : segRun treeTable PX w 28 (some (.ref 6)) 1 140 (S4 w.params os).abs T21 = some (.next, (S4b w.params os).abs, CE, pb) :=
  runW_seg (x := (S4 w.params os, T21)) (at_os (ga w) os)
theorem g3b (w : World) (os : OsState) : segRun treeTable PX w 28 (some (.ref 6)) 1 (89 + (1485 + (1485 + 60))) (S4b w.params os).abs T29 = some (.next, (S4c w.params os).abs, CE, pc) := by
  have q3 := runW_seg (at_os (gb w) os)
  have q2 := goW_seg (at_os (t67 w) os) q3
  have q1 := goW_seg (at_os (t34 w) os) q2
  exact goW_seg (x := (S4b w.params os, T29)) ((k1 w os).trans (at_os (t1 w) os)) q1
theorem g3c (w : World) (os : OsState) : segRun treeTable PX w 28 (some (.ref 6)) 1 (55 + (1395 + (1440 + (1395 + (138 + (7 + 510)))))) (S4c w.params os).abs T31 = some (.next, (S5 w.params os).abs, CE, p5) := by
  obtain ⟨x5, e5, r5⟩ := bindS (at_os (gc w) os)
  obtain ⟨x4, e4, r4⟩ := bindS ((k3 w os).trans e5)
  have q6 := goW_seg r4 (runW_seg r5)
  have q5 := goW_seg (x := (St2 w os 95, thr2 w os)) e4 q6
  have q4 := goW_seg (at_os (u95 w) os) q5
  have q3 := goW_seg (at_os (u64 w) os) q4
  have q2 := goW_seg (at_os (u32 w) os) q3
  exact goW_seg (x := (S4c w.params os, T31)) ((k2 w os).trans (at_os (u1 w) os)) q2
end MineHd
end

section
open PySem PySem.W PyProof.Rows
set_option maxRecDepth 100000
set_option maxHeartbeats 0
namespace MineHd
noncomputable abbrev h0 (P : Params) (os : OsState) : Shared := ⟨H0 P, Array.mk [], {}, 276, os⟩
noncomputable abbrev ha (P : Params) (os : OsState) : Shared := ⟨Ha P, Array.mk [], {}, 282, os⟩
noncomputable abbrev h1 (P : Params) (os : OsState) : Shared := ⟨H1 P, Array.mk [], {}, 2159, os⟩
-- the opening, at once
theorem open__ (w : World) : (((PySem.W.Fast.tw10274390034422433532 : (String → Option Builtin) → Program → World → Nat → Shared → Thread → Option Shared) PySem.W.Fast.tw14364793385576792824 (opening PX) w 37378 (start (opening PX)).1 (start (opening PX)).2).bind (fenceModules? PX)).map (fun s => (s.heap, s.gens, s.drawn, s.toks)) = some (H0 w.params, Array.mk [], {}, 276) := by kernel_rfl
theorem imp_twin : importEnds = PySem.W.Fast.tw10274390034422433532 := PySem.W.Fast.te10274390034422433532
theorem open_ (w : World) : (fencedOpening treeTable PX w 37378).map (fun s => (s.heap, s.gens, s.drawn, s.toks)) = some (H0 w.params, Array.mk [], {}, 276) := by
  have := open__ w
  rw [← imp_twin, ← tree_twin] at this
  exact this
theorem size_ (w : World) : ((H0 w.params).isNs mainGlobals && (Array.mk [] : Array GenState).size == 0, (H0 w.params).objs.size, (H0 w.params).nsMap mainGlobals "__annotations__") = (true, 28, some (.ref 6)) := by kernel_rfl
theorem pre_ (w : World) : (fun os => (PySem.W.Fast.tw15667345088766844465 : (String → Option Builtin) → Program → World → Nat → Option Value → Nat → Shared → Thread → Option (Shared × Thread)) PySem.W.Fast.tw14364793385576792824 PX w 28 (some (.ref 6)) 12 (h0 w.params os) (topStub PX)) = fun os => some (ha w.params os, ⟨(PySem.W.Fast.tw11892475500146522536 : (String → Option Builtin) → Code → Sem Fin) PySem.W.Fast.tw14364793385576792824 CE, CE, p0, [topFrame p0]⟩) := by kernel_rfl
theorem block_ (w : World) : (fun os => (PySem.W.Fast.tw14374325043358763698 : (String → Option Builtin) → Program → World → Nat → Option Value → Nat → Nat → Shared → Thread → Option (Flow × Shared × Code × Pos)) PySem.W.Fast.tw14364793385576792824 PX w 28 (some (.ref 6)) 1 1 (ha w.params os) (blockOf BD EV CE p0 [topFrame p0])) = fun os => some (.next, (Sb w.params os).abs, CE, p0) := by kernel_rfl
theorem fin_ (w : World) : (fun os => (PySem.W.Fast.tw14082659384304107361 : (String → Option Builtin) → Program → World → Nat → Option Value → Nat → Shared → Thread → Option Shared) PySem.W.Fast.tw14364793385576792824 PX w 28 (some (.ref 6)) 2 (S5 w.params os).abs ⟨doneF .next, CE, p5, [topFrame p0]⟩) = fun os => some (h1 w.params os) := by kernel_rfl
end MineHd
end

section
open PySem PySem.W PyProof.Rows
set_option maxRecDepth 100000
set_option maxHeartbeats 0
namespace MineHd
theorem segRun1_twin : segRun = PySem.W.Fast.tw14374325043358763698 := PySem.W.Fast.te14374325043358763698
theorem topGo_twin : topGo = PySem.W.Fast.tw15667345088766844465 := PySem.W.Fast.te15667345088766844465
theorem topRun_twin : topRun = PySem.W.Fast.tw14082659384304107361 := PySem.W.Fast.te14082659384304107361
theorem denote_twin : denote = PySem.W.Fast.tw11892475500146522536 := PySem.W.Fast.te11892475500146522536
theorem body_cut (l : List Stmt) : l = l.take 20 ++ ((l.drop 20).take 1 ++ ((l.drop 21).take 8 ++ ((l.drop 29).take 2 ++ (l.drop 31 ++ [])))) := by
  have e1 : l.drop 21 = (l.drop 20).drop 1 := by rw [List.drop_drop]
  have e2 : l.drop 29 = (l.drop 21).drop 8 := by rw [List.drop_drop]
  have e3 : l.drop 31 = (l.drop 29).drop 2 := by rw [List.drop_drop]
  rw [List.append_nil, e3, List.take_append_drop, e2, List.take_append_drop, e1, List.take_append_drop, List.take_append_drop]
theorem fin1 (w : World) (os : OsState) : topRun treeTable PX w 28 (some (.ref 6)) 2 (S5 w.params os).abs ⟨doneF .next, CE, p5, [topFrame p0]⟩ = some (h1 w.params os) := by
  have := congrFun (fin_ w) os
  rw [← topRun_twin, ← tree_twin] at this
  exact this
theorem block1 (w : World) (os : OsState) : segRun treeTable PX w 28 (some (.ref 6)) 1 1 (ha w.params os) (blockOf BD EV CE p0 [topFrame p0]) = some (.next, (Sb w.params os).abs, CE, p0) := by
  have := congrFun (block_ w) os
  rw [← segRun1_twin, ← tree_twin] at this
  exact this
theorem pre1 (w : World) (os : OsState) : topGo treeTable PX w 28 (some (.ref 6)) 12 (h0 w.params os) (topStub PX) = some (ha w.params os, ⟨denote treeTable CE, CE, p0, [topFrame p0]⟩) := by
  have := congrFun (pre_ w) os
  rw [← topGo_twin, ← denote_twin, ← tree_twin] at this
  exact this
theorem run_ (w : World) (os : OsState) : topRun treeTable PX w 28 (some (.ref 6)) (12 + (1 + (955 + (9552 + (140 + ((89 + (1485 + (1485 + 60))) + ((55 + (1395 + (1440 + (1395 + (138 + (7 + 510)))))) + 2))))))) (h0 w.params os) (topStub PX) = some (h1 w.params os) := by
  refine go_top (pre1 w os) ?_
  refine piece_block (block1 w os) ?_
  have e : restOf BD EV CE p0 [topFrame p0] = restOf (BD.take 20 ++ ((BD.drop 20).take 1 ++ ((BD.drop 21).take 8 ++ ((BD.drop 29).take 2 ++ (BD.drop 31 ++ []))))) EV CE p0 [topFrame p0] := congrArg (fun l => restOf l EV CE p0 [topFrame p0]) (body_cut BD)
  rw [e]
  refine piece_app (segRun_of (g1 w os)) ?_
  refine piece_app (g2 w os) ?_
  refine piece_app (g3a w os) ?_
  refine piece_app (g3b w os) ?_
  refine piece_app (g3c w os) ?_
  exact piece_nil (fin1 w os)
end MineHd
end

section
open PySem PySem.W PyProof.Rows
set_option maxRecDepth 100000
set_option maxHeartbeats 0
namespace MineHd
noncomputable abbrev LK : List Str := [Str.ofString "_twin_re_1", Str.ofString "_QUOPRI_MAP", Str.ofString "_QUOPRI_HEADER_MAP", Str.ofString "_QUOPRI_BODY_MAP", Str.ofString "ascii_letters", Str.ofString "hexdigits", Str.ofString "header_encode", Str.ofString "_QUOPRI_BODY_ENCODE_MAP", Str.ofString "body_encode", Str.ofString "decode"]
noncomputable abbrev LV : List (Str × WData) := [(Str.ofString "ascii_letters", WData.str ⟨#[97, 98, 99, 100, 101, 102, 103, 104, 105, 106, 107, 108, 109, 110, 111, 112, 113, 114, 115, 116, 117, 118, 119, 120, 121, 122, 65, 66, 67, 68, 69, 70, 71, 72, 73, 74, 75, 76, 77, 78, 79, 80, 81, 82, 83, 84, 85, 86, 87, 88, 89, 90]⟩), (Str.ofString "hexdigits", WData.str ⟨#[48, 49, 50, 51, 52, 53, 54, 55, 56, 57, 97, 98, 99, 100, 101, 102, 65, 66, 67, 68, 69, 70]⟩)]
noncomputable abbrev AS : List Addr := 2 :: 3 :: 32 :: 34 :: 35 :: 37 :: 38 :: 39 :: 41 :: 42 :: 44 :: 45 :: 46 :: 53 :: 55 :: 56 :: 58 :: 59 :: 60 :: 61 :: 62 :: 65 :: 72 :: 74 :: 75 :: 77 :: 78 :: 79 :: 81 :: 82 ::   84 :: 85 :: 86 :: 88 :: 89 :: 91 :: 92 :: 93 :: 94 :: 95 :: 98 :: 100 :: 101 :: 103 :: 104 :: 105 :: 107 :: 108 :: 110 :: 111 :: 112 :: 114 :: 115 :: 117 :: 118 :: 119 ::   121 :: 122 :: 124 :: 125 :: 126 :: 128 :: 129 :: 131 :: 132 :: 133 :: 135 :: 136 :: 138 :: 139 :: 140 :: 142 :: 143 :: 145 :: 146 :: 150 :: 151 :: 154 :: 159 ::   168 :: 170 :: 171 :: 173 :: 174 :: 175 :: 177 :: 178 :: 180 :: 181 :: 182 :: 183 :: 185 :: 186 :: 188 :: 189 :: 191 :: 195 :: 196 :: 198 :: 199 :: 201 :: 202 ::   203 :: 204 :: 206 :: 207 :: 209 :: 210 :: 211 :: 213 :: 214 :: 216 :: 217 :: 218 :: 220 :: 221 :: 223 :: 224 :: 225 :: 227 :: 228 :: 230 :: 231 :: 232 :: 235 ::   236 :: 237 :: 240 :: 241 :: 242 :: 245 :: 246 :: 247 :: 249 :: 250 :: 252 :: 253 :: 254 :: 256 :: 257 :: 259 :: 260 :: 261 :: 264 :: 265 :: []
noncomputable abbrev HO : Hook := kHook K AS (fun _ => by kernel_rfl)
noncomputable abbrev XT : Shared → Bool := fun s => xlAt VV LV s && recOk (RowW.records (OpenRow.toRowW Challenge.rw_pd0176_01.row)) s
theorem looks1 (w : World) : (fun os => (staticsOk (importedModules PX.main.body) (H0 w.params) (H1 w.params) && namesBound PX (H1 w.params) && gensDone (h1 w.params os) && laidKept (H0 w.params) (H1 w.params))) = fun _ => true := by kernel_rfl
theorem looks3 (w : World) : (fun os => HO.obs (h1 w.params os)) = fun _ => HO.val w := by kernel_rfl
end MineHd
end

section
open PySem PySem.W PyProof.Rows
set_option maxRecDepth 100000
set_option maxHeartbeats 0
namespace MineHd
theorem looks2_ (w : World) : (fun os => PySem.W.Fast.tw4187177175401517315 VV LK (importedModules PX.main.body) XT true (h1 w.params os)) = fun _ => openGood VV LK := by kernel_rfl
end MineHd
end

section
open PySem PySem.W PyProof.Rows PySem.Calls
set_option maxRecDepth 100000
set_option maxHeartbeats 0
namespace MineHd
theorem seen_twin : @openSeen = PySem.W.Fast.tw4187177175401517315 := PySem.W.Fast.te4187177175401517315
theorem looks2 (w : World) (os : OsState) : openSeen VV LK (importedModules PX.main.body) XT true (h1 w.params os) = openGood VV LK := by
  have := congrFun (looks2_ w) os
  rw [← seen_twin] at this
  exact this
theorem left : LeftO PX VV LK XT HO.obs HO.val 37378 true :=
  LeftO.of_pieces (H₀ := H0) (H₁ := H1) (gs₀ := Array.mk []) (gs₁ := Array.mk []) (d₀ := {}) (d₁ := {}) (k₀ := 276) (k₁ := 2159) (m₀ := 28) (ann := some (.ref 6)) open_ size_ run_ (by decide +kernel)
    (fun w => funext fun os => looks_pair (congrFun (looks1 w) os) (looks_pair (looks2 w os) (congrFun (looks3 w) os)))
theorem headT (said : Challenge.rw_pd0176_01.row.wellSaid = true) (c : True) : True := trivial
end MineHd
end

section
open PySem PySem.W PyProof.Rows
set_option maxRecDepth 100000
set_option maxHeartbeats 0
namespace MineHd
theorem said_ : (PySem.W.Fast.tw12908688711261696721 : Program → Bool) Challenge.rw_pd0176_01.row.prog = true := by kernel_rfl
theorem said1 : looksOpen Challenge.rw_pd0176_01.row.prog = true := by
  rw [show looksOpen = PySem.W.Fast.tw12908688711261696721 from PySem.W.Fast.te12908688711261696721]; exact said_
theorem said : OpenLaw.wellSaid Challenge.rw_pd0176_01 = true := by
  unfold OpenLaw.wellSaid OpenRow.wellSaid OpenRow.partSaid
  rw [said1]
  decide +kernel
end MineHd
end

section
open PySem PySem.W PyProof.Rows PySem.Calls
set_option maxRecDepth 100000
set_option maxHeartbeats 0
namespace Mine
noncomputable abbrev PR : Program := Challenge.rw_pd0176_01.row.prog
noncomputable abbrev VW : Program := MineHd.VV
noncomputable abbrev LS : List Str := looseW VW
    [Str.ofString "_twin_re_1", Str.ofString "_QUOPRI_MAP", Str.ofString "_QUOPRI_HEADER_MAP",
      Str.ofString "_QUOPRI_BODY_MAP", Str.ofString "ascii_letters", Str.ofString "hexdigits",
      Str.ofString "header_encode", Str.ofString "_QUOPRI_BODY_ENCODE_MAP", Str.ofString "body_encode",
      Str.ofString "decode"]

/-- the surroundings of a contract: nothing handled, n frames at most -/
noncomputable abbrev Ar (n : Nat) : Around := { handled := none, depth := n, frames := none, guards := some [], units := 10 * n }

theorem codeAny_weak {M : Model} {A A' : Around} {c : Code} {R : Result → Shared → Prop} {s : Shared} (h : codeAny M A' c R s)
    (h1 : A.handled = A'.handled) (h2 : A.depth ≤ A'.depth) (h3 : A'.frames = none) (h4 : A.guards = A'.guards) (h5 : A.units ≤ A'.units) : codeAny M A c R s :=
  fun Γ p hc hΓ => by
    refine h Γ p hc ⟨hΓ.1.trans h1, Nat.le_trans hΓ.2.1 h2, ?_, ?_, Nat.le_trans hΓ.2.2.2.2 h5⟩
    · intro l hl; rw [h3] at hl; cases hl
    · intro g hg; exact hΓ.2.2.2.1 g (h4.trans hg)

noncomputable abbrev Kp (h h' : Heap) : Prop := ∀ b o, h.get? b = some o → h'.get? b = some o

/-- a contract: the call of the def at f with these arguments, from any heap that bears the top and Pre, changes nothing that stood, and hands back a value with Post -/
noncomputable def Fn (w : World) (n : Nat) (f : Addr) (args : List Value) (Pre : Heap → Prop) (Post : Heap → Value → Prop) : Prop :=
  ∀ (s : Shared) (mean : ExcName → Option Value) (mg mb : Str → Option Value) (R : Result → Shared → Prop),
    (MineHd.K w.params).In s.heap → Top VW LS mean mg mb s.heap → Pre s.heap →
    (∀ v h' tk', Kp s.heap h' → Post h' v → R (.ok (.ret v)) { s with heap := h', toks := tk' }) →
    codeAny (model PR w) (Ar n) (.call (.ref f) ⟨args, []⟩) R s

theorem use_fn {w : World} {n : Nat} {f : Addr} {args : List Value} {Pre : Heap → Prop} {Post : Heap → Value → Prop} {A : Around} {E : Value → Shared → Prop} {Q : Value → Shared → Prop} {s : Shared} {h₀ : Heap} {L : Addr} {m mg mb : Str → Option Value}
    {mean : ExcName → Option Value} {news : List (Addr × Obj)} (C : Fn w n f args Pre Post) (F : Fr h₀ L s.heap m) (N : News h₀ L s.heap news) (X : (MineHd.K w.params).In h₀) (T : Top VW LS mean mg mb h₀)
    (h1 : A.handled = none) (h2 : A.depth ≤ n) (h4 : A.guards = some []) (h5 : A.units ≤ 10 * n) (pre : Pre s.heap)
    (h : ∀ v h' tk', Fr h₀ L h' m → News h₀ L h' news → Kp s.heap h' → Post h' v → Q v { s with heap := h', toks := tk' }) : wpAny (model PR w) A (call (.ref f) args) Q E s :=
  wpAny_call (codeAny_weak (C s mean mg mb _ (X.keeps F.keep) (T.keeps F.keep) pre fun v h' tk' hk hp => h v h' tk' (F.grownK hk) (N.keeps hk) hk hp) h1 h2 rfl h4 h5)

theorem enter_fn {w : World} {n : Nat} {f : Addr} {args : List Value} {Pre : Heap → Prop} {Post : Heap → Value → Prop}
    {name qual : Str} {params : Arguments} {body : List Stmt} {scope : Scope} {dV kV doc pm cdv ct oc : Value} {an od : Option Addr} {osl : Array (Option Value)} (binds : List (Str × Value))
    (ho : (MineHd.K w.params).lookup f = some ⟨oc, od, .func (fnOf name qual params body scope dV kV doc pm an cdv ct), osl⟩) (hcd : codeIn (MineHd.K w.params) cdv qual = true) (hroom : n < recursionLimit)
    (hbind : ∀ s : Shared, (MineHd.K w.params).In s.heap → BindsTo s (fnOf name qual params body scope dV kV doc pm an cdv ct) ⟨args, []⟩ binds) (hloc : ∀ y ∈ binds, scope.names.lookup y.1 = some .local)
    (hco : scope.isCoroutine = false) (hgen : scope.isGenerator = false) (hk : scope.kind = .function)
    (hcell : ∀ x ∈ scope.names, x.2 ≠ .cell)
    (h : ∀ (s : Shared) (h₁ : Heap) (L : Addr) (tk : Nat) (mean : ExcName → Option Value) (mg mb : Str → Option Value) (Q : Flow → Shared → Prop), (MineHd.K w.params).In s.heap → Top VW LS mean mg mb s.heap → Pre s.heap → Fr s.heap L h₁ (fun y => binds.reverse.lookup y) → News s.heap L h₁ [] →
      (∀ v h' tk' m' news', Fr s.heap L h' m' → News s.heap L h' news' → Post h' v → Q (.ret v) { s with heap := h', toks := tk' }) →
      wpAny (model PR w) ((Ar n).deeper (envOf qual scope L f cdv)) (execs body (envOf qual scope L f cdv)) Q (fun _ _ => False) { s with heap := h₁, toks := tk }) : Fn w n f args Pre Post := by
  intro s mean mg mb R X T pre hR
  refine codeAny_call_def (fd := fnOf name qual params body scope dV kV doc pm an cdv ct) (body := body) (binds := binds) hroom (X _ _ ho) rfl T.nolimit (codeRec_of X hcd) rfl (hbind s X) hcell hloc (fun h₁ hns hk₁ => ?_) hco hgen hk
  refine wpAny_mono (h s h₁ s.heap.objs.size _ mean mg mb (fun fl s' => R (.ok (.ret (match fl with | .ret v => v | _ => .none))) s') X T pre ⟨hns, hk₁, Nat.le_refl _⟩ News.nil ?_) (fun _ _ x => x) (fun _ _ x => x.elim)
  intro v h' tk' m' news' F' _ hp
  exact hR v h' tk' F'.keep hp

theorem kfill : Challenge.rw_pd0176_01.name = Challenge.rw_pd0176_01.name ∨ ∀ P, MineHd.K P = MineHd.K P := by
  k_fill
  exact .inl rfl
end Mine
end

section
open PySem PySem.W PyProof.Rows PySem.Calls
local macro_rules | `(tactic| walk_at "mine use") => `(tactic| ((case F => k_asm); (case N => k_asm); (case X => k_asm); (case T => k_asm); (case d => exact Nat.le_of_ble_eq_true rfl); (case u => exact Nat.le_of_ble_eq_true rfl)))
section
open PySem PySem.W PyProof.Rows PySem.Calls PySem.Builtin PySem.Builtin.Re
set_option maxRecDepth 100000
set_option maxHeartbeats 0
namespace Mine
noncomputable def patO : Obj := { cls := .type "re.Pattern", data := .fields #[.str (Str.ofString "=[a-fA-F0-9]{2}") 446, .int 256 478, .int 0 0, .none, .none, .ref 150, .int 0 0] }
noncomputable def codO : Obj := { cls := .type "tuple", data := .seq #[.int 14 0, .int 8 0, .int 1 0, .int 3 0, .int 3 0, .int 1 0, .int 1 0, .int 61 0, .int 0 0, .int 16 0, .int 61 0, .int 24 0, .int 16 0, .int 2 0, .int 2 0, .int 13 0, .int 11 0, .int 9 0, .int 0 0, .int 67043328 0, .int 126 0, .int 126 0, .int 0 0, .int 0 0, .int 0 0, .int 0 0, .int 0 0, .int 1 0, .int 1 0] }
/-- a match of the signs at p -/
noncomputable def matO (y : Str) (t : Tok) (b : Addr) : Obj := { cls := .type "re.Match", data := .fields #[.str y t, .ref 151, rawInt 0, rawInt (y.cps.size : Nat), rawInt (-1), .ref b] }
noncomputable def spanO (p : Nat) : Obj := { cls := .type "tuple", data := .seq #[rawInt p, rawInt (p + 3 : Nat)] }
theorem ext_len (y : Str) (a b : Nat) : (⟨y.cps.extract a b⟩ : Str).length ≤ y.length := by
  simp only [Str.length, Array.size_extract]; omega
section
variable {prog : Program} {w : World} {A : Around} {E : Value → Shared → Prop} {s : Shared}
theorem group_run {y : Str} {t u : Tok} {a b : Addr} {p : Nat} {P : Fin → Shared → Prop} (ha : s.heap.get? a = some (matO y t b)) (hb : s.heap.get? b = some (spanO p)) (hsz : y.length ≤ 1000000)
    (h : P (.done (.ret (.str ⟨y.cps.extract p (p + 3)⟩ s.toks))) { s with toks := s.toks + 1 }) :
    wpAny (model prog w) A (Builtin.«re.Match.group» ⟨[.ref a, .int 0 u], []⟩) P E s := by
  obtain ⟨hp, g, d, tk, os⟩ := s
  have hT2 : (⟨hp, g, d, tk, os⟩ : Shared).TypeIs (.ref a) "re.Match" := ⟨_, ha, rfl⟩
  unfold Builtin.«re.Match.group»
  repeat (any_goals (first | assumption | wp_step))
  have hsp : Array.map reRawOf ((some #[rawInt p, rawInt (p + 3 : Nat)]).getD #[]) = #[(p : Int), ((p + 3 : Nat) : Int)] := by simp [reRawOf, rawInt]
  rw [hsp]
  have hif : ¬ ((decide ((p : Int) < 0) || decide (((p + 3 : Nat) : Int) < 0)) = true) := by simp; omega
  refine wpAny_ite_false (decide_eq_false hif) ?_
  show wpAny _ _ (reTextOf (Value.str y t) >>= fun x => reSlice x.1 x.2 p (p + 3)) _ _ _
  repeat (any_goals (first | assumption | wp_step))
  have hl := ext_len y p (p + 3)
  refine wpAny_ite_false (decide_eq_false (by rw [sizeLine_eq]; show ¬ (⟨y.cps.extract p (p + 3)⟩ : Str).length > _; omega)) ?_
  repeat (any_goals (first | assumption | wp_step))
theorem group_call {y : Str} {t u : Tok} {a b : Addr} {p : Nat} {Q : Value → Shared → Prop} (ha : s.heap.get? a = some (matO y t b)) (hb : s.heap.get? b = some (spanO p)) (hsz : y.length ≤ 1000000)
    (h : ∀ t' k, Q (.str ⟨y.cps.extract p (p + 3)⟩ t') { s with toks := k }) :
    wpAny (model prog w) A (call (.builtin "re.Match.group") [.ref a, .int 0 u]) Q E s :=
  wpAny_call_entry slot_group ⟨_, ha, rfl⟩ entry_group (group_run ha hb hsz ⟨_, rfl, h _ _⟩) (args_group _ _)
theorem group_method {M : Model} {y : Str} {t : Tok} {a b : Addr} {pl : Sem Bool} {Q : Value × List Value → Shared → Prop} (ha : s.heap.get? a = some (matO y t b)) (h : Q (.builtin "re.Match.group", [.ref a]) s) : wpAny M A (getMethod (.ref a) "group" pl) Q E s :=
  getMethod_builtin ⟨_, ha, rfl⟩ pa_mat slot_group type_group (fun a' e => by injection e with e; subst e; exact ⟨_, ha, rfl⟩) h
theorem sub_method {M : Model} {a : Addr} {pl : Sem Bool} {Q : Value × List Value → Shared → Prop} (ha : s.heap.get? a = some patO) (h : Q (.builtin "re.Pattern.sub", [.ref a]) s) : wpAny M A (getMethod (.ref a) "sub" pl) Q E s :=
  getMethod_builtin ⟨_, ha, rfl⟩ pa_pat slot_sub type_sub (fun a' e => by injection e with e; subst e; exact ⟨_, ha, rfl⟩) h
theorem wp_drive {M : Model} {Q : Sre.M → Shared → Prop} : ∀ (j turns : Nat) (m : Sre.M), j < turns → (iter (4 * (j + 1)) m).outcome.isSome = true → Q (iter (4 * (j + 1)) m) s → wpAny M A (reDrive turns m) Q E s
  | _, 0, _, h, _, _ => absurd h (Nat.not_lt_zero _)
  | j, turns + 1, m, hj, ho, hq => by
    unfold reDrive
    show wpAny M A (if (m.runFor 4).outcome.isSome = true then pure (m.runFor 4) else (rule "sre.turn" >>= fun _ => reDrive turns (m.runFor 4))) Q E s
    rw [runFor_iter]
    have e : iter (4 * (j + 1)) m = iter (4 * j) (iter 4 m) := by rw [show 4 * (j + 1) = 4 + 4 * j by omega, iter_add]
    split
    · rename_i h4
      refine wpAny_pure ?_
      rw [e, iter_over _ h4] at hq
      exact hq
    · rename_i h4
      refine wpAny_bind (wpAny_rule ?_)
      cases j with
      | zero => exact absurd ho h4
      | succ j => exact wp_drive j turns (iter 4 m) (by omega) (by rw [← e]; exact ho) (by rw [← e]; exact hq)
theorem wp_end {M : Model} {m : Sre.M} {k : Nat} {Q : Option Sre.M → Shared → Prop} (hk : k ≤ 100000) (ho : (iter k m).outcome.isSome = true) (hf : (iter k m).outcome = some .failed → Q none s) (hm : (iter k m).outcome = some .matched → Q (some (iter k m)) s)
    (hs : ∀ why, (iter k m).outcome ≠ some (.stuck why)) : wpAny M A (reRunToEnd m) Q E s := by
  have e : iter (4 * (k + 1)) m = iter k m := by rw [show 4 * (k + 1) = k + (3 * k + 4) by omega, iter_add, iter_over _ ho]
  unfold reRunToEnd
  refine wpAny_bind (wp_drive k (2 ^ 64) m (Nat.lt_of_le_of_lt hk (by decide)) (by rw [e]; exact ho) ?_)
  rw [e]
  refine wpAny_bind (wpAny_forIn_list _ (fun _ _ s' => s' = s) _ ?_ ?_ _ _ rfl)
  · intro c rest b s' hs'
    subst hs'
    (try dsimp only)
    split
    · repeat (any_goals (first | assumption | rfl | wp_step))
    · repeat (any_goals (first | assumption | rfl | wp_step))
  · intro b s' hs'
    subst hs'
    (try dsimp only)
    split
    · rename_i h; exact wpAny_pure (hm h)
    · rename_i h; exact wpAny_pure (hf h)
    · rename_i why h; exact absurd h (hs why)
    · rename_i h; rw [h] at ho; cases ho
theorem next_one {y : Str} {t : Tok} {p n : Nat} {Q : Option Sre.M → Shared → Prop} (hy : y.length ≤ 10000) (hp : p + n + 3 ≤ y.cps.size) (hn : ∀ i, p ≤ i → i < p + n → y.cps.getD i 0 ≠ 61) (h0 : y.cps.getD (p + n) 0 = 61)
    (h1 : ∀ seen, ∃ seen', Sre.accepts codeR 15 (y.cps.getD (p + n + 1) 0) seen = .ok (true, seen')) (h2 : ∀ seen, ∃ seen', Sre.accepts codeR 15 (y.cps.getD (p + n + 1 + 1) 0) seen = .ok (true, seen'))
    (hq : ∀ m, Found m (p + n) → Q (some m) s) : wpAny (model prog w) A (reNextFound ⟨.ref 151, .str y t, codeR, y.cps, 0, 0, 0, y.cps.size⟩ p false) Q E s := by
  obtain ⟨k, hk, hf⟩ := search_one hp hn h0 h1 h2
  have hyl : y.cps.size = y.length := rfl
  refine wp_end (k := k) (by omega) (by show (iter k (Sre.forSearch codeR y.cps 0 p y.cps.size false)).outcome.isSome = true; rw [hf.out]; rfl) (fun h => ?_) (fun _ => hq _ hf) (fun why h => ?_)
  · exact absurd (hf.out.symm.trans h) (by intro q; cases q)
  · exact absurd (hf.out.symm.trans h) (by intro q; cases q)
theorem next_none {y : Str} {t : Tok} {p : Nat} {Q : Option Sre.M → Shared → Prop} (hy : y.length ≤ 10000) (hp : p ≤ y.cps.size) (hn : ∀ i, p ≤ i → i < y.cps.size → y.cps.getD i 0 ≠ 61)
    (hq : Q none s) : wpAny (model prog w) A (reNextFound ⟨.ref 151, .str y t, codeR, y.cps, 0, 0, 0, y.cps.size⟩ p false) Q E s := by
  obtain ⟨k, hk, hf⟩ := search_none hp hn
  have hyl : y.cps.size = y.length := rfl
  refine wp_end (k := k) (by omega) (by show (iter k (Sre.forSearch codeR y.cps 0 p y.cps.size false)).outcome.isSome = true; rw [hf]; rfl) (fun _ => hq) (fun h => ?_) (fun why h => ?_)
  · exact absurd (hf.symm.trans h) (by intro q; cases q)
  · exact absurd (hf.symm.trans h) (by intro q; cases q)
end
end Mine
end

section
open PySem PySem.W PyProof.Rows PySem.Calls
set_option maxRecDepth 100000
set_option maxHeartbeats 0
namespace Mine
theorem kfill1 : Challenge.rw_pd0176_01.name = Challenge.rw_pd0176_01.name ∨ ∀ P, MineHd.K P = MineHd.K P := by
  k_fill
  exact .inl rfl
local macro_rules | `(tactic| walk_at "call builtin:issubclass") => `(tactic| (refine issub_tuple (News.get (by k_asm) (by k_mem)) ?_))
theorem fspath_spec (w : World) (x : Str) (t : Tok) : Fn w 900 111 [.str x t] (fun _ => True) (fun _ v => v = .str x t) := by
  w_on
  refine' enter_fn [(Str.ofString "path", .str x t)] ?k6 ?k7 ?k8 ?k9 ?kB ?c2 ?c3 ?c4 ?c5 ?_
  (((case k6 => k_is); (case k7 => k_is); (case k8 => decide); (case k9 => intro _ _; exact BindsTo.of_eq rfl); (case c5 => decide); (case kB => exact locs rfl); (case c2 => exact rfl); (case c3 => exact rfl); (case c4 => exact rfl)))
  intro s h₁ L tk mean mg mb Q X T _ F N hR
  k_steps
  exact hR _ _ _ _ _ (by k_asm) (by k_asm) rfl
local macro_rules | `(tactic| walk_at "call ref") => `(tactic| ((with_reducible show wpAny _ _ (call (Value.ref 111) [Value.str _ _]) _ _ _); refine' use_fn (fspath_spec _ _ _) ?F ?N ?X ?T rfl ?d rfl ?u True.intro ?_; (case F => k_asm); (case N => k_asm); (case X => k_asm); (case T => k_asm); (case d => exact Nat.le_of_ble_eq_true rfl); (case u => exact Nat.le_of_ble_eq_true rfl); intro v' h' tk' F' N' hk' hv'; subst hv'; (try k_sweep)))
theorem get_sep_spec (w : World) (x : Str) (t : Tok) : Fn w 900 125 [.str x t] (fun _ => True) (fun _ v => ∃ t', v = .str (Str.ofString "/") t') := by
  w_on
  refine' enter_fn [(Str.ofString "path", .str x t)] ?k6 ?k7 ?k8 ?k9 ?kB ?c2 ?c3 ?c4 ?c5 ?_
  (((case k6 => k_is); (case k7 => k_is); (case k8 => decide); (case k9 => intro _ _; exact BindsTo.of_eq rfl); (case c5 => decide); (case kB => exact locs rfl); (case c2 => exact rfl); (case c3 => exact rfl); (case c4 => exact rfl)))
  intro s h₁ L tk mean mg mb Q X T _ F N hR
  k_steps
  exact hR _ _ _ _ _ (by k_asm) (by k_asm) ⟨_, rfl⟩
noncomputable def Tup3S (h : Heap) (v : Value) (x1 x2 x3 : Str) : Prop := ∃ a t1 t2 t3, v = .ref a ∧ h.get? a = some { cls := .type "tuple", data := .seq #[.str x1 t1, .str x2 t2, .str x3 t3] }
theorem Tup3S.of {h₀ h : Heap} {L a : Addr} {news : List (Addr × Obj)} {x1 x2 x3 y1 y2 y3 : Str} {t1 t2 t3 : Tok} (N : News h₀ L h news) (hm : (a, ({ cls := .type "tuple", data := .seq #[.str y1 t1, .str y2 t2, .str y3 t3] } : Obj)) ∈ news)
    (e1 : y1 = x1) (e2 : y2 = x2) (e3 : y3 = x3) : Tup3S h (.ref a) x1 x2 x3 := ⟨a, t1, t2, t3, rfl, by rw [← e1, ← e2, ← e3]; exact N.get hm⟩
theorem splitroot_spec (w : World) (x : Str) (t : Tok) (hx : x.length ≤ 1000) : Fn w 800 139 [.str x t] (fun _ => True)
    (fun h v => Tup3S h v (Str.ofString "") (splitrootF x).1 (splitrootF x).2) := by
  w_on
  refine' enter_fn [(Str.ofString "p", .str x t)] ?k6 ?k7 ?k8 ?k9 ?kB ?c2 ?c3 ?c4 ?c5 ?_
  (((case k6 => k_is); (case k7 => k_is); (case k8 => decide); (case k9 => intro _ _; exact BindsTo.of_eq rfl); (case c5 => decide); (case kB => exact locs rfl); (case c2 => exact rfl); (case c3 => exact rfl); (case c4 => exact rfl)))
  intro s h₁ L tk mean mg mb Q X T _ F N hR
  k_steps
  all_goals (refine hR _ _ _ _ _ (by k_asm) (by k_asm) (Tup3S.of (by k_asm) (by k_mem) rfl ?_ ?_))
  all_goals (simp only [splitrootF, *, if_true, if_false, Bool.false_eq_true])
theorem use_splitroot {w : World} {A : Around} {E : Value → Shared → Prop} {Q : Value → Shared → Prop} {s : Shared} {h₀ : Heap} {L : Addr} {m mg mb : Str → Option Value}
    {mean : ExcName → Option Value} {news : List (Addr × Obj)} {x : Str} {t : Tok} (hx : x.length ≤ 1000) (F : Fr h₀ L s.heap m) (N : News h₀ L s.heap news) (X : (MineHd.K w.params).In h₀) (T : Top VW LS mean mg mb h₀)
    (h1 : A.handled = none) (h2 : A.depth ≤ 800) (h4 : A.guards = some []) (h5 : A.units ≤ 10 * 800)
    (h : ∀ a t1 t2 t3 h' tk', Fr h₀ L h' m → News h₀ L h' news → IsTup h' a #[.str (Str.ofString "") t1, .str (splitrootF x).1 t2, .str (splitrootF x).2 t3] → (splitrootF x).2.length ≤ x.length → (splitrootF x).1.length ≤ 2 → Q (.ref a) { s with heap := h', toks := tk' }) :
    wpAny (model PR w) A (call (.ref 139) [.str x t]) Q E s :=
  use_fn (splitroot_spec w x t hx) F N X T h1 h2 h4 h5 trivial fun v h' tk' F' N' _ hv => by
    obtain ⟨a, t1, t2, t3, rfl, hg⟩ := hv
    exact h a t1 t2 t3 h' tk' F' N' ⟨_, hg, rfl, _, rfl⟩ (splitrootF_len x).1 (splitrootF_len x).2
end Mine
end

section
open PySem PySem.W PyProof.Rows PySem.Calls
set_option maxRecDepth 100000
set_option maxHeartbeats 0
namespace Mine
theorem kfill2 : Challenge.rw_pd0176_01.name = Challenge.rw_pd0176_01.name ∨ ∀ P, MineHd.K P = MineHd.K P := by
  k_fill
  exact .inl rfl
local macro_rules | `(tactic| walk_at "call ref") => `(tactic| ((with_reducible show wpAny _ _ (call (Value.ref 111) [Value.str _ _]) _ _ _); refine' use_fn (fspath_spec _ _ _) ?F ?N ?X ?T rfl ?d rfl ?u True.intro ?_; walk_at "mine use"; intro v' h' tk' F' N' hk' hv'; subst hv'; (try k_sweep)))
local macro_rules | `(tactic| walk_at "call ref") => `(tactic| ((with_reducible show wpAny _ _ (call (Value.ref 139) [Value.str _ _]) _ _ _); refine' use_splitroot ?len ?F ?N ?X ?T rfl ?d rfl ?u ?_; (case len => size_fits); walk_at "mine use"; intro a' t1' t2' t3' h' tk' F' N' hT' hl1' hl2'; (try k_sweep)))
local macro_rules | `(tactic| walk_at "call builtin:list.append") => `(tactic| (refine append1 (by k_asm) (by k_asm) (by with_reducible assumption) (by first | omega | (simp only [List.length_append, List.length_cons, List.length_nil]; omega)) ?_; intro h' F' N'; (try k_sweep)))
local macro_rules | `(tactic| walk_at "call builtin:list.pop") => `(tactic| (refine pop1 (by k_asm) (by k_asm) (by with_reducible assumption) (by omega) ?_; intro h' F' N'; (try k_sweep)))
local macro_rules | `(tactic| walk_at "subscriptTail Name UnaryOp ref int") => `(tactic| (refine last1 (News.isList (by k_asm) (List.Mem.head _)) (by omega) ?_))
local macro_rules | `(tactic| walk_at "truthy ref") => `(tactic| (refine truthy1 (News.isList (by k_asm) (List.Mem.head _)) (by omega) ?_))
local macro_rules | `(tactic| walk_at "call builtin:str.join") => `(tactic| (refine join_listW (News.isList (by k_asm) (List.Mem.head _)) (by assumption) (by decide) (by assumption) ?_; intro t' k'))
theorem strsAre_snoc {vs : List Value} {ys : List Str} {y : Str} {t : Tok} (h : StrsAre vs ys) : StrsAre (vs ++ [.str y t]) (ys ++ [y]) := by
  induction h with
  | nil => exact .cons _ _ .nil
  | cons z u _ ih => exact .cons z u ih
theorem strsAre_last {vs : List Value} {ys : List Str} {y : Str} : StrsAre vs (ys ++ [y]) → ∃ us t, vs = us ++ [.str y t] ∧ StrsAre us ys := by
  induction ys generalizing vs with
  | nil =>
    intro h
    cases h with
    | cons _ t h' => cases h'; exact ⟨[], t, rfl, .nil⟩
  | cons z zs ih =>
    intro h
    cases h with
    | cons _ t h' =>
      obtain ⟨us, t', rfl, h2⟩ := ih h'
      exact ⟨.str z t :: us, t', rfl, .cons z t h2⟩
section
variable {r : Bool} {acc : List Str} {y last : Str} {us ts : List Value} {t tl : Tok}
theorem leaf_dot (h : (y == Str.ofString ".") = true) (hS : StrsAre ts acc) : StrsAre ts (normStep r acc y) := by
  rw [normStep, if_pos (.inr (beq_iff_eq.mp h))]; exact hS
theorem leaf_empty (h : (y.length : Int) = 0) (hS : StrsAre ts acc) : StrsAre ts (normStep r acc y) := by
  rw [normStep, if_pos (.inl (by omega))]; exact hS
theorem leaf_push (h0 : (y.length : Int) ≠ 0) (h1 : (y == Str.ofString ".") = false) (h2 : (y != Str.ofString "..") = true) (hS : StrsAre ts acc) : StrsAre (ts ++ [.str y t]) (normStep r acc y) := by
  have n1 : ¬ (y.length = 0 ∨ y = Str.ofString ".") := fun h => h.elim (fun h => h0 (by omega)) fun h => by rw [h] at h1; simp at h1
  rw [normStep, if_neg n1, if_pos (.inl (by simpa using h2))]; exact strsAre_snoc hS
theorem leaf_push0 (h0 : (y.length : Int) ≠ 0) (h1 : (y == Str.ofString ".") = false) (hr : r = false) : StrsAre ([] ++ [.str y t]) (normStep r [] y) := by
  have n1 : ¬ (y.length = 0 ∨ y = Str.ofString ".") := fun h => h.elim (fun h => h0 (by omega)) fun h => by rw [h] at h1; simp at h1
  rw [normStep, if_neg n1, if_pos (.inr (.inl ⟨hr, rfl⟩))]; exact .cons _ _ .nil
theorem leaf_stay0 (h0 : (y.length : Int) ≠ 0) (h1 : (y == Str.ofString ".") = false) (h2 : (y != Str.ofString "..") = false) (hr : r = true) : StrsAre [] (normStep r [] y) := by
  have n1 : ¬ (y.length = 0 ∨ y = Str.ofString ".") := fun h => h.elim (fun h => h0 (by omega)) fun h => by rw [h] at h1; simp at h1
  have n2 : ¬ (y ≠ Str.ofString ".." ∨ (r = false ∧ ([] : List Str) = []) ∨ ([] : List Str).getLast? = some (Str.ofString "..")) := by
    subst hr
    rintro (h | h | h)
    · exact h (by simpa using h2)
    · cases h.1
    · cases h
  rw [normStep, if_neg n1, if_neg n2]; exact .nil
theorem leaf_pushl (h0 : (y.length : Int) ≠ 0) (h1 : (y == Str.ofString ".") = false) (h3 : (last == Str.ofString "..") = true) (hS : StrsAre us acc) : StrsAre (us ++ [.str last tl] ++ [.str y t]) (normStep r (acc ++ [last]) y) := by
  have n1 : ¬ (y.length = 0 ∨ y = Str.ofString ".") := fun h => h.elim (fun h => h0 (by omega)) fun h => by rw [h] at h1; simp at h1
  rw [normStep, if_neg n1, if_pos (.inr (.inr (by rw [beq_iff_eq.mp h3]; simp)))]; exact strsAre_snoc (strsAre_snoc hS)
theorem leaf_pushp (h0 : (y.length : Int) ≠ 0) (h1 : (y == Str.ofString ".") = false) (h2 : (y != Str.ofString "..") = true) (hS : StrsAre us acc) : StrsAre (us ++ [.str last tl] ++ [.str y t]) (normStep r (acc ++ [last]) y) :=
  leaf_push h0 h1 h2 (strsAre_snoc hS)
theorem leaf_pop (h0 : (y.length : Int) ≠ 0) (h1 : (y == Str.ofString ".") = false) (h2 : (y != Str.ofString "..") = false) (h3 : (last == Str.ofString "..") = false) (hS : StrsAre us acc) : StrsAre us (normStep r (acc ++ [last]) y) := by
  have n1 : ¬ (y.length = 0 ∨ y = Str.ofString ".") := fun h => h.elim (fun h => h0 (by omega)) fun h => by rw [h] at h1; simp at h1
  have n2 : ¬ (y ≠ Str.ofString ".." ∨ (r = false ∧ acc ++ [last] = []) ∨ (acc ++ [last]).getLast? = some (Str.ofString "..")) := by
    rintro (h | h | h)
    · exact h (by simpa using h2)
    · exact absurd h.2 (by simp)
    · simp at h; rw [h] at h3; simp at h3
  rw [normStep, if_neg n1, if_neg n2, List.dropLast_concat]; exact hS
end
theorem normF_empty {x : Str} (h : (x.length : Int) = 0) : Str.ofString "." = normF x := by rw [normF, if_pos (by omega)]
theorem normF_dot {x : Str} {acc : List Str} (h : (x.length : Int) ≠ 0) (ha : (Txt.split (splitrootF x).2 (Str.ofString "/")).foldl (normStep ((splitrootF x).1.length != 0)) [] = acc)
    (h2 : (((splitrootF x).1 ++ Txt.join (Str.ofString "/") acc).length : Int) = 0) : Str.ofString "." = normF x := by
  rw [normF, if_neg (by omega), ha]; dsimp only; rw [if_pos (by omega)]
theorem normF_path {x : Str} {acc : List Str} (h : (x.length : Int) ≠ 0) (ha : (Txt.split (splitrootF x).2 (Str.ofString "/")).foldl (normStep ((splitrootF x).1.length != 0)) [] = acc)
    (h2 : (((splitrootF x).1 ++ Txt.join (Str.ofString "/") acc).length : Int) ≠ 0) : (splitrootF x).1 ++ Txt.join (Str.ofString "/") acc = normF x := by
  rw [normF, if_neg (by omega), ha]; dsimp only; rw [if_neg (by omega)]
theorem str_of {x y : Str} {t : Tok} (e : x = y) : ∃ t', Value.str x t = .str y t' := ⟨t, by rw [e]⟩
theorem norm_bounds (r : Bool) (B : Nat) : ∀ (ys acc : List Str), (∀ y ∈ ys, y.length ≤ B) → (∀ y ∈ acc, y.length ≤ B) → (ys.foldl (normStep r) acc).length ≤ acc.length + ys.length ∧ ∀ y ∈ ys.foldl (normStep r) acc, y.length ≤ B
  | [], acc, _, h => ⟨Nat.le_refl _, h⟩
  | y :: ys, acc, h1, h2 => by
    have key : (normStep r acc y).length ≤ acc.length + 1 ∧ ∀ z ∈ normStep r acc y, z.length ≤ B := by
      unfold normStep
      split
      · exact ⟨Nat.le_succ _, h2⟩
      · split
        · refine ⟨by simp, fun z hz => ?_⟩
          rcases List.mem_append.mp hz with q | q
          · exact h2 z q
          · rw [List.mem_singleton.mp q]; exact h1 y (.head _)
        · refine ⟨by simp; omega, fun z hz => h2 z (List.dropLast_subset _ hz)⟩
    have ih := norm_bounds r B ys (normStep r acc y) (fun z hz => h1 z (.tail _ hz)) key.2
    refine ⟨?_, ih.2⟩
    simp only [List.foldl_cons, List.length_cons]
    omega
theorem normpath_spec (w : World) (x : Str) (t : Tok) (hx : x.length ≤ 1000) : Fn w 700 146 [.str x t] (fun _ => True)
    (fun _ v => ∃ t, v = .str (normF x) t) := by
  w_on
  refine' enter_fn [(Str.ofString "path", .str x t)] ?k6 ?k7 ?k8 ?k9 ?kB ?c2 ?c3 ?c4 ?c5 ?_
  (((case k6 => k_is); (case k7 => k_is); (case k8 => decide); (case k9 => intro _ _; exact BindsTo.of_eq rfl); (case c5 => decide); (case kB => exact locs rfl); (case c2 => exact rfl); (case c3 => exact rfl); (case c4 => exact rfl)))
  intro s h₁ L tk mean mg mb Q X T _ F N hR
  (repeat' (first | (k_unfold; (try dsimp only)) | walk1 | (dsimp only; walk1)))
  · (with_reducible rename Fr _ _ _ _ => F1)
    (with_reducible rename News _ _ _ _ => N1)
    (rename List.map _ _ = Txt.split _ _ => hsp)
    (rename _ < _ => hlt)
    have hl1 := News.isList N1 (List.Mem.tail _ (List.Mem.head _))
    refine iter_strs1 (L := L) (ys := Txt.split (splitrootF x).2 (Str.ofString "/")) (fun i ts => StrsAre ts (((Txt.split (splitrootF x).2 (Str.ofString "/")).take i).foldl (normStep ((splitrootF x).1.length != 0)) [])) rfl rfl hl1 ?_ (N1 _ (List.Mem.tail _ (List.Mem.head _))).2.1 (Nat.ne_of_gt hlt) F1 N1 .nil ?_ ?_
    · rw [← hsp]; exact strsAre_of_values _
    · intro I i y t' ts n own h tk' hy hS hne hpI F2 N2
      have hyl : y.length ≤ 1000 := Nat.le_trans (part_short (List.mem_of_getElem? hy)) (Nat.le_trans (splitrootF_len x).1 hx)
      have htl : ts.length ≤ 1002 := by
        rw [hS.length]
        have b := (norm_bounds ((splitrootF x).1.length != 0) (splitrootF x).2.length ((Txt.split (splitrootF x).2 (Str.ofString "/")).take i) [] (fun y hy => part_short (List.mem_of_mem_take hy)) (fun _ h => nomatch h)).1
        have c := split_count (splitrootF x).2
        have d := (splitrootF_len x).1
        rw [List.length_take] at b
        simp only [List.length_nil] at b
        omega
      clear hl1 F1 N1
      have hst : ((Txt.split (splitrootF x).2 (Str.ofString "/")).take (i + 1)).foldl (normStep ((splitrootF x).1.length != 0)) [] = normStep ((splitrootF x).1.length != 0) (((Txt.split (splitrootF x).2 (Str.ofString "/")).take i).foldl (normStep ((splitrootF x).1.length != 0)) []) y := by
        rw [List.take_add_one, hy]; simp
      rw [hst]
      generalize ((Txt.split (splitrootF x).2 (Str.ofString "/")).take i).foldl (normStep ((splitrootF x).1.length != 0)) [] = acc at hS
      clear hst hy
      have hr : ((splitrootF x).1.length != 0) = !decide ((splitrootF x).1.length = 0) := rfl
      rcases List.eq_nil_or_concat acc with rfl | ⟨acc, last, rfl⟩
      · cases hS
        (repeat' (first | (k_unfold; (try dsimp only)) | walk1 | (dsimp only; walk1)))
        all_goals (refine TE.one (by simp) (by k_asm) (by k_asm) hpI ?_)
        all_goals first
          | exact leaf_dot (by with_reducible assumption) .nil
          | exact leaf_empty (by with_reducible assumption) .nil
          | exact leaf_push (by with_reducible assumption) (by with_reducible assumption) (by with_reducible assumption) .nil
          | exact leaf_push0 (by with_reducible assumption) (by with_reducible assumption) (by rw [hr]; simp only [Bool.not_eq_false', decide_eq_true_eq]; omega)
          | exact leaf_stay0 (by with_reducible assumption) (by with_reducible assumption) (by with_reducible assumption) (by rw [hr]; simp only [Bool.not_eq_true', decide_eq_false_iff_not]; omega)
      · rw [List.concat_eq_append] at hS ⊢
        obtain ⟨us, tl, rfl, hS2⟩ := strsAre_last hS
        clear hS
        simp only [List.length_append, List.length_singleton] at htl
        (repeat' (first | (k_unfold; (try dsimp only)) | walk1 | (dsimp only; walk1)))
        all_goals (refine TE.one (by simp) (by k_asm) (by k_asm) hpI ?_)
        all_goals first
          | exact leaf_dot (by with_reducible assumption) (strsAre_snoc hS2)
          | exact leaf_empty (by with_reducible assumption) (strsAre_snoc hS2)
          | exact leaf_pushp (by with_reducible assumption) (by with_reducible assumption) (by with_reducible assumption) hS2
          | exact leaf_pushl (by with_reducible assumption) (by with_reducible assumption) (by with_reducible assumption) hS2
          | exact leaf_pop (by with_reducible assumption) (by with_reducible assumption) (by with_reducible assumption) (by with_reducible assumption) hS2
    · intro u ts n h tk' hS F2 N2
      rw [List.take_length] at hS
      clear hl1 F1 N1
      generalize hacc : (Txt.split (splitrootF x).2 (Str.ofString "/")).foldl (normStep ((splitrootF x).1.length != 0)) [] = acc at hS
      have hb := norm_bounds ((splitrootF x).1.length != 0) (splitrootF x).2.length (Txt.split (splitrootF x).2 (Str.ofString "/")) [] (fun y hy => part_short hy) (fun _ h => nomatch h)
      rw [hacc] at hb
      have hw0 : (acc.map (·.length)).sum + acc.length ≤ 1005000 := by
        have c := split_count (splitrootF x).2
        have d := (splitrootF_len x).1
        have a1 := hb.1
        simp only [List.length_nil] at a1
        have a2 := sum_le 1000 acc fun a ha => Nat.le_trans (hb.2 a ha) (by omega)
        omega
      have hw : (acc.map (·.length)).sum + acc.length ≤ 1048576 := by omega
      have hjl : (Txt.join (Str.ofString "/") acc).length ≤ 1048576 := by
        have := join_len (Str.ofString "/") acc
        have e : (Str.ofString "/").length = 1 := by decide
        rw [e, Nat.mul_one] at this
        omega
      clear hb hw0
      (repeat' (first | (k_unfold; (try dsimp only)) | walk1 | (dsimp only; walk1)))
      · exact hR _ _ _ _ _ (by k_asm) (by k_asm) (str_of (normF_path (by with_reducible assumption) hacc (by with_reducible assumption)))
      · exact hR _ _ _ _ _ (by k_asm) (by k_asm) (str_of (normF_dot (by with_reducible assumption) hacc (by with_reducible assumption)))
  · exact hR _ _ _ _ _ (by k_asm) (by k_asm) (str_of (normF_empty (by with_reducible assumption)))
end Mine
end

section
open PySem PySem.W PyProof.Rows PySem.Calls
set_option maxRecDepth 100000
set_option maxHeartbeats 0
namespace Mine
theorem kfill3 : Challenge.rw_pd0176_01.name = Challenge.rw_pd0176_01.name ∨ ∀ P, MineHd.K P = MineHd.K P := by
  k_fill
  exact .inl rfl
/-- enter_fn for a def whose last parameter takes the rest -/
theorem enter_star {w : World} {n : Nat} {f : Addr} {args : List Value} {Pre : Heap → Prop} {Post : Heap → Value → Prop}
    {name qual : Str} {params : Arguments} {body : List Stmt} {scope : Scope} {dV kV doc pm cdv ct oc : Value} {an od : Option Addr} {osl : Array (Option Value)} (vs : List Value) (binds : Addr → List (Str × Value))
    (ho : (MineHd.K w.params).lookup f = some ⟨oc, od, .func (fnOf name qual params body scope dV kV doc pm an cdv ct), osl⟩) (hcd : codeIn (MineHd.K w.params) cdv qual = true) (hroom : n < recursionLimit)
    (hbind : ∀ (M : Model) (A : Around) (E : Value → Shared → Prop) (Q : List (Str × Value) → Shared → Prop) (s : Shared), Q (binds s.heap.objs.size) { s with heap := s.heap.push { cls := .type "tuple", data := .seq vs.toArray } } → wpAny M A (bindArgs (fnOf name qual params body scope dV kV doc pm an cdv ct) ⟨args, []⟩) Q E s)
    (hloc : ∀ D, ∀ y ∈ binds D, scope.names.lookup y.1 = some .local)
    (hco : scope.isCoroutine = false) (hgen : scope.isGenerator = false) (hk : scope.kind = .function)
    (hcell : ∀ x ∈ scope.names, x.2 ≠ .cell)
    (h : ∀ (s : Shared) (h₁ : Heap) (L D : Addr) (tk : Nat) (mean : ExcName → Option Value) (mg mb : Str → Option Value) (Q : Flow → Shared → Prop), (MineHd.K w.params).In s.heap → Top VW LS mean mg mb s.heap → Pre s.heap → Fr s.heap L h₁ (fun y => (binds D).reverse.lookup y) → News s.heap L h₁ [(D, { cls := .type "tuple", data := .seq vs.toArray })] →
      (∀ v h' tk' m' news', Fr s.heap L h' m' → News s.heap L h' news' → Post h' v → Q (.ret v) { s with heap := h', toks := tk' }) →
      wpAny (model PR w) ((Ar n).deeper (envOf qual scope L f cdv)) (execs body (envOf qual scope L f cdv)) Q (fun _ _ => False) { s with heap := h₁, toks := tk }) : Fn w n f args Pre Post := by
  intro s mean mg mb R X T pre hR
  refine codeAny_call_function (fd := fnOf name qual params body scope dV kV doc pm an cdv ct) (body := body) hroom (X _ _ ho) rfl hco hgen rfl (codeRec_of X hcd) (hbind _ _ _ _ _ ?_)
  have kp : Kp s.heap (s.heap.push { cls := .type "tuple", data := .seq vs.toArray }) := fun b o e => Heap.get?_push_of_some _ e
  refine wpAny_newFunctionEnv hcell (hloc _) (fun h₀ hns₀ hsb₀ => ⟨(T.nolimit.keeps kp).fresh _ hsb₀, codeAny_func ?_⟩) hk
  have ext : Kp (s.heap.push { cls := .type "tuple", data := .seq vs.toArray }) h₀ := fun b o e => hsb₀.extBut b o (Nat.ne_of_lt (Heap.lt_size e)) (Heap.get?_push_of_some _ e)
  refine wpAny_mono (h s h₀ (s.heap.push { cls := .type "tuple", data := .seq vs.toArray }).objs.size s.heap.objs.size _ mean mg mb (fun fl s' => R (.ok (.ret (match fl with | .ret v => v | _ => .none))) s') X T pre ⟨hns₀, fun b o e => ext b o (kp b o e), ?_⟩ ?_ ?_) (fun _ _ x => x) (fun _ _ x => x.elim)
  · rw [Heap.size_push]; exact Nat.le_succ _
  · intro p hp
    rw [List.mem_singleton.mp hp]
    refine ⟨ext _ _ (Heap.get?_push_size _ rfl), ?_, ?_⟩
    · show s.heap.objs.size ≠ _
      rw [Heap.size_push]; exact Nat.ne_of_lt (Nat.lt_succ_self _)
    · show s.heap.get? s.heap.objs.size = none
      cases q : s.heap.get? s.heap.objs.size with
      | none => rfl
      | some o => exact absurd (Heap.lt_size q) (Nat.lt_irrefl _)
  · intro v h' tk' m' news' F' _ hp
    exact hR v h' tk' F'.keep hp
local macro_rules | `(tactic| walk_at "call ref") => `(tactic| ((with_reducible show wpAny _ _ (call (Value.ref 111) [Value.str _ _]) _ _ _); refine' use_fn (fspath_spec _ _ _) ?F ?N ?X ?T rfl ?d rfl ?u True.intro ?_; walk_at "mine use"; intro v' h' tk' F' N' hk' hv'; subst hv'; (try k_sweep)))
theorem use_get_sep {w : World} {A : Around} {E : Value → Shared → Prop} {Q : Value → Shared → Prop} {s : Shared} {h₀ : Heap} {L : Addr} {m mg mb : Str → Option Value}
    {mean : ExcName → Option Value} {news : List (Addr × Obj)} {x : Str} {t : Tok} (F : Fr h₀ L s.heap m) (N : News h₀ L s.heap news) (X : (MineHd.K w.params).In h₀) (T : Top VW LS mean mg mb h₀)
    (h1 : A.handled = none) (h2 : A.depth ≤ 900) (h4 : A.guards = some []) (h5 : A.units ≤ 10 * 900)
    (h : ∀ t1 h' tk', Fr h₀ L h' m → News h₀ L h' news → Q (.str (Str.ofString "/") t1) { s with heap := h', toks := tk' }) :
    wpAny (model PR w) A (call (.ref 125) [.str x t]) Q E s :=
  use_fn (get_sep_spec w x t) F N X T h1 h2 h4 h5 trivial fun v h' tk' F' N' _ hv => by
    obtain ⟨t1, rfl⟩ := hv
    exact h t1 h' tk' F' N'
local macro_rules | `(tactic| walk_at "call ref") => `(tactic| ((with_reducible show wpAny _ _ (call (Value.ref 125) [Value.str _ _]) _ _ _); refine' use_get_sep ?F ?N ?X ?T rfl ?d rfl ?u ?_; walk_at "mine use"; intro t1' h' tk' F' N'; (try k_sweep)))
theorem joinStep_len (p b : Str) : (joinStep p b).length ≤ p.length + b.length + 1 := by
  unfold joinStep
  have e : (Str.ofString "/").length = 1 := by decide
  split
  · omega
  · split
    · rw [Str.length_append]; omega
    · rw [Str.length_append, Str.length_append, e]; omega
section
variable {pa b : Str} {t : Tok}
theorem joinStep_root (h : Txt.startswith b (Str.ofString "/") = true) : b = joinStep pa b := by rw [joinStep, if_pos (.inl h)]
theorem joinStep_empty (h : (pa.length : Int) = 0) : b = joinStep pa b := by rw [joinStep, if_pos (.inr (by omega))]
theorem joinStep_ends (h1 : Txt.startswith b (Str.ofString "/") = false) (h0 : (pa.length : Int) ≠ 0) (h2 : Txt.endswith pa (Str.ofString "/") = true) : pa ++ b = joinStep pa b := by
  rw [joinStep, if_neg (by rw [h1]; exact fun h => h.elim (fun h => nomatch h) (fun h => h0 (by omega))), if_pos h2]
theorem joinStep_mid (h1 : Txt.startswith b (Str.ofString "/") = false) (h0 : (pa.length : Int) ≠ 0) (h2 : Txt.endswith pa (Str.ofString "/") = false) : pa ++ (Str.ofString "/" ++ b) = joinStep pa b := by
  rw [joinStep, if_neg (by rw [h1]; exact fun h => h.elim (fun h => nomatch h) (fun h => h0 (by omega))), if_neg (by rw [h2]; decide)]
end
theorem joinF_len : ∀ (ys : List Str) (x : Str), (joinF x ys).length ≤ x.length + (ys.map (·.length)).sum + ys.length
  | [], x => by simp [joinF]
  | y :: ys, x => by
    have h1 := joinF_len ys (joinStep x y)
    have h2 := joinStep_len x y
    simp only [joinF, List.foldl_cons, List.map_cons, List.sum_cons, List.length_cons] at h1 ⊢
    omega
theorem mem_sum_le {y : Str} : ∀ {ys : List Str}, y ∈ ys → y.length ≤ (ys.map (·.length)).sum
  | _ :: ys, .head _ => by simp
  | _ :: ys, .tail _ h => by have := mem_sum_le h; simp only [List.map_cons, List.sum_cons]; omega
theorem sum_take_le (i : Nat) : ∀ (ys : List Str), ((ys.take i).map (·.length)).sum ≤ (ys.map (·.length)).sum := by
  induction i with
  | zero => intro ys; simp
  | succ i ih =>
    intro ys
    cases ys with
    | nil => simp
    | cons y ys => simp only [List.take_succ_cons, List.map_cons, List.sum_cons]; have := ih ys; omega
theorem join_spec (w : World) (x : Str) (t : Tok) (vs : List Value) (ys : List Str) (hys : StrsAre vs ys) (hlen : x.length + (ys.map (·.length)).sum + ys.length ≤ 1000) : Fn w 700 132 (.str x t :: vs) (fun _ => True)
    (fun _ v => ∃ t, v = .str (joinF x ys) t) := by
  w_on
  refine' enter_star vs (fun D => [(Str.ofString "a", .str x t), (Str.ofString "p", .ref D)]) ?k6 ?k7 ?k8 ?k9 ?kB ?c2 ?c3 ?c4 ?c5 ?_
  case k6 => k_is
  case k7 => k_is
  case k8 => decide
  case c5 => decide
  case kB => exact fun D => locs rfl
  case c2 => exact rfl
  case c3 => exact rfl
  case c4 => exact rfl
  case k9 =>
    intro M A E Q s hq
    have hz : vs.length ≤ sizeLine := by have := hys.length; rw [sizeLine_eq]; omega
    cases vs with
    | nil =>
      unfold bindArgs
      repeat (any_goals (first | assumption | wp_step))
    | cons v vs =>
      unfold bindArgs
      repeat (any_goals (first | assumption | wp_step))
      refine wpAny_ite_false ?_ ?_
      · exact decide_eq_false (Nat.not_lt.mpr hz)
      · repeat (any_goals (first | assumption | wp_step))
  intro s h₁ L D tk mean mg mb Q X T _ F N hR
  (repeat' (first | (k_unfold; (try dsimp only)) | walk1 | (dsimp only; walk1)))
  (with_reducible rename Fr _ _ _ _ => F1)
  (with_reducible rename News _ _ _ _ => N1)
  have hT : Heap.IsTuple _ D vs.toArray := ⟨_, N1.get (List.Mem.head _), rfl, _, rfl⟩
  refine iter_tupleN (L := L) [Str.ofString "path", Str.ofString "b"] (fun i m news => ∃ t, m (Str.ofString "path") = some (.str (joinF x (ys.take i)) t)) rfl rfl hT (N1 _ (List.Mem.head _)).2.1 F1 (News.nil) ⟨t, rfl⟩ ?_ ?_
  · rintro I i v m₁ news₁ own h tk' oI hi hv hm ⟨tp, hp⟩ h1 h2 h3 F2 N2
    have hi' : i < ys.length := by have := hys.length; simp only [List.size_toArray] at hi; omega
    obtain ⟨ty, hty⟩ := hys.get i ys[i] (by simp [hi'])
    have hv2 : v = .str ys[i] ty := by
      have hv' : vs[i]? = some v := by simpa using hv
      rw [hty] at hv'; exact (Option.some.inj hv').symm
    subst hv2
    have hst : joinF x (ys.take (i + 1)) = joinStep (joinF x (ys.take i)) ys[i] := by
      rw [joinF, joinF, List.take_add_one, List.getElem?_eq_getElem hi', List.foldl_append]; rfl
    rw [hst]
    have hb1 := joinF_len (ys.take i) x
    have hb2 := sum_take_le i ys
    have hb3 : (ys.take i).length ≤ ys.length := by rw [List.length_take]; omega
    have hb : (joinF x (ys.take i)).length ≤ 1000 := by omega
    have hc : ys[i].length ≤ 1000 := by have := mem_sum_le (List.getElem_mem hi'); omega
    generalize joinF x (ys.take i) = pa at *
    generalize ys[i] = b at *
    clear hb1 hb2 hb3 hst hT
    refine let_ov1 [(Str.ofString "path", some (.str pa tp)), (Str.ofString "b", m₁ (Str.ofString "b"))] F2 (by simp [hp]) hm rfl ?_
    clear F2
    intro mAF2 F2
    clear hp hm
    (repeat' (first | (k_unfold; (try dsimp only)) | walk1 | (dsimp only; walk1)))
    all_goals (refine TE.names (by simp) (by k_asm) (by k_asm) h1 (by (repeat (first | exact fun _ _ => rfl | exact off_all | refine off_put (by decide) ?_ | refine off_sub (by kernel_rfl) ?_))) ?_)
    all_goals first
      | exact ⟨_, path_of (joinStep_root (by assumption))⟩
      | exact ⟨_, path_of (joinStep_empty (by assumption))⟩
      | exact ⟨_, path_of (joinStep_ends (by assumption) (by assumption) (by assumption))⟩
      | exact ⟨_, path_of (joinStep_mid (by assumption) (by assumption) (by assumption))⟩
  · rintro m₁ news₁ h tk' hm ⟨tp, hp⟩ F2 N2
    have e : ys.take vs.toArray.size = ys := by rw [List.size_toArray, hys.length, List.take_length]
    rw [e] at hp
    refine let_ov [(Str.ofString "path", some (.str (joinF x ys) tp)), (Str.ofString "b", m₁ (Str.ofString "b"))] F2 (by simp [hp]) hm rfl ?_
    clear F2
    intro mAF2 F2
    clear F1 N1 hT hm hp
    (repeat' (first | (k_unfold; (try dsimp only)) | walk1 | (dsimp only; walk1)))
    exact hR _ _ _ _ _ (by k_asm) N2 ⟨_, rfl⟩
end Mine
end

section
open PySem PySem.W PyProof.Rows PySem.Calls
set_option maxRecDepth 100000
set_option maxHeartbeats 0
namespace Mine
theorem kfill4 : Challenge.rw_pd0176_01.name = Challenge.rw_pd0176_01.name ∨ ∀ P, MineHd.K P = MineHd.K P := by
  k_fill
  exact .inl rfl
noncomputable def signsOf : Value → Option (List Nat)
  | .str x _ => some x.cps.toList
  | _ => none
noncomputable def tabOk (f : Nat → List Nat) (l : List Value) : Bool := (List.range 256).all fun c => (l[c]?).bind signsOf == some (f c)
theorem tab_of {K : Frag} {h : Heap} {a : Addr} {f : Nat → List Nat} {l : List Value} {n : Nat} {dd : Option Addr} {sl : Array (Option Value)} (X : K.In h) (hl : K.lookup a = some ⟨.type "list", dd, .seq l.toArray n, sl⟩) (hd : tabOk f l = true) :
    ∃ items, h.IsList a items ∧ ∀ c, c < 256 → ∃ u, items[c]? = some (.str ⟨(f c).toArray⟩ u) := by
  refine ⟨l.toArray, lstK X hl, fun c hc => ?_⟩
  have h1 := List.all_eq_true.mp hd c (List.mem_range.mpr hc)
  have h2 : (l[c]?).bind signsOf = some (f c) := by simpa using h1
  cases hv : l[c]? with
  | none => rw [hv] at h2; cases h2
  | some v =>
    rw [hv] at h2
    cases v with
    | str x u =>
      have e : x.cps.toList = f c := Option.some.inj h2
      exact ⟨u, by rw [← e]; simpa using hv⟩
    | _ => cases h2
theorem htab_K {w : World} {h : Heap} (X : (MineHd.K w.params).In h) : ∃ items, h.IsList 159 items ∧ ∀ c, c < 256 → ∃ u, items[c]? = some (.str ⟨(htab c).toArray⟩ u) := by
  refine' tab_of X ?l ?d
  case l => k_is
  case d => decide +kernel
theorem btab_K {w : World} {h : Heap} (X : (MineHd.K w.params).In h) : ∃ items, h.IsList 191 items ∧ ∀ c, c < 256 → ∃ u, items[c]? = some (.str ⟨(btab c).toArray⟩ u) := by
  refine' tab_of X ?l ?d
  case l => k_is
  case d => decide +kernel
theorem quote20 (w : World) (t : Tok) : Fn w 900 181 [.str (Str.ofString " ") t] (fun _ => True) (fun _ v => ∃ t, v = .str (Str.ofString "=20") t) := by
  w_on
  refine' enter_fn [(Str.ofString "c", .str (Str.ofString " ") t)] ?k6 ?k7 ?k8 ?k9 ?kB ?c2 ?c3 ?c4 ?c5 ?_
  (((case k6 => k_is); (case k7 => k_is); (case k8 => decide); (case k9 => first | (intro _ _; exact BindsTo.of_eq rfl) | (intro _ X9; exact binds_K X9 rfl (by k_is) rfl rfl rfl)); (case c5 => decide); (case kB => exact locs rfl); (case c2 => exact rfl); (case c3 => exact rfl); (case c4 => exact rfl)))
  intro s h₁ L tk mean mg mb Q X T _ F N hR
  (repeat' (first | (k_unfold; (try dsimp only)) | walk1 | (dsimp only; walk1)))
  exact hR _ _ _ _ _ (by k_asm) (by k_asm) ⟨_, rfl⟩
theorem quote09 (w : World) (t : Tok) : Fn w 900 181 [.str (Str.ofString "\t") t] (fun _ => True) (fun _ v => ∃ t, v = .str (Str.ofString "=09") t) := by
  w_on
  refine' enter_fn [(Str.ofString "c", .str (Str.ofString "\t") t)] ?k6 ?k7 ?k8 ?k9 ?kB ?c2 ?c3 ?c4 ?c5 ?_
  (((case k6 => k_is); (case k7 => k_is); (case k8 => decide); (case k9 => first | (intro _ _; exact BindsTo.of_eq rfl) | (intro _ X9; exact binds_K X9 rfl (by k_is) rfl rfl rfl)); (case c5 => decide); (case kB => exact locs rfl); (case c2 => exact rfl); (case c3 => exact rfl); (case c4 => exact rfl)))
  intro s h₁ L tk mean mg mb Q X T _ F N hR
  (repeat' (first | (k_unfold; (try dsimp only)) | walk1 | (dsimp only; walk1)))
  exact hR _ _ _ _ _ (by k_asm) (by k_asm) ⟨_, rfl⟩
theorem slice_hex (n : Nat) : Txt.slice ⟨(61 :: hex2 n).toArray⟩ (some 1) (some 3) = ⟨(hex2 n).toArray⟩ := by
  unfold hex2
  generalize hexD (n / 16) = a
  generalize hexD (n % 16) = b
  rfl
local macro_rules | `(tactic| walk_at "call type:int") => `(tactic| (rw [slice_hex]; refine int16_call (by assumption) ?_))
theorem unquote_spec (w : World) (n : Nat) (hn : n < 256) (t : Tok) : Fn w 900 174 [.str ⟨(61 :: hex2 n).toArray⟩ t] (fun _ => True) (fun _ v => ∃ t, v = .str ⟨#[n]⟩ t) := by
  w_on
  refine' enter_fn [(Str.ofString "s", .str ⟨(61 :: hex2 n).toArray⟩ t)] ?k6 ?k7 ?k8 ?k9 ?kB ?c2 ?c3 ?c4 ?c5 ?_
  (((case k6 => k_is); (case k7 => k_is); (case k8 => decide); (case k9 => first | (intro _ _; exact BindsTo.of_eq rfl) | (intro _ X9; exact binds_K X9 rfl (by k_is) rfl rfl rfl)); (case c5 => decide); (case kB => exact locs rfl); (case c2 => exact rfl); (case c3 => exact rfl); (case c4 => exact rfl)))
  intro s h₁ L tk mean mg mb Q X T _ F N hR
  have hlen : (⟨(61 :: hex2 n).toArray⟩ : Str).length ≤ 1000 := (by decide : 3 ≤ 1000)
  (repeat' (first | (k_unfold; (try dsimp only)) | walk1 | (dsimp only; walk1)))
  exact hR _ _ _ _ _ (by k_asm) (by k_asm) ⟨_, rfl⟩
local macro_rules | `(tactic| walk_at "getMethod str") => `(tactic| (with_reducible refine translate_method ?_))
theorem htab_len (c : Nat) : (htab c).length ≤ 3 := by unfold htab hex2; split; simp; split <;> simp
theorem btab_len (c : Nat) : (btab c).length ≤ 3 := by unfold btab hex2; split <;> simp
theorem trF_len {tab : Nat → Str} (h : ∀ c, (tab c).length ≤ 3) : ∀ l : List Nat, (trF tab l).length ≤ 3 * l.length
  | [] => by simp [trF]
  | c :: l => by
    have h1 := h c
    have h2 := trF_len h l
    simp only [trF, List.flatMap_cons, List.length_append, List.length_cons] at h2 ⊢
    simp only [Str.length] at h1
    have : (tab c).cps.toList.length = (tab c).cps.size := by simp
    omega
noncomputable abbrev hT (c : Nat) : Str := ⟨(htab c).toArray⟩
noncomputable abbrev bT (c : Nat) : Str := ⟨(btab c).toArray⟩
theorem fmt_head : Str.empty ++ Str.ofString "=?" ++ Str.ofString "q" ++ Str.ofString "?q?" = Str.ofString "=?q?q?" := by decide
theorem henc_spec (w : World) (b : Array UInt8) (t : Tok) (u : Tok) (hx : b.size ≤ 300) : Fn w 700 189 [.bytes b t, .str (Str.ofString "q") u] (fun _ => True)
    (fun _ v => ∃ t, v = .str (if b.size = 0 then Str.ofString "" else Str.ofString "=?q?q?" ++ (⟨(trF hT (b.toList.map (·.toNat))).toArray⟩ : Str) ++ Str.ofString "?=") t) := by
  w_on
  refine' enter_fn [(Str.ofString "header_bytes", .bytes b t), (Str.ofString "charset", .str (Str.ofString "q") u)] ?k6 ?k7 ?k8 ?k9 ?kB ?c2 ?c3 ?c4 ?c5 ?_
  (((case k6 => k_is); (case k7 => k_is); (case k8 => decide); (case k9 => first | (intro _ _; exact BindsTo.of_eq rfl) | (intro _ X9; exact binds_K X9 rfl (by k_is) rfl rfl rfl)); (case c5 => decide); (case kB => exact locs rfl); (case c2 => exact rfl); (case c3 => exact rfl); (case c4 => exact rfl)))
  intro s h₁ L tk mean mg mb Q X T _ F N hR
  (repeat' (first | (k_unfold; (try dsimp only)) | walk1 | (dsimp only; walk1)))
  · refine latin_call (by omega) (by omega) ?_
    intro t' k'
    have hne : b.size ≠ 0 := by omega
    rw [if_neg hne] at hR
    obtain ⟨items, hl, hit⟩ := htab_K (X.keeps F.keep)
    have h3 := trF_len (tab := hT) (fun c => by simpa [Str.length] using htab_len c) (b.toList.map (·.toNat))
    have h4 : (b.toList.map (·.toNat)).length = b.size := by simp
    (repeat' (first | (k_unfold; (try dsimp only)) | walk1 | (dsimp only; walk1)))
    refine translate_call (items := items) (tab := hT) (x := ⟨(b.toList.map (·.toNat)).toArray⟩) ?_ ?_ hit ?_ ?_ ?_
    · exact hl
    · intro c hc
      simp only [List.mem_map] at hc
      obtain ⟨y, _, rfl⟩ := hc
      exact y.toNat_lt
    · simp only []; omega
    · simp only [Str.length, List.size_toArray]; omega
    · intro u' tk'
      simp only []
      generalize hq : trF hT (b.toList.map (·.toNat)) = q at *
      have hql : (⟨q.toArray⟩ : Str).length ≤ 1000 := by simp only [Str.length, List.size_toArray]; omega
      (repeat' (first | (k_unfold; (try dsimp only)) | walk1 | (dsimp only; walk1)))
      exact hR _ _ _ _ _ (by k_asm) (by k_asm) (str_of (congrArg (fun z => z ++ (⟨q.toArray⟩ : Str) ++ Str.ofString "?=") fmt_head))
  · exact hR _ _ _ _ _ (by k_asm) (by k_asm) ⟨_, by rw [if_pos (by omega)]⟩
end Mine
end

section
open PySem PySem.W PyProof.Rows PySem.Calls
set_option maxRecDepth 100000
set_option maxHeartbeats 0
namespace Mine
theorem kfill5 : Challenge.rw_pd0176_01.name = Challenge.rw_pd0176_01.name ∨ ∀ P, MineHd.K P = MineHd.K P := by
  k_fill
  exact .inl rfl
/-- the word for a blank, a tab -/
noncomputable def quoteOf (z : Str) : Str := if z = Str.ofString " " then Str.ofString "=20" else Str.ofString "=09"
theorem quoteOf_len (z : Str) : (quoteOf z).length ≤ 3 := by unfold quoteOf; split <;> decide
theorem use_quote {w : World} {A : Around} {E : Value → Shared → Prop} {Q : Value → Shared → Prop} {s : Shared} {h₀ : Heap} {L : Addr} {m mg mb : Str → Option Value}
    {mean : ExcName → Option Value} {news : List (Addr × Obj)} {z : Str} {t : Tok} (hz : z = Str.ofString " " ∨ z = Str.ofString "\t") (F : Fr h₀ L s.heap m) (N : News h₀ L s.heap news) (X : (MineHd.K w.params).In h₀) (T : Top VW LS mean mg mb h₀)
    (h1 : A.handled = none) (h2 : A.depth ≤ 900) (h4 : A.guards = some []) (h5 : A.units ≤ 10 * 900)
    (h : ∀ t1 h' tk', Fr h₀ L h' m → News h₀ L h' news → Q (.str (quoteOf z) t1) { s with heap := h', toks := tk' }) :
    wpAny (model PR w) A (call (.ref 181) [.str z t]) Q E s := by
  rcases hz with rfl | rfl
  · refine use_fn (quote20 w t) F N X T h1 h2 h4 h5 trivial fun v h' tk' F' N' _ hv => ?_
    obtain ⟨t1, rfl⟩ := hv
    exact h t1 h' tk' F' N'
  · refine use_fn (quote09 w t) F N X T h1 h2 h4 h5 trivial fun v h' tk' F' N' _ hv => ?_
    obtain ⟨t1, rfl⟩ := hv
    exact h t1 h' tk' F' N'
theorem in_bt {y : Str} (h : (Builtin.Str.occurrences (Str.ofString " \t") (Txt.item y (-1)) 0 (Str.ofString " \t").length 1).isEmpty = false) : Txt.item y (-1) = Str.ofString " " ∨ Txt.item y (-1) = Str.ofString "\t" := by
  unfold Txt.item at h ⊢
  generalize (Txt.charAt y (-1)).getD 0 = c at *
  have k := StrLaws.found_one (Str.ofString " \t") c
  rw [h] at k
  have k' : c ∈ (Str.ofString " \t").cps.toList := by simpa using k.symm
  rw [show (Str.ofString " \t").cps.toList = [32, 9] by decide] at k'
  rcases List.mem_cons.mp k' with rfl | k'
  · exact .inl (by decide)
  · rw [List.mem_singleton.mp k']; exact .inr (by decide)
theorem enc_0 {y : Str} (h : (y.length : Int) = 0) : Txt.slice y (some 0) none = encLine y := by
  rw [slice_all]
  have : y.cps.toList = [] := cs_nil.mpr (by omega)
  unfold encLine
  rw [this]; rfl
theorem last_of {y : Str} (h : (y.length : Int) ≠ 0) : ∃ l c, y.cps.toList = l ++ [c] := by
  rcases List.eq_nil_or_concat (cs y) with e | ⟨l, c, e⟩
  · exact absurd (cs_nil.mp e) (by omega)
  · exact ⟨l, c, by rw [← List.concat_eq_append]; exact e⟩
theorem enc_n {y : Str} (h0 : (y.length : Int) ≠ 0) (h : (Builtin.Str.occurrences (Str.ofString " \t") (Txt.item y (-1)) 0 (Str.ofString " \t").length 1).isEmpty = true) : Txt.slice y (some 0) none = encLine y := by
  rw [slice_all]
  obtain ⟨l, c, e⟩ := last_of h0
  rw [item_last e] at h
  have k := StrLaws.found_one (Str.ofString " \t") c
  rw [h] at k
  have k' : ¬ c ∈ (Str.ofString " \t").cps.toList := by simpa using k.symm
  rw [show (Str.ofString " \t").cps.toList = [32, 9] by decide] at k'
  simp only [List.mem_cons, List.not_mem_nil, or_false, not_or] at k'
  unfold encLine
  rw [e, List.getLast?_concat]
  split
  · rename_i q; exact absurd (Option.some.inj q) k'.1
  · rename_i q; exact absurd (Option.some.inj q) k'.2
  · rfl
theorem enc_q {y : Str} (h0 : (y.length : Int) ≠ 0) (h : (Builtin.Str.occurrences (Str.ofString " \t") (Txt.item y (-1)) 0 (Str.ofString " \t").length 1).isEmpty = false) : Txt.slice y (some 0) (some (-1)) ++ quoteOf (Txt.item y (-1)) = encLine y := by
  obtain ⟨l, c, e⟩ := last_of h0
  have hi := in_bt h
  have hl : y.length = l.length + 1 := by
    have := congrArg List.length e
    simpa [Str.length] using this
  have es : cs (Txt.slice y (some 0) (some (-1))) = l := by
    rw [slice_cs]
    have e1 : clipN (some 0) 0 y.length = 0 := by unfold clipN; simp only []; split <;> omega
    have e2 : clipN (some (-1)) y.length y.length = l.length := by
      show clipN _ (y.length) (y.length) = _
      rw [hl]; unfold clipN; simp only []; omega
    rw [e1, e2, show cs y = l ++ [c] from e]
    simp
  rw [item_last e] at hi ⊢
  apply strExt
  show cs (_ ++ _) = cs _
  rw [cs_app, es]
  unfold encLine
  rw [e, List.getLast?_concat]
  rcases hi with hi | hi
  · have hc : c = 32 := by have := congrArg cs hi; rw [show cs (Str.ofString " ") = [32] by decide] at this; simpa [cs] using this
    subst hc
    rw [List.dropLast_concat]
    rfl
  · have hc : c = 9 := by have := congrArg cs hi; rw [show cs (Str.ofString "\t") = [9] by decide] at this; simpa [cs] using this
    subst hc
    rw [List.dropLast_concat]
    rfl
local macro_rules | `(tactic| walk_at "getMethod str") => `(tactic| (with_reducible refine translate_method ?_))
local macro_rules | `(tactic| walk_at "getAttr ref") => `(tactic| ((with_reducible show wpAny _ _ (getAttr (Value.ref _) (PySem.Str.ofString "append") true) _ _ _); refine getAttr_appN (by k_asm) (by k_asm) (List.Mem.head _) ?_; intro x' h' tk' F' N' l1'; (try simp only [List.cons_append, List.nil_append] at N'); (try k_sweep)))
theorem callWith_bapN {M : Model} {A : Around} {E : Value → Shared → Prop} {s : Shared} {h₀ : Heap} {L : Addr} {e0 : Addr × Obj} {news : List (Addr × Obj)} {pos : Pos} {u l : Addr} {first : List Value} {env : Env} {e : Expr} {rest : List Expr} {Q : Value → Shared → Prop} (_N : News h₀ L s.heap (e0 :: (u, boundApp l) :: news))
    (h : wpAny M A (spliced (backTo pos (starEach (e :: rest) env))) (fun vs s₁ => s₁.heap.get? u = some (boundApp l) ∧ wpAny M A (call (.ref u) (first ++ vs)) Q E s₁) E s)
    (he : starEach (e :: rest) env = (false, eval e env) :: starEach rest env := by rfl) (hplain : (backTo pos (starEach rest env)).any (·.1) = false := by rfl) :
    wpAny M A (callWith pos (.ref u) first (backTo pos (starEach (e :: rest) env)) []) Q E s := callWith_bapp1 (l := l) h he hplain
local macro_rules | `(tactic| walk_at "callWith ref") => `(tactic| (refine callWith_bapN (by with_reducible assumption) ?_))
local macro_rules | `(tactic| walk_at "And") => `(tactic| ((with_reducible show Heap.get? _ _ = some (boundApp _) ∧ _); refine ⟨News.get (by k_asm) (List.Mem.tail _ (List.Mem.head _)), ?_⟩))
local macro_rules | `(tactic| walk_at "call ref") => `(tactic| (refine call_boundN (by k_asm) (by with_reducible assumption) (by with_reducible assumption) (by first | with_reducible assumption | (intro _ hq; cases hq)) (by omega) ?_; intro h' F' N'; (try k_sweep)))
local macro_rules | `(tactic| walk_at "call builtin:str.join") => `(tactic| (refine join_listW (News.isList (by k_asm) (List.Mem.head _)) (by first | with_reducible assumption | exact strsAre_snoc (by with_reducible assumption)) (by decide) (by assumption) ?_; intro t' k'))
local macro_rules | `(tactic| walk_at "call ref") => `(tactic| ((with_reducible show wpAny _ _ (call (Value.ref 181) _) _ _ _); refine' use_quote ?hz ?F ?N ?X ?T rfl ?d rfl ?u ?_; (case hz => exact in_bt (by with_reducible assumption)); walk_at "mine use"; intro t1' h' tk' F' N'; (try k_sweep)))
local macro_rules | `(tactic| walk_at "WhlIf") => `(tactic| (refine WhlIf.no (decide_eq_false (by omega)) ?_))
theorem strsAre_snocE {vs : List Value} {ys : List Str} {x y : Str} {t : Tok} (e : x = y) (h : StrsAre vs ys) : StrsAre (vs ++ [.str x t]) (ys ++ [y]) := by
  rw [← e]; exact strsAre_snoc h
/-- the body written -/
noncomputable def bodyT (x : Str) : Str := ⟨(trF bT (cs x)).toArray⟩
noncomputable def bodyF (x : Str) : Str := if x.length = 0 then x else Txt.join (Str.ofString "\n") ((Txt.lines (bodyT x)).map encLine ++ if (cs (bodyT x)).getLast? = some 10 ∨ (cs (bodyT x)).getLast? = some 13 then [Str.ofString ""] else [])
theorem bodyT_cs (x : Str) : cs (bodyT x) = (cs x).flatMap btab := rfl
theorem bodyT_ne {x : Str} (h : x.length ≠ 0) : (bodyT x).length ≠ 0 := by
  intro q
  have q' := cs_nil.mpr q
  rw [bodyT_cs] at q'
  cases e : cs x with
  | nil => exact h (cs_nil.mp e)
  | cons c l =>
    rw [e, List.flatMap_cons, List.append_eq_nil_iff] at q'
    exact btab_ne c q'.1
theorem encLine_len (y : Str) : (encLine y).length ≤ y.length + 3 := by
  have h := cs_len y
  unfold encLine
  split
  · simp only [Str.length, List.size_toArray, List.length_append, List.length_dropLast, List.length_cons, List.length_nil, Array.length_toList] at h ⊢; omega
  · simp only [Str.length, List.size_toArray, List.length_append, List.length_dropLast, List.length_cons, List.length_nil, Array.length_toList] at h ⊢; omega
  · omega
theorem encs_le : ∀ l : List Str, ((l.map encLine).map (·.length)).sum ≤ (l.map (·.length)).sum + 3 * l.length
  | [] => by simp
  | y :: l => by
    have a := encs_le l
    have b := encLine_len y
    simp only [List.map_cons, List.sum_cons, List.length_cons] at a ⊢
    omega
theorem encs_len (x : Str) : (((Txt.lines x).map encLine).map (·.length)).sum + ((Txt.lines x).map encLine).length ≤ 4 * (x.length + 1) := by
  have a := encs_le (Txt.lines x)
  have b := StrLaws.lines_weight x
  rw [List.length_map]
  omega
theorem nl_last {y : Str} (h0 : y.length ≠ 0) : ∃ c, (cs y).getLast? = some c ∧ (Builtin.Str.occurrences (Str.ofString "\r\n") (Txt.item y (-1)) 0 (Str.ofString "\r\n").length 1).isEmpty = !decide (c = 13 ∨ c = 10) := by
  obtain ⟨l, c, e⟩ := last_of (y := y) (by omega)
  refine ⟨c, by rw [show cs y = l ++ [c] from e, List.getLast?_concat], ?_⟩
  rw [item_last e]
  have k := StrLaws.found_one (Str.ofString "\r\n") c
  rw [show (Str.ofString "\r\n").cps.toList = [13, 10] by decide] at k
  have e2 : decide (c ∈ [13, 10]) = decide (c = 13 ∨ c = 10) := decide_eq_decide.mpr (by simp)
  rw [← e2, ← k, Bool.not_not]
theorem nl_no {y : Str} (h0 : y.length ≠ 0) (h : (Builtin.Str.occurrences (Str.ofString "\r\n") (Txt.item y (-1)) 0 (Str.ofString "\r\n").length 1).isEmpty = true) : ¬ ((cs y).getLast? = some 10 ∨ (cs y).getLast? = some 13) := by
  obtain ⟨c, e, k⟩ := nl_last h0
  rw [e]
  rw [h] at k
  have k' : ¬ (c = 13 ∨ c = 10) := fun q => by rw [decide_eq_true q] at k; cases k
  rintro (q | q)
  · exact k' (.inr (Option.some.inj q))
  · exact k' (.inl (Option.some.inj q))
theorem nl_yes {y : Str} (h0 : y.length ≠ 0) (h : (Builtin.Str.occurrences (Str.ofString "\r\n") (Txt.item y (-1)) 0 (Str.ofString "\r\n").length 1).isEmpty = false) : (cs y).getLast? = some 10 ∨ (cs y).getLast? = some 13 := by
  obtain ⟨c, e, k⟩ := nl_last h0
  rw [e]
  rw [h] at k
  have k' : c = 13 ∨ c = 10 := by
    cases q : decide (c = 13 ∨ c = 10) with
    | true => exact of_decide_eq_true q
    | false => rw [q] at k; cases k
  rcases k' with rfl | rfl
  · exact .inr rfl
  · exact .inl rfl
theorem benc_spec (w : World) (x : Str) (t : Tok) (u : Tok) (hx : x.length ≤ 300) (h256 : ∀ c ∈ x.cps.toList, c < 256) : Fn w 700 202 [.str x t, .int 100000 u] (fun _ => True)
    (fun _ v => ∃ t, v = .str (bodyF x) t) := by
  w_on
  refine' enter_fn [(Str.ofString "body", .str x t), (Str.ofString "maxlinelen", .int 100000 u), (Str.ofString "eol", .str (Str.ofString "\n") 482)] ?k6 ?k7 ?k8 ?k9 ?kB ?c2 ?c3 ?c4 ?c5 ?_
  (((case k6 => k_is); (case k7 => k_is); (case k8 => decide); (case k9 => first | (intro _ _; exact BindsTo.of_eq rfl) | (intro _ X9; exact binds_K X9 rfl (by k_is) rfl rfl rfl)); (case c5 => decide); (case kB => exact locs rfl); (case c2 => exact rfl); (case c3 => exact rfl); (case c4 => exact rfl)))
  intro s h₁ L tk mean mg mb Q X T _ F N hR
  (repeat' (first | (k_unfold; (try dsimp only)) | walk1 | (dsimp only; walk1)))
  · have hne : x.length ≠ 0 := by omega
    obtain ⟨items, hl, hit⟩ := btab_K (X.keeps F.keep)
    have h3 := trF_len (tab := bT) (fun c => by simpa [Str.length] using btab_len c) x.cps.toList
    have h4 : x.cps.toList.length = x.length := by simp [Str.length]
    refine translate_call (items := items) (tab := bT) ?_ h256 hit ?_ hne ?_
    · exact hl
    · omega
    · intro u' tk'
      have hbt : (⟨(trF bT x.cps.toList).toArray⟩ : Str) = bodyT x := rfl
      have hbl : (bodyT x).length ≤ 1000 := by
        show (trF bT x.cps.toList).toArray.size ≤ _
        rw [List.size_toArray]; omega
      have hb0 : (bodyT x).length ≠ 0 := bodyT_ne hne
      have hbf : bodyF x = Txt.join (Str.ofString "\n") ((Txt.lines (bodyT x)).map encLine ++ if (cs (bodyT x)).getLast? = some 10 ∨ (cs (bodyT x)).getLast? = some 13 then [Str.ofString ""] else []) := by
        rw [bodyF, if_neg hne]
      rw [hbt]
      rw [hbf] at hR
      clear hbf h3 h4 hit hl h256 hbt
      generalize bodyT x = bt at *
      (repeat' (first | (k_unfold; (try dsimp only)) | walk1 | (dsimp only; walk1)))
      (rename ∀ p ∈ [(_, W.listOf _ _)], p.1 < _ => hlt1)
      have hxl := Nat.ne_of_gt (hlt1 _ (List.Mem.head _))
      dsimp only at hxl
      (with_reducible rename Fr _ _ _ _ => F1)
      (with_reducible rename News _ _ _ _ => N1)
      (rename List.map _ _ = Txt.lines _ => hsp)
      have hl1 := News.isList N1 (List.Mem.head _)
      refine iter_strs2 (L := L) (ys := Txt.lines bt) [Str.ofString "line", Str.ofString "start", Str.ofString "laststart", Str.ofString "room", Str.ofString "q"] (fun i ts => StrsAre ts (((Txt.lines bt).take i).map encLine)) rfl rfl hl1 ?_ (N1 _ (List.Mem.head _)).2.1 ?_ F1 N1 (List.Mem.tail _ (List.Mem.head _)) (List.Mem.tail _ (List.Mem.tail _ (List.Mem.head _))) .nil ?_ ?_
      · rw [← hsp]; exact strsAre_of_values _
      · exact Nat.ne_of_lt (Heap.lt_size ((by assumption : News s.heap L _ [(_, W.listOf #[] 0), (_, boundApp _)]) _ (List.Mem.head _)).1)
      · intro I i y t' m₁ ts n own h tk' hy hm hS hne' hpI hcI F2 N2
        have hyl : y.length ≤ 1000 := by
          have := line_short (List.mem_of_getElem? hy); omega
        have htl : ts.length ≤ 1002 := by
          have a := hS.length
          have b := StrLaws.lines_weight bt
          rw [List.length_map, List.length_take] at a
          omega
        have hql := quoteOf_len (Txt.item y (-1))
        have hst : ((Txt.lines bt).take (i + 1)).map encLine = ((Txt.lines bt).take i).map encLine ++ [encLine y] := by
          rw [List.take_add_one, hy]; simp
        rw [hst]
        clear hl1 F1 N1 hsp hst hy
        refine let_ov1 [(Str.ofString "line", m₁ (Str.ofString "line")), (Str.ofString "start", m₁ (Str.ofString "start")), (Str.ofString "laststart", m₁ (Str.ofString "laststart")), (Str.ofString "room", m₁ (Str.ofString "room")), (Str.ofString "q", m₁ (Str.ofString "q"))] F2 (by simp) hm rfl ?_
        clear F2
        intro mAF2 F2
        clear hm
        generalize ((Txt.lines bt).take i).map encLine = acc at *
        (repeat' (first | (k_unfold; (try dsimp only)) | walk1 | (dsimp only; walk1)))
        all_goals (with_reducible show TE _ _ _ _ _ _ _ _ _)
        all_goals (refine TE.two (by simp) (by k_asm) (by k_asm) hpI hcI (by (repeat (first | exact fun _ _ => rfl | exact off_all | refine off_put (by decide) ?_ | refine off_sub (by kernel_rfl) ?_))) ?_)
        all_goals first
          | exact strsAre_snocE (enc_0 (by assumption)) hS
          | exact strsAre_snocE (enc_n (by assumption) (by assumption)) hS
          | exact strsAre_snocE (enc_q (by assumption) (by assumption)) hS
      · intro m₁ ts n h tk' hm hS F2 N2
        refine let_ov [(Str.ofString "line", m₁ (Str.ofString "line")), (Str.ofString "start", m₁ (Str.ofString "start")), (Str.ofString "laststart", m₁ (Str.ofString "laststart")), (Str.ofString "room", m₁ (Str.ofString "room")), (Str.ofString "q", m₁ (Str.ofString "q"))] F2 (by simp) hm rfl ?_
        clear F2
        intro mAF2 F2
        clear hm hl1 F1 N1 hsp
        rw [List.take_length] at hS
        have hw := encs_len bt
        have htl := hS.length
        rw [List.length_map] at htl
        generalize (Txt.lines bt).map encLine = acc at *
        have hw1 : (acc.map (·.length)).sum + acc.length ≤ 1048576 := by omega
        have hw2 : ((acc ++ [Str.ofString ""]).map (·.length)).sum + (acc ++ [Str.ofString ""]).length ≤ 1048576 := by
          simp only [List.map_append, List.sum_append, List.length_append, List.map_cons, List.map_nil, List.sum_cons, List.sum_nil, List.length_cons, List.length_nil]
          have : (Str.ofString "").length = 0 := by decide
          omega
        have htl2 : ts.length ≤ 1002 := by have := StrLaws.lines_weight bt; omega
        clear htl hw hlt1
        (repeat' (first | (k_unfold; (try dsimp only)) | walk1 | (dsimp only; walk1)))
        · exact hR _ _ _ _ _ (by k_asm) (by k_asm) (str_of (by rw [if_neg (nl_no hb0 (by assumption)), List.append_nil]))
        · exact hR _ _ _ _ _ (by k_asm) (by k_asm) (str_of (by rw [if_pos (nl_yes hb0 (by assumption))]))
  · exact hR _ _ _ _ _ (by k_asm) (by k_asm) (str_of (by rw [bodyF, if_pos (by omega)]))
end Mine
end

section
open PySem PySem.W PyProof.Rows PySem.Calls
set_option maxRecDepth 100000
set_option maxHeartbeats 0
namespace Mine
theorem kfill6 : Challenge.rw_pd0176_01.name = Challenge.rw_pd0176_01.name ∨ ∀ P, MineHd.K P = MineHd.K P := by
  k_fill
  exact .inl rfl
theorem use_unquote {w : World} {A : Around} {E : Value → Shared → Prop} {Q : Value → Shared → Prop} {s : Shared} {h₀ : Heap} {L : Addr} {m mg mb : Str → Option Value}
    {mean : ExcName → Option Value} {news : List (Addr × Obj)} {z : Str} {n : Nat} {t : Tok} (hz : z = ⟨(61 :: hex2 n).toArray⟩) (hn : n < 256) (F : Fr h₀ L s.heap m) (N : News h₀ L s.heap news) (X : (MineHd.K w.params).In h₀) (T : Top VW LS mean mg mb h₀)
    (h1 : A.handled = none) (h2 : A.depth ≤ 900) (h4 : A.guards = some []) (h5 : A.units ≤ 10 * 900)
    (h : ∀ t1 h' tk', Fr h₀ L h' m → News h₀ L h' news → Q (.str ⟨#[n]⟩ t1) { s with heap := h', toks := tk' }) :
    wpAny (model PR w) A (call (.ref 174) [.str z t]) Q E s := by
  subst hz
  refine use_fn (unquote_spec w n hn t) F N X T h1 h2 h4 h5 trivial fun v h' tk' F' N' _ hv => ?_
  obtain ⟨t1, rfl⟩ := hv
  exact h t1 h' tk' F' N'
local macro_rules | `(tactic| walk_at "call ref") => `(tactic| ((with_reducible show wpAny _ _ (call (Value.ref 174) _) _ _ _); refine' use_unquote ?hz ?hn ?F ?N ?X ?T rfl ?d rfl ?u ?_; (case hz => with_reducible assumption); (case hn => with_reducible assumption); walk_at "mine use"; intro t1' h' tk' F' N'; (try k_sweep)))
theorem dec_spec (w : World) (x : Str) (t : Tok) (q : List Tk) (hq : q ≠ []) (ho : OkT q) (hc : Calm q) (hxq : cs x = wr e2 q) (hx : x.length ≤ 600) : Fn w 700 210 [.str x t] (fun _ => True)
    (fun _ v => ∃ t, v = .str ⟨(decAns q).toArray⟩ t) := by
  w_on
  refine' enter_fn [(Str.ofString "encoded", .str x t), (Str.ofString "eol", .str (Str.ofString "\n") 482)] ?k6 ?k7 ?k8 ?k9 ?kB ?c2 ?c3 ?c4 ?c5 ?_
  (((case k6 => k_is); (case k7 => k_is); (case k8 => decide); (case k9 => first | (intro _ _; exact BindsTo.of_eq rfl) | (intro _ X9; exact binds_K X9 rfl (by k_is) rfl rfl rfl)); (case c5 => decide); (case kB => exact locs rfl); (case c2 => exact rfl); (case c3 => exact rfl); (case c4 => exact rfl)))
  intro s h₁ L tk mean mg mb Q X T _ F N hR
  (repeat' ((fail_if_success (with_reducible show wpAny _ _ (exec (Stmt.While _ _ _ _) _) _ _ _)); first | (k_unfold; (try dsimp only)) | walk1 | (dsimp only; walk1)))
  · (rename List.map _ _ = Txt.lines _ => hsp)
    (with_reducible rename Fr _ _ _ _ => F1)
    (with_reducible rename News _ _ _ _ => N1)
    have hl1 := News.isList N1 (List.Mem.head _)
    have hyl0 : (Txt.lines x).map cs = (linesT q).map (wr e2) := by
      rw [lines_list x (by rw [hxq]; exact lb_e2 ho), hxq, lines_e2]
    refine iter_strsN (L := L) (ys := Txt.lines x) [Str.ofString "line", Str.ofString "decoded", Str.ofString "i", Str.ofString "n", Str.ofString "c"] (fun i m => ∃ t, m (Str.ofString "decoded") = some (.str ⟨(decAcc ((linesT q).take i)).toArray⟩ t)) rfl rfl hl1 ?_ (N1 _ (List.Mem.head _)).2.1 F1 N1 ⟨_, rfl⟩ ?_ ?_
    · rw [← hsp]; exact strsAre_of_values _
    · rintro I i y ty m₁ own h tk' hy hm ⟨td, hd⟩ F2 N2
      obtain ⟨l, hli, hyl⟩ := lines_get hyl0 hy
      have hlm := lines_mem (List.mem_of_getElem? hli)
      have hol : OkT l := okT_mono ho fun t ht => (hlm t ht).1
      have hr := rstrip_line hyl hol fun t ht => (hlm t ht).2
      have hrl := rstrip_len y
      have hyl2 := line_short (List.mem_of_getElem? hy)
      have hDl := decAcc_len q i
      have hol' : OkT (stripT l) := okT_mono hol (stripT_sub l)
      rw [← hxq, cs_len] at hDl
      have hst : decAcc ((linesT q).take (i + 1)) = decAcc ((linesT q).take i) ++ (stripT l).map (·.1) ++ [10] := by
        rw [take_succ_get hli, decAcc_snoc]
      rw [hst]
      clear hst
      clear hl1 F1 N1 hsp hyl0 hlm hyl hol hli hy
      have hDs : (⟨(decAcc ((linesT q).take i)).toArray⟩ : Str).length ≤ 1000 := by
        simp only [Str.length, List.size_toArray]; omega
      generalize decAcc ((linesT q).take i) = D at *
      refine let_ov1 [(Str.ofString "line", m₁ (Str.ofString "line")), (Str.ofString "decoded", some (.str ⟨D.toArray⟩ td)), (Str.ofString "i", m₁ (Str.ofString "i")), (Str.ofString "n", m₁ (Str.ofString "n")), (Str.ofString "c", m₁ (Str.ofString "c"))] F2 (by simp [hd]) hm rfl ?_
      clear F2
      intro mA F2
      clear hm hd
      have hyb : y.length ≤ 1000 := by omega
      have hrb : (Txt.rstrip y).length ≤ 1000 := by omega
      have hLb := wr_len e2_ne (stripT l)
      rw [← hr, cs_len] at hLb
      generalize stripT l = l' at *
      clear hyl2 hDl hrl
      (repeat' ((fail_if_success (with_reducible show wpAny _ _ (exec (Stmt.While _ _ _ _) _) _ _ _)); first | (k_unfold; (try dsimp only)) | walk1 | (dsimp only; walk1)))
      · have hl0 : l'.length ≠ 0 := by
          intro q
          rw [List.length_eq_zero_iff.mp q] at hr
          have := cs_nil.mp hr
          omega
        refine while_names (L := L) [Str.ofString "decoded", Str.ofString "i", Str.ofString "c"] (fun n m => ∃ k ti td, k + n = l'.length ∧ m (Str.ofString "i") = some (.int (dI l' k) ti) ∧ m (Str.ofString "decoded") = some (.str ⟨(dD D l' k).toArray⟩ td)) (n₀ := l'.length) (by with_reducible assumption) (by with_reducible assumption) ⟨0, _, td, by omega, rfl, by rw [dD_zero hl0]; rfl⟩ ?_
        rintro n m₂ h tk2 hm ⟨k, ti, td, hk, hmi, hmd⟩ F2 N2
        refine let_ov [(Str.ofString "decoded", some (.str ⟨(dD D l' k).toArray⟩ td)), (Str.ofString "i", some (.int (dI l' k) ti)), (Str.ofString "c", m₂ (Str.ofString "c"))] F2 (by simp [hmi, hmd]) hm rfl ?_
        clear F2
        intro mA F2
        clear hm hmi hmd
        have hdl := dD_len D l' k
        have hDl2 : D.length ≤ 1000 := by simpa [Str.length] using hDs
        have hdb : (⟨(dD D l' k).toArray⟩ : Str).length ≤ 3000 := by
          simp only [Str.length, List.size_toArray] at hrb ⊢; omega
        have hrn := congrArg List.length hr
        rw [cs_len] at hrn
        rcases Nat.lt_or_ge k l'.length with hkl | hkl
        · have htk := List.getElem?_eq_getElem hkl
          generalize l'[k] = t0 at htk
          have hat := wr_at htk
          rw [← hr] at hat
          have hok := hol' t0 (List.mem_of_getElem? htk)
          have hDk := dD_succ (D := D) htk
          have hIk := dI_succ htk
          have hle := dI_le l' (k + 1)
          rcases e2_form t0 with ⟨hn61, he⟩ | he
          · rw [he] at hat hIk
            have hit := item_at hat (i := (dI l' k : Int)) rfl
            have hne := ne_eq_sign hn61
            rw [← hit] at hne
            simp only [List.length_cons, List.length_nil] at hIk
            have hend := dI_end hkl
            have hend' : k + 1 = l'.length ↔ (dI l' k : Int) + 1 = (Txt.rstrip y).length := by rw [hrn, ← hend, hIk]; omega
            have hlt1 : (dI l' k : Int) + 1 ≤ (Txt.rstrip y).length := by omega
            clear hend hle hdl hDl2
            (repeat' ((fail_if_success (with_reducible show wpAny _ _ (exec (Stmt.While _ _ _ _) _) _ _ _)); first | (k_unfold; (try dsimp only)) | walk1 | (dsimp only; walk1)))
            · exact WT.of (n - 1) (by k_asm) (by k_asm) (fun p hp => hp) (by omega) (by (repeat (first | exact fun _ _ => rfl | exact off_all | refine off_put (by decide) ?_ | refine off_sub (by kernel_rfl) ?_))) ⟨k + 1, _, _, by omega, int_of (x := (dI l' k : Int) + 1) (by omega), path_of (st_end hDk hit (hend'.mpr (by assumption)))⟩
            · exact WT.of (n - 1) (by k_asm) (by k_asm) (fun p hp => hp) (by omega) (by (repeat (first | exact fun _ _ => rfl | exact off_all | refine off_put (by decide) ?_ | refine off_sub (by kernel_rfl) ?_))) ⟨k + 1, _, _, by omega, int_of (x := (dI l' k : Int) + 1) (by omega), path_of (st_mid hDk hit (fun z => absurd (hend'.mp z) (by assumption)))⟩
          · rw [he] at hat hIk
            have hit := item_at hat (i := (dI l' k : Int)) rfl
            have hne := eq_eq_sign
            rw [← hit] at hne
            simp only [hex2, List.length_cons, List.length_nil] at hIk
            have hend := dI_end hkl
            have hend' : k + 1 = l'.length ↔ (dI l' k : Int) + 3 = (Txt.rstrip y).length := by rw [hrn, ← hend, hIk]; omega
            have hlt3 : (dI l' k : Int) + 3 ≤ (Txt.rstrip y).length := by omega
            have hno1 : ¬ (dI l' k : Int) + 1 = (Txt.rstrip y).length := by omega
            have hd1 := item_at (i := (dI l' k : Int) + 1) (a := wr e2 (l'.take k) ++ [61]) (c := hexD (t0.1 / 16)) (b := hexD (t0.1 % 16) :: wr e2 (l'.drop (k + 1))) (by rw [hat]; simp [hex2]) (by simp [dI])
            have hd2 := item_at (i := (dI l' k : Int) + 2) (a := wr e2 (l'.take k) ++ [61, hexD (t0.1 / 16)]) (c := hexD (t0.1 % 16)) (b := wr e2 (l'.drop (k + 1))) (by rw [hat]; simp [hex2]) (by simp [dI])
            have ho1 := occ_in hd1 (hexdig _ (by omega))
            have ho2 := occ_in hd2 (hexdig _ (by omega))
            have hsl := slice3 hat (i := (dI l' k : Int)) rfl
            have h256 := hok.1
            clear hend hle hdl hDl2 hd1 hd2
            (repeat' ((fail_if_success (with_reducible show wpAny _ _ (exec (Stmt.While _ _ _ _) _) _ _ _)); first | (k_unfold; (try dsimp only)) | walk1 | (dsimp only; walk1)))
            · exact absurd (by assumption) hno1
            · exact WT.of (n - 1) (by k_asm) (by k_asm) (fun p hp => hp) (by omega) (by (repeat (first | exact fun _ _ => rfl | exact off_all | refine off_put (by decide) ?_ | refine off_sub (by kernel_rfl) ?_))) ⟨k + 1, _, _, by omega, int_of (x := (dI l' k : Int) + 3) (by omega), path_of (st_end hDk rfl (hend'.mpr (by assumption)))⟩
            · exact WT.of (n - 1) (by k_asm) (by k_asm) (fun p hp => hp) (by omega) (by (repeat (first | exact fun _ _ => rfl | exact off_all | refine off_put (by decide) ?_ | refine off_sub (by kernel_rfl) ?_))) ⟨k + 1, _, _, by omega, int_of (x := (dI l' k : Int) + 3) (by omega), path_of (st_mid hDk rfl (fun z => absurd (hend'.mp z) (by assumption)))⟩
        · have hkl' : k = l'.length := by omega
          subst hkl'
          have hie : (dI l' l'.length : Int) = (Txt.rstrip y).length := by
            rw [hrn]; exact (dI_end (Nat.le_refl _)).mpr rfl
          (repeat' ((fail_if_success (with_reducible show wpAny _ _ (exec (Stmt.While _ _ _ _) _) _ _ _)); first | (k_unfold; (try dsimp only)) | walk1 | (dsimp only; walk1)))
          exact TE.names0 (by simp) (by k_asm) (by k_asm) (by (repeat (first | exact fun _ _ => rfl | exact off_all | refine off_put (by decide) ?_ | refine off_sub (by kernel_rfl) ?_))) ⟨_, path_of (congrArg (fun z : List Nat => (⟨z.toArray⟩ : Str)) (dD_end D l'))⟩
      · have hl0 : l' = [] := by
          have : wr e2 l' = [] := by rw [← hr]; exact cs_nil.mpr (by omega)
          exact (wr_eq_nil e2_ne _).mp this
        subst hl0
        exact TE.names0 (by simp) (by k_asm) (by k_asm) (by (repeat (first | exact fun _ _ => rfl | exact off_all | refine off_put (by decide) ?_ | refine off_sub (by kernel_rfl) ?_))) ⟨_, path_of (st_nl D)⟩
    · rintro m₁ h tk' hm ⟨td, hd⟩ F2 N2
      have hlen : (linesT q).length = (Txt.lines x).length := by have := congrArg List.length hyl0; simpa using this.symm
      rw [← hlen, List.take_length] at hd
      obtain ⟨d1, d2, d3, d4⟩ := dec_last hq hc ho
      rw [← hxq] at d2 d3 d4
      have hDl := decAcc_len q (linesT q).length
      rw [List.take_length, ← hxq, cs_len, d1] at hDl
      rw [d1] at hd
      refine let_ov [(Str.ofString "line", m₁ (Str.ofString "line")), (Str.ofString "decoded", some (.str ⟨(decT q).toArray⟩ td)), (Str.ofString "i", m₁ (Str.ofString "i")), (Str.ofString "n", m₁ (Str.ofString "n")), (Str.ofString "c", m₁ (Str.ofString "c"))] F2 (by simp [hd]) hm rfl ?_
      clear F2
      intro mA F2
      clear hl1 F1 N1 hsp hm hd hyl0 hlen d1
      have hDs : (⟨(decT q).toArray⟩ : Str).length ≤ 1000 := by
        simp only [Str.length, List.size_toArray]; omega
      have hx0 : x.length ≠ 0 := by omega
      have hxb : x.length ≤ 1000 := by omega
      (repeat' ((fail_if_success (with_reducible show wpAny _ _ (exec (Stmt.While _ _ _ _) _) _ _ _)); first | (k_unfold; (try dsimp only)) | walk1 | (dsimp only; walk1)))
      · have hn := d4 (fun z => nl_no hx0 (by assumption) (.inl z))
        exact hR _ _ _ _ _ (by k_asm) (by k_asm) (str_of (by rw [← hn.2]; exact slice_but _))
      · have hn := d4 (fun z => nl_no hx0 (by assumption) (.inl z))
        have he := (ends_one (x := ⟨(decT q).toArray⟩) (y := Str.ofString "\n") (c := 10) (by decide)).mpr hn.1
        exact absurd (he.symm.trans (by assumption : _ = false)) (by decide)
      · have hn := (nl_yes hx0 (by assumption)).resolve_right d3
        exact hR _ _ _ _ _ (by k_asm) (by k_asm) (str_of (by rw [d2 hn]))
  · exact absurd (by rw [← hxq]; exact cs_nil.mpr (by omega)) (fun z => hq ((wr_eq_nil e2_ne q).mp z))
end Mine
end

section
open PySem PySem.W PyProof.Rows PySem.Calls PySem.Builtin PySem.Builtin.Re
set_option maxRecDepth 100000
set_option maxHeartbeats 0
namespace Mine
section
variable {prog : Program} {w : World} {A : Around} {E : Value → Shared → Prop} {s : Shared}
theorem whole_target {y : Str} {t : Tok} {Q : ReTarget → Shared → Prop} (hp : s.heap.get? 151 = some patO) (hc : s.heap.get? 150 = some codO)
    (h : Q ⟨.ref 151, .str y t, codeR, y.cps, 0, 0, 0, y.cps.size⟩ s) : wpAny (model prog w) A (reWholeTarget (.ref 151) (.str y t)) Q E s := by
  unfold reWholeTarget
  repeat (any_goals (first | assumption | wp_step))
  refine cast ?_ h
  kernel_rfl
theorem upd_push {M : Model} {h₀ : Heap} {L P : Addr} {m : Str → Option Value} {rest : List (Addr × Obj)} {ts : List Value} {n : Nat} {v : Value} {Q : Unit → Shared → Prop} (F : Fr h₀ L s.heap m) (N : News h₀ L s.heap ((P, W.listOf ts.toArray n) :: rest)) (hne : ∀ q ∈ rest, q.1 ≠ P) (hts : ts.length ≤ 1000000)
    (h : ∀ h', Fr h₀ L h' m → News h₀ L h' ((P, W.listOf (ts ++ [v]).toArray (n + 1)) :: rest) → Q () { s with heap := h' }) : wpAny M A (updateSeq P (·.push v)) Q E s := by
  have z := N _ (.head _)
  have ho := N.get (.head _)
  have hs1 : ts.toArray.size ≤ sizeLine := by rw [sizeLine_eq]; simp only [List.size_toArray]; omega
  refine wpAny_updateSeq ho rfl (h _ (F.change (Heap.SameBut.update ..) z.2.1 z.2.2) ?_)
  have e : ts.toArray.push v = (ts ++ [v]).toArray := by simp
  intro q hq
  rcases List.mem_cons.mp hq with rfl | hq
  · refine ⟨?_, z.2⟩
    rw [Heap.get?_update_self _ ho (by rw [mapSeq_push]; rfl), mapSeq_push, e]
  · have zq := N q (.tail _ hq)
    exact ⟨((Heap.SameBut.update ..).2 q.1 (hne q hq)).trans zq.1, zq.2⟩
noncomputable def loopArgs (y : Str) (t : Tok) (n : Int) (p : Nat) (P : Addr) : Args := ⟨[.ref 151, .str y t, .ref 217, rawInt 1, rawInt 0, rawInt n, rawInt (p : Nat), rawInt (p : Nat), .bool false, .ref P, .bool false], []⟩
theorem sub_run {y : Str} {t : Tok} {f : Obj} {R : PySem.Fin → Shared → Prop} (hp : s.heap.get? 151 = some patO) (hc : s.heap.get? 150 = some codO) (hP : s.heap.get? 217 = some f) (hf : f.cls = .type "function")
    (h : R (.again (.builtin "re.Pattern.sub.loop" (loopArgs y t 0 0 s.heap.objs.size))) { s with heap := s.heap.push (W.listOf #[] 0) }) :
    wpAny (model prog w) A (Builtin.«re.Pattern.sub» ⟨[.ref 151, .ref 217, .str y t], []⟩) R E s := by
  have hT2 : s.TypeIs (.ref 217) "function" := ⟨_, hP, hf⟩
  have f1 : typeLookup (.type "function") (Str.ofString "__call__") = pure (some (.builtin "function.__call__")) := by rw [typeLookup_type, builtinLookup_eq_fast]; kernel_rfl
  have f2 : isSubtype (.type "str") (.type "bytearray") = pure false := by rw [isSubtype_type]; kernel_rfl
  unfold Builtin.«re.Pattern.sub» reSubstitute
  repeat (any_goals (first | assumption | ((with_reducible show wpAny _ _ (reWholeTarget _ _) _ _ _); refine whole_target (by assumption) (by assumption) ?_) | wp_step))
theorem loop_none {y : Str} {t : Tok} {n : Int} {p : Nat} {P : Addr} {R : PySem.Fin → Shared → Prop} {h₀ : Heap} {L : Addr} {m : Str → Option Value} {rest : List (Addr × Obj)} {ts : List Value} {k : Nat} (hp : s.heap.get? 151 = some patO) (hc : s.heap.get? 150 = some codO)
    (F : Fr h₀ L s.heap m) (N : News h₀ L s.heap ((P, W.listOf ts.toArray k) :: rest)) (hne : ∀ q ∈ rest, q.1 ≠ P) (hts : ts.length ≤ 1000000) (hsz : y.length ≤ 10000) (hpl : p ≤ y.cps.size)
    (hn : ∀ i, p ≤ i → i < y.cps.size → y.cps.getD i 0 ≠ 61) (h0 : ts ≠ [] ∨ p < y.cps.size)
    (h : ∀ ts' k' h', (ts' = ts ∧ p = y.cps.size ∨ ∃ t1, ts' = ts ++ [.str ⟨y.cps.extract p y.cps.size⟩ t1]) → Fr h₀ L h' m → News h₀ L h' ((P, W.listOf ts'.toArray k') :: rest) → ∀ u tk'', wpAny (model prog w) A (call (.builtin "str.join") [.str ⟨y.cps.extract 0 0⟩ u, .ref P]) (fun v s' => R (.done (.ret v)) s') E { s with heap := h', toks := tk'' }) :
    wpAny (model prog w) A (Builtin.«re.Pattern.sub.loop» (loopArgs y t n p P)) R E s := by
  have hyl : y.cps.size = y.length := rfl
  have e0 := ext_len y 0 0
  have e1 := ext_len y p y.cps.size
  have key : ∀ (ts' : List Value) (k' : Nat) (h' : Heap) (tk' : Nat), (ts' = ts ∧ p = y.cps.size ∨ ∃ t1, ts' = ts ++ [.str ⟨y.cps.extract p y.cps.size⟩ t1]) → Fr h₀ L h' m → News h₀ L h' ((P, W.listOf ts'.toArray k') :: rest) →
      wpAny (model prog w) A (do
        let joiner ← reSlice y.cps 0 0 0
        let text ← if ((← seqItems? (.ref P)).getD #[]).isEmpty then pure joiner
          else call (.builtin "str.join") [joiner, .ref P]
        ret text) R E { s with heap := h', toks := tk' } := by
    intro ts' k' h' tk' ho F' N'
    have hP := N'.get (.head _)
    have hemp : ts'.toArray.isEmpty = false := by
      rcases ho with ⟨e, e'⟩ | ⟨t1, e⟩
      · rw [e]
        rcases h0 with q | q
        · simpa using q
        · omega
      · rw [e]; simp
    refine wpAny_bind (wpAny_mkStr ?_ (by rw [sizeLine_eq]; omega))
    refine wpAny_bind (wpAny_bind (wpAny_load (o := W.listOf ts'.toArray k') hP (wpAny_pure ?_)))
    dsimp only [W.listOf, Option.getD]
    rw [if_neg (by rw [hemp]; exact Bool.false_ne_true)]
    exact wpAny_bind (wpAny_mono (h ts' k' h' ho F' N' _ _) (fun v s' hv => wpAny_pure hv) fun _ _ e => e)
  unfold Builtin.«re.Pattern.sub.loop» loopArgs
  repeat (any_goals (first | assumption | ((with_reducible show wpAny _ _ (reWholeTarget _ _) _ _ _); refine whole_target (by assumption) (by assumption) ?_) | ((with_reducible show wpAny _ _ (reNextFound _ _ _) _ _ _); refine next_none (s := s) hsz (p := p) hpl hn ?_) | wp_step))
  by_cases hlt : p < y.cps.size
  · refine wpAny_ite_true (decide_eq_true hlt) ?_
    refine wpAny_bind (wpAny_mkStr ?_ (by rw [sizeLine_eq]; exact Nat.le_trans e1 (by omega)))
    refine wpAny_bind (upd_push F N hne hts fun h' F' N' => ?_)
    exact key _ _ _ _ (.inr ⟨_, rfl⟩) F' N'
  · refine wpAny_ite_false (decide_eq_false hlt) ?_
    exact key _ _ _ _ (.inl ⟨rfl, by omega⟩) F N
theorem loop_hit {y : Str} {t : Tok} {n : Int} {p q : Nat} {P : Addr} {z : Str} {R : PySem.Fin → Shared → Prop} {h₀ : Heap} {L : Addr} {m : Str → Option Value} {rest : List (Addr × Obj)} {ts : List Value} {k : Nat} (hp : s.heap.get? 151 = some patO) (hc : s.heap.get? 150 = some codO)
    (F : Fr h₀ L s.heap m) (N : News h₀ L s.heap ((P, W.listOf ts.toArray k) :: rest)) (hne : ∀ q ∈ rest, q.1 ≠ P) (hts : ts.length ≤ 100000) (hsz : y.length ≤ 10000) (hpq : p ≤ q)
    (hnext : ∀ (A : Around) (E : Value → Shared → Prop) (s : Shared) (Q : Option Sre.M → Shared → Prop), (∀ m, Found m q → Q (some m) s) → wpAny (model prog w) A (reNextFound ⟨.ref 151, .str y t, codeR, y.cps, 0, 0, 0, y.cps.size⟩ ((p : Nat) : Int).toNat false) Q E s)
    (hcall : ∀ (s : Shared) (a b : Addr) (ts : List Value) (k : Nat) (Q : Value → Shared → Prop), s.heap.get? a = some (matO y t b) → s.heap.get? b = some (spanO q) → Fr h₀ L s.heap m → News h₀ L s.heap ((P, W.listOf ts.toArray k) :: rest) →
      (∀ t1 h' tk', Fr h₀ L h' m → News h₀ L h' ((P, W.listOf ts.toArray k) :: rest) → Q (.str z t1) { s with heap := h', toks := tk' }) → wpAny (model prog w) A (call (.ref 217) [.ref a]) Q E s)
    (h : ∀ ts' k' h' tk' t2, (ts' = ts ++ [.str z t2] ∧ p = q ∨ ∃ t1, ts' = ts ++ [.str ⟨y.cps.extract p q⟩ t1] ++ [.str z t2]) → Fr h₀ L h' m → News h₀ L h' ((P, W.listOf ts'.toArray k') :: rest) → R (.again (.builtin "re.Pattern.sub.loop" (loopArgs y t (n + 1) (q + 3) P))) { s with heap := h', toks := tk' }) :
    wpAny (model prog w) A (Builtin.«re.Pattern.sub.loop» (loopArgs y t n p P)) R E s := by
  have e1 := ext_len y p q
  unfold Builtin.«re.Pattern.sub.loop» loopArgs
  repeat (any_goals (first | assumption | ((with_reducible show wpAny _ _ (reWholeTarget _ _) _ _ _); refine whole_target (by assumption) (by assumption) ?_) | ((with_reducible show wpAny _ _ (reNextFound _ _ _) _ _ _); refine hnext _ _ _ _ ?_; intro m' hm) | wp_step))
  rw [hm.start, hm.handed]
  by_cases hlt : p < q
  · refine wpAny_ite_true (decide_eq_true hlt) ?_
    refine wpAny_bind (wpAny_mkStr ?_ (by rw [sizeLine_eq]; exact Nat.le_trans e1 (by omega)))
    refine wpAny_bind (upd_push F N hne (by omega) fun h' F' N' => ?_)
    repeat (any_goals (first | assumption | ((fail_if_success (with_reducible show wpAny _ _ (call (Value.ref 217) _) _ _ _)); wp_step)))
    rw [hm.start, hm.handed, hm.index]
    refine hcall _ _ h'.objs.size _ _ _ (Heap.get?_push_size _ rfl) (Heap.get?_push_of_some _ (Heap.get?_push_size _ rfl)) ((F'.push _).push _) (fun p hp => ⟨Heap.get?_push_of_some _ (Heap.get?_push_of_some _ (N' p hp).1), (N' p hp).2⟩) ?_
    intro t1 h2 tk2 F2 N2
    refine wpAny_ite_true (by kernel_rfl) ?_
    refine wpAny_bind (upd_push F2 N2 hne (by simp only [List.length_append, List.length_cons, List.length_nil]; omega) fun h3 F3 N3 => ?_)
    have eb : (q + 3 == q) = false := by simp
    rw [eb]
    exact wpAny_pure (h _ _ h3 tk2 t1 (.inr ⟨_, rfl⟩) F3 N3)
  · have F' := F
    have N' := N
    refine wpAny_ite_false (decide_eq_false hlt) ?_
    repeat (any_goals (first | assumption | ((fail_if_success (with_reducible show wpAny _ _ (call (Value.ref 217) _) _ _ _)); wp_step)))
    rw [hm.start, hm.handed, hm.index]
    refine hcall _ _ s.heap.objs.size _ _ _ (Heap.get?_push_size _ rfl) (Heap.get?_push_of_some _ (Heap.get?_push_size _ rfl)) ((F'.push _).push _) (fun p hp => ⟨Heap.get?_push_of_some _ (Heap.get?_push_of_some _ (N' p hp).1), (N' p hp).2⟩) ?_
    intro t1 h2 tk2 F2 N2
    refine wpAny_ite_true (by kernel_rfl) ?_
    refine wpAny_bind (upd_push F2 N2 hne (by omega) fun h3 F3 N3 => ?_)
    have eb : (q + 3 == q) = false := by simp
    rw [eb]
    exact wpAny_pure (h _ _ h3 tk2 t1 (.inl ⟨rfl, by omega⟩) F3 N3)
end
end Mine
end

section
open PySem PySem.W PyProof.Rows PySem.Calls
set_option maxRecDepth 100000
set_option maxHeartbeats 0
namespace Mine
theorem kfill7 : Challenge.rw_pd0176_01.name = Challenge.rw_pd0176_01.name ∨ ∀ P, MineHd.K P = MineHd.K P := by
  k_fill
  exact .inl rfl
local macro_rules | `(tactic| walk_at "call ref") => `(tactic| ((with_reducible show wpAny _ _ (call (Value.ref 174) _) _ _ _); refine' use_unquote ?hz ?hn ?F ?N ?X ?T rfl ?d rfl ?u ?_; (case hz => with_reducible assumption); (case hn => with_reducible assumption); walk_at "mine use"; intro t1' h' tk' F' N'; (try k_sweep)))
local macro_rules | `(tactic| walk_at "getMethod ref") => `(tactic| (refine group_method (by with_reducible assumption) ?_))
local macro_rules | `(tactic| walk_at "call builtin:re.Match.group") => `(tactic| (refine group_call (by with_reducible assumption) (by with_reducible assumption) (by omega) ?_; intro t' k'))
theorem obj_K {K : Frag} {h : Heap} {a : Addr} {o : Obj} (X : K.In h) (hl : K.lookup a = some o) : h.get? a = some o := X _ _ hl
theorem pat_K {w : World} {h : Heap} (X : (MineHd.K w.params).In h) : h.get? 151 = some patO := by
  refine' obj_K X ?l
  case l => k_is
theorem cod_K {w : World} {h : Heap} (X : (MineHd.K w.params).In h) : h.get? 150 = some codO := by
  refine' obj_K X ?l
  case l => k_is
theorem um_spec (w : World) (y : Str) (t : Tok) (a b : Addr) (p c : Nat) (hc : c < 256) (hy : y.length ≤ 10000) (he : (⟨y.cps.extract p (p + 3)⟩ : Str) = ⟨(61 :: hex2 c).toArray⟩) :
    Fn w 850 217 [.ref a] (fun h => h.get? a = some (matO y t b) ∧ h.get? b = some (spanO p)) (fun _ v => ∃ t, v = .str ⟨#[c]⟩ t) := by
  w_on
  refine' enter_fn [(Str.ofString "match", .ref a)] ?k6 ?k7 ?k8 ?k9 ?kB ?c2 ?c3 ?c4 ?c5 ?_
  (((case k6 => k_is); (case k7 => k_is); (case k8 => decide); (case k9 => first | (intro _ _; exact BindsTo.of_eq rfl) | (intro _ X9; exact binds_K X9 rfl (by k_is) rfl rfl rfl)); (case c5 => decide); (case kB => exact locs rfl); (case c2 => exact rfl); (case c3 => exact rfl); (case c4 => exact rfl)))
  intro s h₁ L tk mean mg mb Q X T pre F N hR
  obtain ⟨p1, p2⟩ := pre
  have q1 := F.keep _ _ p1
  have q2 := F.keep _ _ p2
  (repeat' (first | (k_unfold; (try dsimp only)) | walk1 | (dsimp only; walk1)))
  exact hR _ _ _ _ _ (by k_asm) (by k_asm) ⟨_, rfl⟩
theorem use_um {w : World} {A : Around} {E : Value → Shared → Prop} {Q : Value → Shared → Prop} {s : Shared} {h₀ : Heap} {L : Addr} {m mg mb : Str → Option Value}
    {mean : ExcName → Option Value} {news : List (Addr × Obj)} {y : Str} {t : Tok} {a b : Addr} {p c : Nat} (hc : c < 256) (hy : y.length ≤ 10000) (he : (⟨y.cps.extract p (p + 3)⟩ : Str) = ⟨(61 :: hex2 c).toArray⟩)
    (ha : s.heap.get? a = some (matO y t b)) (hb : s.heap.get? b = some (spanO p)) (F : Fr h₀ L s.heap m) (N : News h₀ L s.heap news) (X : (MineHd.K w.params).In h₀) (T : Top VW LS mean mg mb h₀)
    (h1 : A.handled = none) (h2 : A.depth ≤ 850) (h4 : A.guards = some []) (h5 : A.units ≤ 10 * 850)
    (h : ∀ t1 h' tk', Fr h₀ L h' m → News h₀ L h' news → Q (.str ⟨#[c]⟩ t1) { s with heap := h', toks := tk' }) :
    wpAny (model PR w) A (call (.ref 217) [.ref a]) Q E s := by
  refine use_fn (um_spec w y t a b p c hc hy he) F N X T h1 h2 h4 h5 ⟨ha, hb⟩ fun v h' tk' F' N' _ hv => ?_
  obtain ⟨t1, rfl⟩ := hv
  exact h t1 h' tk' F' N'
theorem sub_loop {w : World} {A : Around} {h₀ : Heap} {L P : Addr} {m mg mb : Str → Option Value} {mean : ExcName → Option Value} {y : Str} {t : Tok} {R : Result → Shared → Prop}
    (X : (MineHd.K w.params).In h₀) (T : Top VW LS mean mg mb h₀) (h1 : A.handled = none) (h2 : A.depth ≤ 850) (h4 : A.guards = some []) (h5 : A.units + 1 ≤ 10 * 850) (hy : y.length ≤ 1000) :
    ∀ (fuel : Nat) (r pre : List Nat) (s : Shared) (n : Int) (ts : List Value) (us : List Str) (k : Nat), r.length < fuel → cs y = pre.flatMap ptab ++ r.flatMap ptab → (∀ c ∈ r, c < 256) → pre ++ r ≠ [] →
      StrsAre ts us → us.flatMap cs = pre → ts.length ≤ 2 * pre.length → Fr h₀ L s.heap m → News h₀ L s.heap [(P, W.listOf ts.toArray k)] →
      (∀ t' h' tk' news', Fr h₀ L h' m → News h₀ L h' news' → R (.ok (.ret (.str ⟨(pre ++ r).toArray⟩ t'))) { s with heap := h', toks := tk' }) →
      codeAny (model PR w) A (.builtin "re.Pattern.sub.loop" (loopArgs y t n (pre.flatMap ptab).length P)) R s := by
  intro fuel
  induction fuel with
  | zero => intro r pre s n ts us k hr; exact absurd hr (Nat.not_lt_zero _)
  | succ fuel ih =>
    intro r pre s n ts us k hr hcs h256 hne hS hpre htl F N hR
    have hp := pat_K (X.keeps F.keep)
    have hc := cod_K (X.keeps F.keep)
    have hlen := size_cs y
    have hyl : y.cps.size = y.length := rfl
    have hprl : pre.length + r.length ≤ 1000 := by
      have a := ptab_len pre
      have b := ptab_len r
      have e := congrArg List.length hcs
      rw [List.length_append] at e
      omega
    refine codeAny_builtin entry_subloop ?_
    rw [Around.under_plainId (id := "re.Pattern.sub.loop") plain_subloop _]
    rcases first_hit r with hpl | ⟨a, c, b, rfl, hpl, hc1⟩
    · rw [plain_flat hpl] at hcs
      have hsz : y.cps.size = (pre.flatMap ptab).length + r.length := by rw [hlen, hcs, List.length_append]
      refine loop_none hp hc F N (fun _ h => nomatch h) (by omega) (by omega) (by omega) (by rw [hsz]; exact getD_plain (v := []) (by rw [hcs, List.append_nil]) rfl hpl) ?_ ?_
      · rcases pre with _ | ⟨z, pre⟩
        · refine .inr ?_
          have : r.length ≠ 0 := fun q => hne (by rw [List.length_eq_zero_iff.mp q]; rfl)
          omega
        · refine .inl ?_
          intro q
          rw [q] at hS
          cases hS
          cases hpre
      · intro ts' k' h' ho F' N' u tk''
        have hst : ∃ us', StrsAre ts' us' ∧ us'.flatMap cs = pre ++ r ∧ ts'.length ≤ 2 * pre.length + 1 := by
          rcases ho with ⟨rfl, e⟩ | ⟨t1, rfl⟩
          · have : r = [] := List.length_eq_zero_iff.mp (by omega)
            exact ⟨us, hS, by rw [hpre, this, List.append_nil], by omega⟩
          · have e := extract_mid (y := y) (a := r) (v := []) (by rw [hcs, List.append_nil]) rfl hsz
            rw [e]
            exact ⟨_, strsAre_snoc hS, by rw [List.flatMap_append, hpre]; simp [cs], by simp; omega⟩
        obtain ⟨us', hS', hf', hl'⟩ := hst
        have hw : (us'.map (·.length)).sum + us'.length ≤ 1048576 := by
          have e := hS'.length
          rw [flat_sum, hf', List.length_append]; omega
        have e0 : (⟨y.cps.extract 0 0⟩ : Str) = ⟨#[]⟩ := by apply cs_inj.mp; rw [extract_cs]; rfl
        rw [e0]
        refine join_listW (News.isList N' (List.Mem.head _)) hS' (by decide) hw ?_
        intro t' kk
        have ej : Txt.join ⟨#[]⟩ us' = ⟨(pre ++ r).toArray⟩ := by rw [join_nil, hf']
        rw [ej]
        exact hR _ _ _ _ F' N'
    · have hcl : c < 256 := h256 c (by simp)
      have hcs1 : cs y = (pre.flatMap ptab ++ a) ++ 61 :: hexD (c / 16) :: hexD (c % 16) :: b.flatMap ptab := by
        rw [hcs, List.flatMap_append, List.flatMap_cons, plain_flat hpl, hc1]
        simp [hex2]
      have hcs2 : cs y = (pre.flatMap ptab ++ a ++ [61]) ++ hexD (c / 16) :: hexD (c % 16) :: b.flatMap ptab := by rw [hcs1]; simp
      have hcs3 : cs y = (pre.flatMap ptab ++ a ++ [61, hexD (c / 16)]) ++ hexD (c % 16) :: b.flatMap ptab := by rw [hcs1]; simp
      have hsz : y.cps.size = (pre.flatMap ptab).length + a.length + 3 + (b.flatMap ptab).length := by rw [hlen, hcs1]; simp; omega
      have hq3 : (pre.flatMap ptab).length + a.length + 3 = ((pre ++ a ++ [c]).flatMap ptab).length := by
        rw [List.flatMap_append, List.flatMap_append, plain_flat hpl, List.flatMap_cons, hc1]
        simp [hex2]; omega
      have hex : (⟨y.cps.extract ((pre.flatMap ptab).length + a.length) ((pre.flatMap ptab).length + a.length + 3)⟩ : Str) = ⟨(61 :: hex2 c).toArray⟩ :=
        extract_mid (u := pre.flatMap ptab ++ a) (v := b.flatMap ptab) (by rw [hcs1]; simp [hex2]) (by simp) (by simp [hex2])
      refine loop_hit (q := (pre.flatMap ptab).length + a.length) (z := ⟨#[c]⟩) hp hc F N (fun _ h => nomatch h) (by omega) (by omega) (by omega) ?_ ?_ ?_
      · intro A E s Q hq
        rw [Int.toNat_natCast]
        refine next_one (n := a.length) (by omega) (by omega) (getD_plain (v := 61 :: hexD (c / 16) :: hexD (c % 16) :: b.flatMap ptab) hcs1 rfl hpl) (getD_mid hcs1 (by simp)) ?_ ?_ hq
        · rw [getD_mid hcs2 (by simp only [List.length_append, List.length_cons, List.length_nil])]; exact acc_hex (by omega)
        · rw [getD_mid hcs3 (by simp only [List.length_append, List.length_cons, List.length_nil])]; exact acc_hex (by omega)
      · intro s' a' b' ts' k' Q' ha hb F' N' hk
        exact use_um hcl (by omega) hex ha hb F' N' X T h1 h2 h4 h5 hk
      · intro ts' k' h' tk' t2 ho F' N'
        refine ⟨quiet_subloop _, ?_⟩
        rw [hq3]
        have hst : ∃ us', StrsAre ts' us' ∧ us'.flatMap cs = pre ++ a ++ [c] ∧ ts'.length ≤ 2 * pre.length + 2 := by
          rcases ho with ⟨rfl, e⟩ | ⟨t1, rfl⟩
          · have ha : a = [] := List.length_eq_zero_iff.mp (by omega)
            exact ⟨_, strsAre_snoc hS, by rw [List.flatMap_append, hpre, ha]; simp [cs], by simp; omega⟩
          · have e := extract_mid (y := y) (u := pre.flatMap ptab) (a := a) (v := 61 :: hexD (c / 16) :: hexD (c % 16) :: b.flatMap ptab) hcs1 rfl rfl
            rw [e]
            exact ⟨_, strsAre_snoc (strsAre_snoc hS), by rw [List.flatMap_append, List.flatMap_append, hpre]; simp [cs], by simp; omega⟩
        obtain ⟨us', hS', hf', hl'⟩ := hst
        refine ih b (pre ++ a ++ [c]) _ _ ts' us' k' (by simp only [List.length_append, List.length_cons] at hr; omega) (by rw [hcs1, List.flatMap_append, List.flatMap_append, plain_flat hpl]; simp [hc1, hex2]) (fun x hx => h256 x (by simp [hx])) (by simp) hS' hf' ?_ F' N' ?_
        · simp only [List.length_append, List.length_cons, List.length_nil]
          omega
        · intro t' h'' tk'' news' F'' N''
          have e : pre ++ a ++ [c] ++ b = pre ++ (a ++ c :: b) := by simp
          rw [e]
          exact hR t' h'' tk'' news' F'' N''
theorem fnK {K : Frag} {h : Heap} {a : Addr} {dd : Option Addr} {d : Data} {sl : Array (Option Value)} (X : K.In h) (hl : K.lookup a = some ⟨.type "function", dd, d, sl⟩) : ∃ f, h.get? a = some f ∧ f.cls = .type "function" := ⟨_, X _ _ hl, rfl⟩
theorem fn217_K {w : World} {h : Heap} (X : (MineHd.K w.params).In h) : ∃ f, h.get? 217 = some f ∧ f.cls = .type "function" := by
  refine' fnK X ?l
  case l => k_is
theorem sub_call {w : World} {A : Around} {E : Value → Shared → Prop} {Q : Value → Shared → Prop} {s : Shared} {h₀ : Heap} {L : Addr} {m mg mb : Str → Option Value} {mean : ExcName → Option Value} {news : List (Addr × Obj)} {y : Str} {t : Tok} {l : List Nat}
    (hcs : cs y = l.flatMap ptab) (hl : ∀ c ∈ l, c < 256) (hne : l ≠ []) (hy : y.length ≤ 1000) (F : Fr h₀ L s.heap m) (N : News h₀ L s.heap news)
    (X : (MineHd.K w.params).In h₀) (T : Top VW LS mean mg mb h₀) (h1 : A.handled = none) (h2 : A.depth ≤ 850) (h4 : A.guards = some []) (h5 : A.units + 1 ≤ 10 * 850)
    (h : ∀ t1 h' tk' news', Fr h₀ L h' m → News h₀ L h' news' → Q (.str ⟨l.toArray⟩ t1) { s with heap := h', toks := tk' }) :
    wpAny (model PR w) A (call (.builtin "re.Pattern.sub") [.ref 151, .ref 217, .str y t]) Q E s := by
  have hp := pat_K (X.keeps F.keep)
  have hc := cod_K (X.keeps F.keep)
  obtain ⟨f, hf, hfc⟩ := fn217_K (X.keeps F.keep)
  refine wpAny_call (codeAny_call_builtin slot_sub.plain entry_sub (slot_sub.check _ _ _ _ _ _ _ _ ⟨_, hp, rfl⟩ (args_sub _ _ _) ?_))
  refine sub_run hp hc hf hfc ⟨quiet_subloop _, ?_⟩
  have key := sub_loop (P := s.heap.objs.size) (t := t) (R := wants Q E) X T h1 h2 h4 h5 hy (l.length + 1) l [] { s with heap := s.heap.push (W.listOf #[] 0) } 0 [] [] 0 (Nat.lt_succ_self _) hcs hl hne .nil rfl (Nat.le_refl _) (F.push _) ?_ ?_
  · exact key
  · intro p hp'
    have N' := News.push F N (W.listOf #[] 0)
    rw [List.mem_singleton.mp hp']
    exact N' _ (.head _)
  · intro t' h' tk' news' F' N'
    exact h t' h' tk' news' F' N'
/-- as enter_fn; and the frame's tokens are drawn -/
theorem enter_fnT {w : World} {n : Nat} {f : Addr} {args : List Value} {Pre : Heap → Prop} {Post : Heap → Value → Prop}
    {name qual : Str} {params : Arguments} {body : List Stmt} {scope : Scope} {dV kV doc pm cdv ct oc : Value} {an od : Option Addr} {osl : Array (Option Value)} (binds : List (Str × Value))
    (ho : (MineHd.K w.params).lookup f = some ⟨oc, od, .func (fnOf name qual params body scope dV kV doc pm an cdv ct), osl⟩) (hcd : codeIn (MineHd.K w.params) cdv qual = true) (hroom : n < recursionLimit)
    (hbind : ∀ s : Shared, (MineHd.K w.params).In s.heap → BindsTo s (fnOf name qual params body scope dV kV doc pm an cdv ct) ⟨args, []⟩ binds) (hloc : ∀ y ∈ binds, scope.names.lookup y.1 = some .local)
    (hco : scope.isCoroutine = false) (hgen : scope.isGenerator = false) (hk : scope.kind = .function)
    (hcell : ∀ x ∈ scope.names, x.2 ≠ .cell)
    (h : ∀ (s : Shared) (h₁ : Heap) (L : Addr) (tk : Nat) (mean : ExcName → Option Value) (mg mb : Str → Option Value) (Q : Flow → Shared → Prop), binds.length ≤ tk → (MineHd.K w.params).In s.heap → Top VW LS mean mg mb s.heap → Pre s.heap → Fr s.heap L h₁ (fun y => binds.reverse.lookup y) → News s.heap L h₁ [] →
      (∀ v h' tk' m' news', Fr s.heap L h' m' → News s.heap L h' news' → Post h' v → Q (.ret v) { s with heap := h', toks := tk' }) →
      wpAny (model PR w) ((Ar n).deeper (envOf qual scope L f cdv)) (execs body (envOf qual scope L f cdv)) Q (fun _ _ => False) { s with heap := h₁, toks := tk }) : Fn w n f args Pre Post := by
  intro s mean mg mb R X T pre hR
  refine codeAny_call_def (fd := fnOf name qual params body scope dV kV doc pm an cdv ct) (body := body) (binds := binds) hroom (X _ _ ho) rfl T.nolimit (codeRec_of X hcd) rfl (hbind s X) hcell hloc (fun h₁ hns hk₁ => ?_) hco hgen hk
  refine wpAny_mono (h s h₁ s.heap.objs.size _ mean mg mb (fun fl s' => R (.ok (.ret (match fl with | .ret v => v | _ => .none))) s') (Nat.le_add_left _ _) X T pre ⟨hns, hk₁, Nat.le_refl _⟩ News.nil ?_) (fun _ _ x => x) (fun _ _ x => x.elim)
  intro v h' tk' m' news' F' _ hp
  exact hR v h' tk' F'.keep hp
local macro_rules | `(tactic| walk_at "getMethod ref") => `(tactic| (refine sub_method (pat_K (Frag.In.keeps (by k_asm) (Fr.keep (by k_asm)))) ?_))
local macro_rules | `(tactic| walk_at "call builtin:str.replace") => `(tactic| ((try dsimp only); refine SC.replaceW (by (show @Ne Nat _ _); omega) (by (show @Ne Nat _ _); omega) (by (show @Ne Nat _ _); omega) (by decide) (by omega) (by decide) ?_; intro t' k'))
local macro_rules | `(tactic| walk_at "call builtin:re.Pattern.sub") => `(tactic| (refine' sub_call ?c1 ?c2 ?c3 ?c4 ?F ?N ?X ?T rfl ?d rfl ?u ?_; (case c1 => with_reducible assumption); (case c2 => with_reducible assumption); (case c3 => with_reducible assumption); (case c4 => with_reducible assumption); walk_at "mine use"; intro t1' h' tk' news' F' N'))
theorem hdec_spec (w : World) (x : Str) (t : Tok) (l : List Nat) (hcs : cs x = l.flatMap htab) (hl : ∀ c ∈ l, c < 256) (hne : l ≠ []) (hx : x.length ≤ 600) : Fn w 700 224 [.str x t] (fun _ => True)
    (fun _ v => ∃ t, v = .str ⟨l.toArray⟩ t) := by
  w_on
  refine' enter_fnT [(Str.ofString "s", .str x t)] ?k6 ?k7 ?k8 ?k9 ?kB ?c2 ?c3 ?c4 ?c5 ?_
  (((case k6 => k_is); (case k7 => k_is); (case k8 => decide); (case k9 => first | (intro _ _; exact BindsTo.of_eq rfl) | (intro _ X9; exact binds_K X9 rfl (by k_is) rfl rfl rfl)); (case c5 => decide); (case kB => exact locs rfl); (case c2 => exact rfl); (case c3 => exact rfl); (case c4 => exact rfl)))
  intro s h₁ L tk mean mg mb Q htk X T _ F N hR
  have htk1 : 1 ≤ tk := htk
  have hcs2 : cs (Txt.replace x (Str.ofString "_") (Str.ofString " ")) = l.flatMap ptab := by
    rw [replace_map x (c := 95) (d := 32) (by decide) (by decide), hcs]
    exact htabs_un l hl
  have hy2 : (Txt.replace x (Str.ofString "_") (Str.ofString " ")).length ≤ 1000 := by
    rw [← cs_len, replace_map x (c := 95) (d := 32) (by decide) (by decide), List.length_map, cs_len]; omega
  (repeat' (first | (k_unfold; (try dsimp only)) | walk1 | (dsimp only; walk1)))
  exact hR _ _ _ _ _ (by k_asm) (by k_asm) ⟨_, rfl⟩
end Mine
end

section
open PySem PySem.W PyProof.Rows PySem.Calls
set_option maxRecDepth 100000
set_option maxHeartbeats 0
namespace Mine
/-- the values tell the things -/
noncomputable def AreM {α : Type} (P : List (Addr × Obj) → Value → α → Prop) (made : List (Addr × Obj)) (vs : List Value) (xs : List α) : Prop :=
  vs.length = xs.length ∧ ∀ (i : Nat) (x : α), xs[i]? = some x → ∃ u, vs[i]? = some u ∧ P made u x
theorem AreM.nil {α : Type} {P : List (Addr × Obj) → Value → α → Prop} {made : List (Addr × Obj)} : AreM P made [] [] := ⟨rfl, fun i n h => by simp at h⟩
theorem AreM.snoc {α : Type} {P : List (Addr × Obj) → Value → α → Prop} {made : List (Addr × Obj)} {vs : List Value} {xs : List α} {u : Value} {x : α} (h : AreM P made vs xs) (hu : P made u x) : AreM P made (vs ++ [u]) (xs ++ [x]) := by
  refine ⟨by simp [h.1], fun i m hm => ?_⟩
  rcases Nat.lt_or_ge i xs.length with q | q
  · rw [List.getElem?_append_left q] at hm
    obtain ⟨u, hu⟩ := h.2 i m hm
    exact ⟨u, by rw [List.getElem?_append_left (by rw [h.1]; exact q)]; exact hu.1, hu.2⟩
  · rw [List.getElem?_append_right q] at hm
    have h0 : i - xs.length = 0 := by
      rcases hq : i - xs.length with _ | k
      · rfl
      · rw [hq] at hm; simp at hm
    rw [h0] at hm
    have : m = x := by simpa using hm.symm
    subst this
    exact ⟨u, by rw [List.getElem?_append_right (by rw [h.1]; exact q), h.1, h0]; rfl, hu⟩
theorem AreM.mono {α : Type} {P : List (Addr × Obj) → Value → α → Prop} {made made' : List (Addr × Obj)} {vs : List Value} {xs : List α} (hP : ∀ u x, P made u x → P made' u x) (h : AreM P made vs xs) : AreM P made' vs xs :=
  ⟨h.1, fun i x hx => by obtain ⟨u, h1, h2⟩ := h.2 i x hx; exact ⟨u, h1, hP u x h2⟩⟩
/-- the list at v, its items told by P -/
noncomputable def ListM {α : Type} (P : List (Addr × Obj) → Value → α → Prop) (made : List (Addr × Obj)) (v : Value) (xs : List α) : Prop :=
  ∃ a vs k, v = Value.ref a ∧ (a, W.listOf vs.toArray k) ∈ made ∧ AreM P made vs xs
theorem ListM.mono {α : Type} {P : List (Addr × Obj) → Value → α → Prop} {made made' : List (Addr × Obj)} {v : Value} {xs : List α} (hs : ∀ p ∈ made, p ∈ made') (hP : ∀ u x, P made u x → P made' u x) (h : ListM P made v xs) : ListM P made' v xs := by
  obtain ⟨a, vs, k, e, hm, ha⟩ := h
  exact ⟨a, vs, k, e, hs _ hm, ha.mono hP⟩
noncomputable def NatV (_ : List (Addr × Obj)) (v : Value) (n : Nat) : Prop := ∃ t, v = Value.int (n : Nat) t
noncomputable def StrV (_ : List (Addr × Obj)) (v : Value) (x : Str) : Prop := ∃ t, v = Value.str x t
noncomputable def TkV (made : List (Addr × Obj)) (v : Value) (x : Tk) : Prop := ∃ a t, v = Value.ref a ∧ (a, pairO x.1 t x.2) ∈ made
theorem TkV.mono {made made' : List (Addr × Obj)} {v : Value} {x : Tk} (hs : ∀ p ∈ made, p ∈ made') (h : TkV made v x) : TkV made' v x := by
  obtain ⟨a, t, e, hm⟩ := h
  exact ⟨a, t, e, hs _ hm⟩
noncomputable abbrev NatsM := ListM NatV
noncomputable abbrev PartsM := ListM NatsM
noncomputable abbrev NameM := ListM TkV
noncomputable abbrev NamesM := ListM NameM
theorem NatsM.mono {made made' : List (Addr × Obj)} {v : Value} {x : List Nat} (hs : ∀ p ∈ made, p ∈ made') (h : NatsM made v x) : NatsM made' v x := ListM.mono hs (fun _ _ h => h) h
theorem PartsM.mono {made made' : List (Addr × Obj)} {v : Value} {x : List (List Nat)} (hs : ∀ p ∈ made, p ∈ made') (h : PartsM made v x) : PartsM made' v x := ListM.mono hs (fun _ _ h => NatsM.mono hs h) h
theorem NameM.mono {made made' : List (Addr × Obj)} {v : Value} {x : List Tk} (hs : ∀ p ∈ made, p ∈ made') (h : NameM made v x) : NameM made' v x := ListM.mono hs (fun _ _ h => TkV.mono hs h) h
theorem NamesM.mono {made made' : List (Addr × Obj)} {v : Value} {x : List (List Tk)} (hs : ∀ p ∈ made, p ∈ made') (h : NamesM made v x) : NamesM made' v x := ListM.mono hs (fun _ _ h => NameM.mono hs h) h
/-- the things stand in the heap -/
noncomputable def Stand (h : Heap) (made : List (Addr × Obj)) : Prop := ∀ p ∈ made, h.get? p.1 = some p.2
theorem Stand.keeps {h h' : Heap} {made : List (Addr × Obj)} (S : Stand h made) (k : Kp h h') : Stand h' made := fun p hp => k _ _ (S p hp)
theorem Stand.of {h₀ h : Heap} {L : Addr} {made : List (Addr × Obj)} (N : News h₀ L h made) : Stand h made := fun p hp => (N p hp).1
/-- as Fn, for a value that is made anew -/
noncomputable def FnM (w : World) (n : Nat) (f : Addr) (args : List Value) (Pre : Heap → Prop) (Post : List (Addr × Obj) → Value → Prop) : Prop :=
  ∀ (s : Shared) (mean : ExcName → Option Value) (mg mb : Str → Option Value) (R : Result → Shared → Prop),
    (MineHd.K w.params).In s.heap → Top VW LS mean mg mb s.heap → Pre s.heap →
    (∀ v h' tk' made, Kp s.heap h' → (∀ p ∈ made, h'.get? p.1 = some p.2 ∧ s.heap.get? p.1 = none) → Post made v → R (.ok (.ret v)) { s with heap := h', toks := tk' }) →
    codeAny (model PR w) (Ar n) (.call (.ref f) ⟨args, []⟩) R s
theorem use_fnM {w : World} {n : Nat} {f : Addr} {args : List Value} {Pre : Heap → Prop} {Post : List (Addr × Obj) → Value → Prop} {A : Around} {E : Value → Shared → Prop} {Q : Value → Shared → Prop} {s : Shared} {h₀ : Heap} {L : Addr} {m mg mb : Str → Option Value}
    {mean : ExcName → Option Value} {news : List (Addr × Obj)} (C : FnM w n f args Pre Post) (F : Fr h₀ L s.heap m) (N : News h₀ L s.heap news) (X : (MineHd.K w.params).In h₀) (T : Top VW LS mean mg mb h₀)
    (h1 : A.handled = none) (h2 : A.depth ≤ n) (h4 : A.guards = some []) (h5 : A.units ≤ 10 * n) (pre : Pre s.heap)
    (h : ∀ v h' tk' made, Fr h₀ L h' m → News h₀ L h' (news ++ made) → Kp s.heap h' → Post made v → Q v { s with heap := h', toks := tk' }) : wpAny (model PR w) A (call (.ref f) args) Q E s :=
  wpAny_call (codeAny_weak (C s mean mg mb _ (X.keeps F.keep) (T.keeps F.keep) pre fun v h' tk' made hk hm hp => h v h' tk' made (F.grownK hk) (news_more F N hk hm) hk hp) h1 h2 rfl h4 h5)
theorem enter_fnM {w : World} {n : Nat} {f : Addr} {args : List Value} {Pre : Heap → Prop} {Post : List (Addr × Obj) → Value → Prop}
    {name qual : Str} {params : Arguments} {body : List Stmt} {scope : Scope} {dV kV doc pm cdv ct oc : Value} {an od : Option Addr} {osl : Array (Option Value)} (binds : List (Str × Value))
    (ho : (MineHd.K w.params).lookup f = some ⟨oc, od, .func (fnOf name qual params body scope dV kV doc pm an cdv ct), osl⟩) (hcd : codeIn (MineHd.K w.params) cdv qual = true) (hroom : n < recursionLimit)
    (hbind : ∀ s : Shared, (MineHd.K w.params).In s.heap → BindsTo s (fnOf name qual params body scope dV kV doc pm an cdv ct) ⟨args, []⟩ binds) (hloc : ∀ y ∈ binds, scope.names.lookup y.1 = some .local)
    (hco : scope.isCoroutine = false) (hgen : scope.isGenerator = false) (hk : scope.kind = .function)
    (hcell : ∀ x ∈ scope.names, x.2 ≠ .cell)
    (h : ∀ (s : Shared) (h₁ : Heap) (L : Addr) (tk : Nat) (mean : ExcName → Option Value) (mg mb : Str → Option Value) (Q : Flow → Shared → Prop), binds.length ≤ tk → (MineHd.K w.params).In s.heap → Top VW LS mean mg mb s.heap → Pre s.heap → Fr s.heap L h₁ (fun y => binds.reverse.lookup y) → News s.heap L h₁ [] →
      (∀ v h' tk' m' news', Fr s.heap L h' m' → News s.heap L h' news' → Post news' v → Q (.ret v) { s with heap := h', toks := tk' }) →
      wpAny (model PR w) ((Ar n).deeper (envOf qual scope L f cdv)) (execs body (envOf qual scope L f cdv)) Q (fun _ _ => False) { s with heap := h₁, toks := tk }) : FnM w n f args Pre Post := by
  intro s mean mg mb R X T pre hR
  refine codeAny_call_def (fd := fnOf name qual params body scope dV kV doc pm an cdv ct) (body := body) (binds := binds) hroom (X _ _ ho) rfl T.nolimit (codeRec_of X hcd) rfl (hbind s X) hcell hloc (fun h₁ hns hk₁ => ?_) hco hgen hk
  refine wpAny_mono (h s h₁ s.heap.objs.size _ mean mg mb (fun fl s' => R (.ok (.ret (match fl with | .ret v => v | _ => .none))) s') (Nat.le_add_left _ _) X T pre ⟨hns, hk₁, Nat.le_refl _⟩ News.nil ?_) (fun _ _ x => x) (fun _ _ x => x.elim)
  intro v h' tk' m' news' F' N' hp
  exact hR v h' tk' news' F'.keep (fun p hp => ⟨(N' p hp).1, (N' p hp).2.2⟩) hp
end Mine
end

section
open PySem PySem.W PyProof.Rows PySem.Calls PyProof
set_option maxRecDepth 100000
set_option maxHeartbeats 0
namespace Mine
theorem kfillM1 : Challenge.rw_pd0176_01.name = Challenge.rw_pd0176_01.name ∨ ∀ P, MineHd.K P = MineHd.K P := by
  k_fill
  exact .inl rfl
section
variable {c : Nat}
theorem lt_one (a b : Nat) : ([a] < [b]) ↔ a < b := by
  have h1 := StrLaws.lt_cons_cons a b [] []
  have h2 := StrLaws.lt_nil_nil
  rw [h2] at h1
  have h3 : decide ([a] < [b]) = decide (a < b) := by simpa using h1
  exact decide_eq_decide.mp h3
theorem w_lo {z : Str} {d : Nat} (hz : cs z = [d]) : ((⟨#[c]⟩ : Str).cps.toList < z.cps.toList) ↔ c < d := by
  show [c] < cs z ↔ _
  rw [hz]; exact lt_one c d
theorem w_hi {z : Str} {d : Nat} (hz : cs z = [d]) : (z.cps.toList < (⟨#[c]⟩ : Str).cps.toList) ↔ d < c := by
  show cs z < [c] ↔ _
  rw [hz]; exact lt_one d c
theorem w_a : cs (Str.ofString "a") = [97] := by decide
theorem w_z : cs (Str.ofString "z") = [122] := by decide
theorem w_A : cs (Str.ofString "A") = [65] := by decide
theorem w_Z : cs (Str.ofString "Z") = [90] := by decide
theorem one_htab (h : htab c = [c]) : (⟨#[c]⟩ : Str) = ⟨(htab c).toArray⟩ := by rw [h]
theorem htab_plain : ∀ c, c < 128 → (97 ≤ c ∧ c ≤ 122 ∨ 65 ≤ c ∧ c ≤ 90) → htab c = [c] := by decide +kernel
theorem htab_occ : ∀ c ∈ [45, 33, 42, 43, 47, 48, 49, 50, 51, 52, 53, 54, 55, 56, 57], htab c = [c] := by decide +kernel
theorem htab_hex : ∀ c, c < 256 → ((c < 97 ∨ 122 < c) ∧ (c < 65 ∨ 90 < c) ∧ (¬ c ∈ [45, 33, 42, 43, 47, 48, 49, 50, 51, 52, 53, 54, 55, 56, 57]) ∧ (¬ c = 32)) → htab c = [61, hexD (c / 16), hexD (c % 16)] := by decide +kernel
theorem ans_az (h1 : ¬ ((⟨#[c]⟩ : Str).cps.toList < (Str.ofString "a").cps.toList)) (h2 : ¬ ((Str.ofString "z").cps.toList < (⟨#[c]⟩ : Str).cps.toList)) : (⟨#[c]⟩ : Str) = ⟨(htab c).toArray⟩ := by
  rw [w_lo w_a] at h1; rw [w_hi w_z] at h2
  exact one_htab (htab_plain c (Nat.lt_of_le_of_lt (Nat.le_of_not_lt h2) (by decide)) (.inl ⟨Nat.le_of_not_lt h1, Nat.le_of_not_lt h2⟩))
theorem ans_AZ (h1 : ¬ ((⟨#[c]⟩ : Str).cps.toList < (Str.ofString "A").cps.toList)) (h2 : ¬ ((Str.ofString "Z").cps.toList < (⟨#[c]⟩ : Str).cps.toList)) : (⟨#[c]⟩ : Str) = ⟨(htab c).toArray⟩ := by
  rw [w_lo w_A] at h1; rw [w_hi w_Z] at h2
  exact one_htab (htab_plain c (Nat.lt_of_le_of_lt (Nat.le_of_not_lt h2) (by decide)) (.inr ⟨Nat.le_of_not_lt h1, Nat.le_of_not_lt h2⟩))
theorem w_occ : (Builtin.Str.occurrences (Str.ofString "-!*+/0123456789") ⟨#[c]⟩ 0 (Str.ofString "-!*+/0123456789").length 1).isEmpty = false ↔ c ∈ [45, 33, 42, 43, 47, 48, 49, 50, 51, 52, 53, 54, 55, 56, 57] := by
  have k := StrLaws.found_one (Str.ofString "-!*+/0123456789") c
  rw [show (Str.ofString "-!*+/0123456789").cps.toList = [45, 33, 42, 43, 47, 48, 49, 50, 51, 52, 53, 54, 55, 56, 57] by decide] at k
  constructor
  · intro h; rw [h] at k; exact of_decide_eq_true k.symm
  · intro h; rw [decide_eq_true h] at k; simpa using k
theorem ans_occ (h : (Builtin.Str.occurrences (Str.ofString "-!*+/0123456789") ⟨#[c]⟩ 0 (Str.ofString "-!*+/0123456789").length 1).isEmpty = false) : (⟨#[c]⟩ : Str) = ⟨(htab c).toArray⟩ := by
  exact one_htab (htab_occ c (w_occ.mp h))
theorem w_blank : ((⟨#[c]⟩ : Str) == Str.ofString " ") = true ↔ c = 32 := by
  rw [beq_iff_eq, ← cs_inj, show cs (Str.ofString " ") = [32] by decide]
  simp [cs]
theorem ans_blank (h : ((⟨#[c]⟩ : Str) == Str.ofString " ") = true) : Str.ofString "_" = ⟨(htab c).toArray⟩ := by
  rw [w_blank.mp h]; decide
theorem w_fig : ∀ d, d < 16 → Txt.item (Str.ofString "0123456789ABCDEF") (d : Nat) = ⟨#[hexD d]⟩ := by decide +kernel
theorem ans_hex (hc : c < 256) (h1 : (⟨#[c]⟩ : Str).cps.toList < (Str.ofString "a").cps.toList ∨ (Str.ofString "z").cps.toList < (⟨#[c]⟩ : Str).cps.toList) (h2 : (⟨#[c]⟩ : Str).cps.toList < (Str.ofString "A").cps.toList ∨ (Str.ofString "Z").cps.toList < (⟨#[c]⟩ : Str).cps.toList)
    (h3 : (Builtin.Str.occurrences (Str.ofString "-!*+/0123456789") ⟨#[c]⟩ 0 (Str.ofString "-!*+/0123456789").length 1).isEmpty = true) (h4 : ((⟨#[c]⟩ : Str) == Str.ofString " ") = false) :
    Str.ofString "=" ++ Txt.item (Str.ofString "0123456789ABCDEF") ((c : Int).fdiv 16) ++ Txt.item (Str.ofString "0123456789ABCDEF") ((c : Int).fmod 16) = ⟨(htab c).toArray⟩ := by
  rw [w_lo w_a, w_hi w_z] at h1
  rw [w_lo w_A, w_hi w_Z] at h2
  have h3' : ¬ c ∈ [45, 33, 42, 43, 47, 48, 49, 50, 51, 52, 53, 54, 55, 56, 57] := fun q => by rw [w_occ.mpr q] at h3; cases h3
  have h4' : ¬ c = 32 := fun q => by rw [w_blank.mpr q] at h4; cases h4
  have e1 : (c : Int).fdiv 16 = ((c / 16 : Nat) : Int) := by rw [Int.fdiv_eq_ediv_of_nonneg _ (by decide)]; rfl
  have e2 : (c : Int).fmod 16 = ((c % 16 : Nat) : Int) := by rw [Int.fmod_eq_emod_of_nonneg _ (by decide)]; rfl
  rw [e1, e2, w_fig _ (Nat.div_lt_of_lt_mul (show c < 16 * 16 from hc)), w_fig _ (Nat.mod_lt _ (by decide))]
  apply cs_inj.mp
  rw [cs_app, cs_app, show cs (Str.ofString "=") = [61] by decide]
  rw [htab_hex c hc ⟨h1, h2, h3', h4'⟩]
  rfl
end
theorem worded_spec (w : World) (c : Nat) (hc : c < 256) (t : Tok) : Fn w 700 260 [.str ⟨#[c]⟩ t] (fun _ => True) (fun _ v => ∃ t, v = .str ⟨(htab c).toArray⟩ t) := by
  w_on
  refine' enter_fn [(Str.ofString "sign", .str ⟨#[c]⟩ t)] ?k6 ?k7 ?k8 ?k9 ?kB ?c2 ?c3 ?c4 ?c5 ?_
  (((case k6 => k_is); (case k7 => k_is); (case k8 => decide); (case k9 => first | (intro _ _; exact BindsTo.of_eq rfl) | (intro _ X9; exact binds_K X9 rfl (by k_is) rfl rfl rfl)); (case c5 => decide); (case kB => exact locs rfl); (case c2 => exact rfl); (case c3 => exact rfl); (case c4 => exact rfl)))
  intro s h₁ L tk mean mg mb Q X T _ F N hR
  (repeat' (first | (k_unfold; (try dsimp only)) | walk1 | (dsimp only; walk1)))
  all_goals refine hR _ _ _ _ _ (by k_asm) (by k_asm) (str_of ?_)
  all_goals first
    | exact ans_blank (by assumption)
    | exact ans_az (by assumption) (by assumption)
    | exact ans_AZ (by assumption) (by assumption)
    | exact ans_occ (by assumption)
    | exact ans_hex hc (by first | exact .inl (by assumption) | exact .inr (by assumption)) (by first | exact .inl (by assumption) | exact .inr (by assumption)) (by assumption) (by assumption)
end Mine
end

section
open PySem PySem.W PyProof.Rows PySem.Calls
set_option maxRecDepth 100000
set_option maxHeartbeats 0
namespace Mine
theorem kfillM2 : Challenge.rw_pd0176_01.name = Challenge.rw_pd0176_01.name ∨ ∀ P, MineHd.K P = MineHd.K P := by
  k_fill
  exact .inl rfl
local macro_rules | `(tactic| walk_at "compareOp NotEq ref ref") => `(tactic| (refine ne_snoc (ilK (by k_asm) (by with_reducible assumption)) (News.isList (by k_asm) (List.Mem.head _)) (Nat.le_of_ble_eq_true rfl) ?_))
local macro_rules | `(tactic| walk_at "call builtin:len") => `(tactic| (refine len_list (ilK (by k_asm) (by with_reducible assumption)) (by simp only [List.size_toArray]; omega) ?_; (try dsimp only)))
theorem tup_pair {h₀ h : Heap} {L c : Addr} {m : Str → Option Value} {n : Nat} {t : Tok} {b : Bool} (F : Fr h₀ L h m) (hc : h₀.get? c = some (pairO n t b)) : IsTup h c [Value.int (n : Nat) t, .bool b].toArray := ⟨_, goK F hc, rfl, _, rfl⟩
theorem run_ge {l : List Tk} {k : Nat} {t : Tk} (hk : k ≤ bares l) (ht : l[l.length - 1 - k]? = some t) (hkl : k < l.length) : (t.2 = true → k + 1 ≤ bares l) ∧ (t.2 = false → k = bares l) := by
  unfold bares at *
  have hr : l.reverse[k]? = some t := by rw [List.getElem?_reverse hkl]; exact ht
  generalize l.reverse = r at *
  clear hkl ht
  induction r generalizing k with
  | nil => simp at hr
  | cons a r ih =>
    rw [List.takeWhile_cons] at hk ⊢
    cases k with
    | zero =>
      have : a = t := by simpa using hr
      subst this
      cases ha : a.2 <;> simp
    | succ k =>
      cases ha : a.2 with
      | false => rw [ha] at hk; simp at hk
      | true =>
        rw [ha] at hk
        simp only [if_true, List.length_cons] at hk ⊢
        have := ih (k := k) (by omega) (by simpa using hr)
        constructor
        · intro h; have := this.1 h; omega
        · intro h; have := this.2 h; omega
theorem bares_le (l : List Tk) : bares l ≤ l.length := by
  unfold bares
  have := List.takeWhile_sublist (l := l.reverse) (fun t : Tk => t.2)
  have := this.length_le
  simpa using this
/-- what _law_bare_end counts -/
noncomputable def bareEnd (ns : List (List Tk)) : Nat := (ns.getLast?.map bares).getD 0
theorem int_exi {x y : Int} {t : Tok} (e : x = y) : ∃ t', Value.int x t = Value.int y t' := ⟨t, by rw [e]⟩
theorem bend_spec (w : World) (a : Addr) (ns : List (List Tk)) (hn : ns.length ≤ 1000) (hl : ∀ l ∈ ns, l.length ≤ 1000) : Fn w 700 253 [.ref a] (fun h => ∃ made, Stand h made ∧ NamesM made (.ref a) ns) (fun _ v => ∃ t, v = .int (bareEnd ns : Nat) t) := by
  w_on
  refine' enter_fn [(Str.ofString "names", .ref a)] ?k6 ?k7 ?k8 ?k9 ?kB ?c2 ?c3 ?c4 ?c5 ?_
  (((case k6 => k_is); (case k7 => k_is); (case k8 => decide); (case k9 => first | (intro _ _; exact BindsTo.of_eq rfl) | (intro _ X9; exact binds_K X9 rfl (by k_is) rfl rfl rfl)); (case c5 => decide); (case kB => exact locs rfl); (case c2 => exact rfl); (case c3 => exact rfl); (case c4 => exact rfl)))
  intro s h₁ L tk mean mg mb Q X T ⟨made, hst, hnm⟩ F N hR
  obtain ⟨a', vs, k, e, hm, har⟩ := hnm
  injection e with e
  subst e
  have hA := ilM (hst _ hm)
  rcases List.eq_nil_or_concat ns with rfl | ⟨ps, l, rfl⟩
  · have : vs = [] := List.length_eq_zero_iff.mp har.1
    subst this
    (repeat' ((fail_if_success (with_reducible show wpAny _ _ (exec (Stmt.While _ _ _ _) _) _ _ _)); first | ((((with_reducible show wpAny _ _ (subscriptTail _ _ (Value.ref _) (Value.int _ _)) _ _ _); first | (refine itemL (ilK (by k_asm) (by with_reducible assumption)) (by omega) (by omega) (by with_reducible assumption) ?_) | (refine item_tupleT (tup_pair (by k_asm) (by with_reducible assumption)) (by decide) (by decide) rfl rfl ?_) | ((with_reducible show wpAny _ _ (subscriptTail _ _ (Value.ref _) (Value.int (-1) _)) _ _ _); refine last1 (ilK (by k_asm) (by with_reducible assumption)) (by omega) ?_)))) | (k_unfold; (try dsimp only)) | walk1 | (dsimp only; walk1)))
    exact hR _ _ _ _ _ (by k_asm) (by k_asm) ⟨_, rfl⟩
  · rw [List.concat_eq_append] at *
    rcases List.eq_nil_or_concat vs with rfl | ⟨us, u, rfl⟩
    · have := har.1; simp at this
    rw [List.concat_eq_append] at *
    have hul : us.length = ps.length := by have := har.1; simpa using this
    obtain ⟨u', hu', hnm⟩ := har.2 ps.length l (by simp)
    rw [List.getElem?_append_right (by omega), hul, Nat.sub_self] at hu'
    have : u' = u := by simpa using hu'.symm
    subst this
    obtain ⟨b, ts, k2, rfl, hm2, har2⟩ := hnm
    have hB := ilM (hst _ hm2)
    have hpl : us.length + 1 ≤ 1000 := by rw [List.length_append] at hn; simp at hn; omega
    have hll := hl l (by simp)
    have htl := har2.1
    have htz : ts.toArray.size = l.length := by rw [List.size_toArray]; exact htl
    (repeat' ((fail_if_success (with_reducible show wpAny _ _ (exec (Stmt.While _ _ _ _) _) _ _ _)); first | ((((with_reducible show wpAny _ _ (subscriptTail _ _ (Value.ref _) (Value.int _ _)) _ _ _); first | (refine itemL (ilK (by k_asm) (by with_reducible assumption)) (by omega) (by omega) (by with_reducible assumption) ?_) | (refine item_tupleT (tup_pair (by k_asm) (by with_reducible assumption)) (by decide) (by decide) rfl rfl ?_) | ((with_reducible show wpAny _ _ (subscriptTail _ _ (Value.ref _) (Value.int (-1) _)) _ _ _); refine last1 (ilK (by k_asm) (by with_reducible assumption)) (by omega) ?_)))) | (k_unfold; (try dsimp only)) | walk1 | (dsimp only; walk1)))
    refine while_names (L := L) [Str.ofString "count"] (fun n m => ∃ k t, k + n = l.length ∧ k ≤ bares l ∧ m (Str.ofString "count") = some (.int (k : Nat) t)) (n₀ := l.length) (by with_reducible assumption) (by with_reducible assumption) ⟨0, _, by omega, Nat.zero_le _, rfl⟩ ?_
    rintro n m₂ h tk2 hm' ⟨k3, ti, hk, hkb, hmi⟩ F2 N2
    refine let_ov [(Str.ofString "count", some (.int (k3 : Nat) ti))] F2 (by simp [hmi]) hm' rfl ?_
    clear F2
    intro mAF2 F2
    clear hm' hmi
    have hble := bares_le l
    rcases Nat.lt_or_ge k3 l.length with hkl | hkl
    · have ht0 := List.getElem?_eq_getElem (show l.length - 1 - k3 < l.length by omega)
      generalize l[l.length - 1 - k3] = t0 at ht0
      obtain ⟨hyes, hno⟩ := run_ge hkb ht0 hkl
      obtain ⟨u1, hu1, c, tc, rfl, hcm⟩ := har2.2 _ _ ht0
      have hC : s.heap.get? c = some (pairO t0.1 tc t0.2) := hst _ hcm
      have hix : ts.toArray[((ts.toArray.size : Int) - 1 - (k3 : Nat)).toNat]? = some (.ref c) := by
        rw [show ((ts.toArray.size : Int) - 1 - (k3 : Nat)).toNat = l.length - 1 - k3 by omega]
        simpa using hu1
      obtain ⟨c0, b0⟩ := t0
      clear ht0 hu1 hcm har har2 hu'
      dsimp only at hC hyes hno
      cases b0 with
      | true =>
        have hk1 := hyes rfl
        clear hyes hno
        (repeat' ((fail_if_success (with_reducible show wpAny _ _ (exec (Stmt.While _ _ _ _) _) _ _ _)); first | ((((with_reducible show wpAny _ _ (subscriptTail _ _ (Value.ref _) (Value.int _ _)) _ _ _); first | (refine itemL (ilK (by k_asm) (by with_reducible assumption)) (by omega) (by omega) (by with_reducible assumption) ?_) | (refine item_tupleT (tup_pair (by k_asm) (by with_reducible assumption)) (by decide) (by decide) rfl rfl ?_) | ((with_reducible show wpAny _ _ (subscriptTail _ _ (Value.ref _) (Value.int (-1) _)) _ _ _); refine last1 (ilK (by k_asm) (by with_reducible assumption)) (by omega) ?_)))) | (k_unfold; (try dsimp only)) | walk1 | (dsimp only; walk1)))
        exact WT.of (n - 1) (by k_asm) (by k_asm) (fun p hp => hp) (by omega) (by (repeat (first | exact fun _ _ => rfl | exact off_all | refine off_put (by decide) ?_ | refine off_sub (by kernel_rfl) ?_))) ⟨k3 + 1, _, by omega, hk1, int_of (x := (k3 : Int) + 1) rfl⟩
      | false =>
        have hk1 := hno rfl
        clear hyes hno
        (repeat' ((fail_if_success (with_reducible show wpAny _ _ (exec (Stmt.While _ _ _ _) _) _ _ _)); first | ((((with_reducible show wpAny _ _ (subscriptTail _ _ (Value.ref _) (Value.int _ _)) _ _ _); first | (refine itemL (ilK (by k_asm) (by with_reducible assumption)) (by omega) (by omega) (by with_reducible assumption) ?_) | (refine item_tupleT (tup_pair (by k_asm) (by with_reducible assumption)) (by decide) (by decide) rfl rfl ?_) | ((with_reducible show wpAny _ _ (subscriptTail _ _ (Value.ref _) (Value.int (-1) _)) _ _ _); refine last1 (ilK (by k_asm) (by with_reducible assumption)) (by omega) ?_)))) | (k_unfold; (try dsimp only)) | walk1 | (dsimp only; walk1)))
        exact hR _ _ _ _ _ (by k_asm) (by k_asm) (int_exi (by rw [hk1]; simp [bareEnd]))
    · have hk3 : k3 = l.length := by omega
      (repeat' ((fail_if_success (with_reducible show wpAny _ _ (exec (Stmt.While _ _ _ _) _) _ _ _)); first | ((((with_reducible show wpAny _ _ (subscriptTail _ _ (Value.ref _) (Value.int _ _)) _ _ _); first | (refine itemL (ilK (by k_asm) (by with_reducible assumption)) (by omega) (by omega) (by with_reducible assumption) ?_) | (refine item_tupleT (tup_pair (by k_asm) (by with_reducible assumption)) (by decide) (by decide) rfl rfl ?_) | ((with_reducible show wpAny _ _ (subscriptTail _ _ (Value.ref _) (Value.int (-1) _)) _ _ _); refine last1 (ilK (by k_asm) (by with_reducible assumption)) (by omega) ?_)))) | (k_unfold; (try dsimp only)) | walk1 | (dsimp only; walk1)))
      exact hR _ _ _ _ _ (by k_asm) (by k_asm) (int_exi (by rw [show k3 = bares l by omega]; simp [bareEnd]))
end Mine
end

section
open PySem PySem.W PyProof.Rows PySem.Calls
set_option maxRecDepth 100000
set_option maxHeartbeats 0
namespace Mine
theorem kfillM3 : Challenge.rw_pd0176_01.name = Challenge.rw_pd0176_01.name ∨ ∀ P, MineHd.K P = MineHd.K P := by
  k_fill
  exact .inl rfl
section
variable {M : Model} {A : Around} {E : Value → Shared → Prop} {s : Shared} {env : Env} {h₀ : Heap} {C : Addr} {scope : Scope} {cl : List (Str × Addr)} {m mg mb : Str → Option Value} {p : Program} {loose : List Str} {mean : ExcName → Option Value} {K : Frag} {x : Str} {pos : Pos} {v : Value} {Q : Value → Shared → Prop}
theorem nameC_L (F : Fr h₀ C s.heap m) (hv : m x = some v) (hk : (compEnvC scope cl C env).scope.kind = .function) (hx : (compEnvC scope cl C env).kindOf x = some .local) (h : Q v s) (hd : (x == ("__debug__" : Str)) = false := by decide) :
    wpAny M A (eval (.Name x pos) (compEnvC scope cl C env)) Q E s := wpAny_Name (wpAny_loadName_local hk hx F.ns hv h) hd
theorem nameC_K (F : Fr h₀ C s.heap m) (X : K.In h₀) (T : TopRead p loose mg mb h₀) (e : nsIn K mainGlobals x = some (some v)) (hk : (compEnvC scope cl C env).scope.kind = .function) (hx : (compEnvC scope cl C env).kindOf x = some .globalImplicit) (hg : (compEnvC scope cl C env).globals = mainGlobals) (h : Q v s) (hd : (x == ("__debug__" : Str)) = false := by decide) :
    wpAny M A (eval (.Name x pos) (compEnvC scope cl C env)) Q E s := Name_function_global hk hx (loadGlobal_global (env := compEnvC scope cl C env) (hg ▸ T.g.keeps F.keep) (mg_of X T.g e) h) hd
theorem nameC_B (F : Fr h₀ C s.heap m) (X : K.In h₀) (T : TopRead p loose mg mb h₀) (e : nsIn K mainGlobals x = some none) (hv : bootBuiltins x = some v) (hn : x ≠ "__name__") (hk : (compEnvC scope cl C env).scope.kind = .function) (hx : (compEnvC scope cl C env).kindOf x = some .globalImplicit) (hg : (compEnvC scope cl C env).globals = mainGlobals) (hb : (compEnvC scope cl C env).builtins = builtinsNs) (h : Q v s) (hd : (x == ("__debug__" : Str)) = false := by decide) :
    wpAny M A (eval (.Name x pos) (compEnvC scope cl C env)) Q E s :=
  Name_function_global hk hx (loadGlobal_builtin (env := compEnvC scope cl C env) (hg ▸ T.g.keeps F.keep) (mg_none_of X T.g e) (hb ▸ T.b.keeps F.keep) ((T.builtins x hn).trans hv) h) hd
end
end Mine
end

section
open PySem PySem.W PyProof.Rows PySem.Calls PyProof
set_option maxRecDepth 100000
set_option maxHeartbeats 0
namespace Mine
theorem kfillM4 : Challenge.rw_pd0176_01.name = Challenge.rw_pd0176_01.name ∨ ∀ P, MineHd.K P = MineHd.K P := by
  k_fill
  exact .inl rfl
local macro_rules | `(tactic| walk_at "call builtin:str.join") => `(tactic| (refine join_listW (by with_reducible assumption) (by with_reducible assumption) (by decide) (by with_reducible assumption) ?_; intro t' k'; (try dsimp only)))
theorem ones_sum : ∀ l : List Tk, ((l.map fun t : Tk => (⟨#[t.1]⟩ : Str)).map (·.length)).sum = l.length
  | [] => rfl
  | t :: l => by
    have := ones_sum l
    simp only [List.map_cons, List.sum_cons, List.length_cons, this]
    show 1 + l.length = _
    omega
theorem word_join (l : List Tk) : Txt.join (Str.ofString "") (l.map fun t : Tk => (⟨#[t.1]⟩ : Str)) = ⟨(wordOf l).toArray⟩ := by
  have e : Str.ofString "" = ⟨#[]⟩ := by decide
  rw [e, join_nil]
  congr 2
  induction l with
  | nil => rfl
  | cons t l ih => rw [List.map_cons, List.flatMap_cons, ih]; rfl
theorem words_sum (ns : List (List Tk)) (hl : ∀ l ∈ ns, l.length ≤ 1000) : ((ns.map fun l => (⟨(wordOf l).toArray⟩ : Str)).map (·.length)).sum ≤ 1000 * ns.length := by
  have := sum_le 1000 (ns.map fun l => (⟨(wordOf l).toArray⟩ : Str)) (fun a ha => by
    obtain ⟨l, hl', rfl⟩ := List.mem_map.mp ha
    have := hl l hl'
    simpa [Str.length, wordOf] using this)
  rw [List.length_map] at this
  exact this
/-- a path's text, on plain lists -/
noncomputable def textL (root : List Nat) (ns : List (List Tk)) : List Nat := if root ++ glueS 47 (ns.map wordOf) = [] then [46] else root ++ glueS 47 (ns.map wordOf)
theorem text_cs (root : Str) (ns : List (List Tk)) : cs (root ++ Txt.join (Str.ofString "/") (ns.map fun l => (⟨(wordOf l).toArray⟩ : Str))) = cs root ++ glueS 47 (ns.map wordOf) := by
  rw [cs_app, join_glueS cs_sl, List.map_map]
  rfl
theorem text_yes {root : Str} {ns : List (List Tk)} (h : (root ++ Txt.join (Str.ofString "/") (ns.map fun l => (⟨(wordOf l).toArray⟩ : Str)) != Str.ofString "") = true) :
    root ++ Txt.join (Str.ofString "/") (ns.map fun l => (⟨(wordOf l).toArray⟩ : Str)) = ⟨(textL (cs root) ns).toArray⟩ := by
  apply cs_inj.mp
  rw [bne_cs, text_cs, cs_emp] at h
  rw [text_cs]
  unfold textL
  rw [if_neg (by simpa using h)]
theorem text_no {root : Str} {ns : List (List Tk)} (h : (root ++ Txt.join (Str.ofString "/") (ns.map fun l => (⟨(wordOf l).toArray⟩ : Str)) != Str.ofString "") = false) :
    Str.ofString "." = ⟨(textL (cs root) ns).toArray⟩ := by
  apply cs_inj.mp
  rw [bne_cs, text_cs, cs_emp] at h
  have h' : cs root ++ glueS 47 (ns.map wordOf) = [] := by simpa using h
  unfold textL
  rw [if_pos h']
  exact cs_dot
theorem text_spec (w : World) (root : Str) (t : Tok) (a : Addr) (ns : List (List Tk)) (made : List (Addr × Obj)) (hnm : NamesM made (.ref a) ns) (hr : root.length ≤ 10) (hn : ns.length ≤ 1000) (hl : ∀ l ∈ ns, l.length ≤ 1000) (hc : ∀ l ∈ ns, ∀ t ∈ l, t.1 < 256) :
    Fn w 700 246 [.str root t, .ref a] (fun h => Stand h made) (fun _ v => ∃ t, v = .str ⟨(textL (cs root) ns).toArray⟩ t) := by
  w_on
  refine' enter_fn [(Str.ofString "root", .str root t), (Str.ofString "names", .ref a)] ?k6 ?k7 ?k8 ?k9 ?kB ?c2 ?c3 ?c4 ?c5 ?_
  (((case k6 => k_is); (case k7 => k_is); (case k8 => decide); (case k9 => first | (intro _ _; exact BindsTo.of_eq rfl) | (intro _ X9; exact binds_K X9 rfl (by k_is) rfl rfl rfl)); (case c5 => decide); (case kB => exact locs rfl); (case c2 => exact rfl); (case c3 => exact rfl); (case c4 => exact rfl)))
  intro s h₁ L tk mean mg mb Q X T hst F N hR
  obtain ⟨a', vs, k, e, hm, har⟩ := hnm
  injection e with e
  subst e
  have hA := ilM (hst _ hm)
  (repeat' ((fail_if_success (with_reducible show wpAny _ _ (exec (Stmt.While _ _ _ _) _) _ _ _)); (fail_if_success (with_reducible show wpAny _ _ (eval (Expr.ListComp _ _ _ _) _) _ _ _)); first | (((with_reducible show wpAny _ _ (eval (Expr.Name _ _) (compEnvC _ _ _ _)) _ _ _); first | (refine' nameC_L ?mzF ?mzv ?mza ?mzb ?_; (case mzF => k_asm); (case mza => with_unfolding_all rfl); (case mzb => with_unfolding_all rfl); (case mzv => rfl)) | (refine' nameC_K ?mzF ?mzX ?mzT ?mze ?mza ?mzb ?mzc ?_; (case mzF => k_asm); (case mzX => k_asm); (case mzT => k_asm); (case mza => with_unfolding_all rfl); (case mzb => with_unfolding_all rfl); (case mzc => with_unfolding_all rfl); (case mze => k_is)) | (refine' nameC_B ?mzF ?mzX ?mzT ?mze ?mzv ?mzn ?mza ?mzb ?mzc ?mzd ?_; (case mzF => k_asm); (case mzX => k_asm); (case mzT => k_asm); (case mza => with_unfolding_all rfl); (case mzb => with_unfolding_all rfl); (case mzc => with_unfolding_all rfl); (case mzd => with_unfolding_all rfl); (case mze => k_is); (case mzv => boot_fast); (case mzn => decide)))) | (k_unfold; (try dsimp only)) | walk1 | (dsimp only; walk1)))
  refine' comp_list (cl := []) ?s1 ?s2 ?s3 ?s4 ?s5 ?s6 ?_
  (((case s1 => with_unfolding_all rfl); (case s2 => decide); (case s3 => with_unfolding_all rfl); (case s4 => decide); (case s5 => with_unfolding_all rfl); (case s6 => with_unfolding_all rfl)))
  (repeat' ((fail_if_success (with_reducible show wpAny _ _ (exec (Stmt.While _ _ _ _) _) _ _ _)); (fail_if_success (with_reducible show wpAny _ _ (eval (Expr.ListComp _ _ _ _) _) _ _ _)); first | (((with_reducible show wpAny _ _ (eval (Expr.Name _ _) (compEnvC _ _ _ _)) _ _ _); first | (refine' nameC_L ?mzF ?mzv ?mza ?mzb ?_; (case mzF => k_asm); (case mza => with_unfolding_all rfl); (case mzb => with_unfolding_all rfl); (case mzv => rfl)) | (refine' nameC_K ?mzF ?mzX ?mzT ?mze ?mza ?mzb ?mzc ?_; (case mzF => k_asm); (case mzX => k_asm); (case mzT => k_asm); (case mza => with_unfolding_all rfl); (case mzb => with_unfolding_all rfl); (case mzc => with_unfolding_all rfl); (case mze => k_is)) | (refine' nameC_B ?mzF ?mzX ?mzT ?mze ?mzv ?mzn ?mza ?mzb ?mzc ?mzd ?_; (case mzF => k_asm); (case mzX => k_asm); (case mzT => k_asm); (case mza => with_unfolding_all rfl); (case mzb => with_unfolding_all rfl); (case mzc => with_unfolding_all rfl); (case mzd => with_unfolding_all rfl); (case mze => k_is); (case mzv => boot_fast); (case mzn => decide)))) | (k_unfold; (try dsimp only)) | walk1 | (dsimp only; walk1)))
  (with_reducible rename Fr _ _ _ _ => F1)
  (with_reducible rename News _ _ _ _ => N1)
  show ∃ _, _
  refine ⟨a, vs.toArray, fun i ys _ => StrsAre ys ((ns.take i).map fun l => ⟨(wordOf l).toArray⟩), rfl, ilK F1 hA, by simp only [List.size_toArray, har.1]; omega, ?_, .nil, ?_, ?_⟩
  · intro i ys made hS
    rw [hS.length, List.length_map, List.length_take]; omega
  · intro I C D i v m₁ ys k made' oI h tk' E' hv hS F2 N2 hmd hDI
    refine wpAny_tests_nil ?_
    refine W.ite_pos rfl ?_
    dsimp only at F2 N2 ⊢
    have X2 := X.keeps F1.keep
    have T2 := T.keeps F1.keep
    have hi : i < ns.length := by
      have := (Array.getElem?_eq_some_iff.mp hv).1
      rw [List.size_toArray, har.1] at this; exact this
    obtain ⟨u, hu, b, ts, k2, rfl, hm2, har2⟩ := har.2 i ns[i] (List.getElem?_eq_getElem hi)
    have : v = .ref b := by
      have hv' : vs[i]? = some v := by simpa using hv
      rw [hu] at hv'; exact (Option.some.inj hv').symm
    subst this
    have hB := ilK F1 (ilM (hst _ hm2))
    have hll := hl ns[i] (List.getElem_mem hi)
    have hlc := hc ns[i] (List.getElem_mem hi)
    have htk := map_take_succ (fun l => (⟨(wordOf l).toArray⟩ : Str)) (List.getElem?_eq_getElem hi)
    rw [htk]
    generalize ns[i] = l at *
    generalize ((ns.take i).map fun l => (⟨(wordOf l).toArray⟩ : Str)) = acc at *
    clear htk hu hv
    (repeat' ((fail_if_success (with_reducible show wpAny _ _ (exec (Stmt.While _ _ _ _) _) _ _ _)); (fail_if_success (with_reducible show wpAny _ _ (eval (Expr.ListComp _ _ _ _) _) _ _ _)); first | (((with_reducible show wpAny _ _ (eval (Expr.Name _ _) (compEnvC _ _ _ _)) _ _ _); first | (refine' nameC_L ?mzF ?mzv ?mza ?mzb ?_; (case mzF => k_asm); (case mza => with_unfolding_all rfl); (case mzb => with_unfolding_all rfl); (case mzv => rfl)) | (refine' nameC_K ?mzF ?mzX ?mzT ?mze ?mza ?mzb ?mzc ?_; (case mzF => k_asm); (case mzX => k_asm); (case mzT => k_asm); (case mza => with_unfolding_all rfl); (case mzb => with_unfolding_all rfl); (case mzc => with_unfolding_all rfl); (case mze => k_is)) | (refine' nameC_B ?mzF ?mzX ?mzT ?mze ?mzv ?mzn ?mza ?mzb ?mzc ?mzd ?_; (case mzF => k_asm); (case mzX => k_asm); (case mzT => k_asm); (case mza => with_unfolding_all rfl); (case mzb => with_unfolding_all rfl); (case mzc => with_unfolding_all rfl); (case mzd => with_unfolding_all rfl); (case mze => k_is); (case mzv => boot_fast); (case mzn => decide)))) | (k_unfold; (try dsimp only)) | walk1 | (dsimp only; walk1)))
    refine' comp_listP (cl := []) ?s1 ?s2 ?s3 ?s4 ?s5 ?s5b ?s6 ?_
    (((case s1 => with_unfolding_all rfl); (case s2 => decide); (case s3 => with_unfolding_all rfl); (case s4 => decide); (case s5 => with_unfolding_all rfl); (case s5b => with_unfolding_all rfl); (case s6 => with_unfolding_all rfl)))
    (repeat' ((fail_if_success (with_reducible show wpAny _ _ (exec (Stmt.While _ _ _ _) _) _ _ _)); (fail_if_success (with_reducible show wpAny _ _ (eval (Expr.ListComp _ _ _ _) _) _ _ _)); first | (((with_reducible show wpAny _ _ (eval (Expr.Name _ _) (compEnvC _ _ _ _)) _ _ _); first | (refine' nameC_L ?mzF ?mzv ?mza ?mzb ?_; (case mzF => k_asm); (case mza => with_unfolding_all rfl); (case mzb => with_unfolding_all rfl); (case mzv => rfl)) | (refine' nameC_K ?mzF ?mzX ?mzT ?mze ?mza ?mzb ?mzc ?_; (case mzF => k_asm); (case mzX => k_asm); (case mzT => k_asm); (case mza => with_unfolding_all rfl); (case mzb => with_unfolding_all rfl); (case mzc => with_unfolding_all rfl); (case mze => k_is)) | (refine' nameC_B ?mzF ?mzX ?mzT ?mze ?mzv ?mzn ?mza ?mzb ?mzc ?mzd ?_; (case mzF => k_asm); (case mzX => k_asm); (case mzT => k_asm); (case mza => with_unfolding_all rfl); (case mzb => with_unfolding_all rfl); (case mzc => with_unfolding_all rfl); (case mzd => with_unfolding_all rfl); (case mze => k_is); (case mzv => boot_fast); (case mzn => decide)))) | (k_unfold; (try dsimp only)) | walk1 | (dsimp only; walk1)))
    show ∃ _, _
    dsimp only
    refine ⟨b, ts.toArray, fun i ys _ => StrsAre ys ((l.take i).map fun t => ⟨#[t.1]⟩), rfl, ilK F2 hB, by simp only [List.size_toArray, har2.1]; omega, ?_, ?_, .nil, ?_, ?_⟩
    · intro i2 v hv
      have hi2 : i2 < l.length := by
        have := (Array.getElem?_eq_some_iff.mp hv).1
        rw [List.size_toArray, har2.1] at this; exact this
      obtain ⟨u, hu, c, tt, rfl, hcm⟩ := har2.2 i2 _ (List.getElem?_eq_getElem hi2)
      have hv' : ts[i2]? = some v := by simpa using hv
      rw [hu] at hv'
      exact ⟨c, _, tt, _, (Option.some.inj hv').symm, goK F2 (F1.keep _ _ (hst _ hcm))⟩
    · intro i ys made hS
      rw [hS.length, List.length_map, List.length_take]; omega
    · intro I3 C3 D3 i3 c cn tt b3 m3 ys3 k3 made3 oI3 h3 tk3 E3 hv3 hc3 hS3 F3 N3 hmd3 hDI3
      have hi3 : i3 < l.length := by
        have := (Array.getElem?_eq_some_iff.mp hv3).1
        rw [List.size_toArray, har2.1] at this; exact this
      obtain ⟨u, hu, c', t', rfl, hcm⟩ := har2.2 i3 _ (List.getElem?_eq_getElem hi3)
      have hcc : c = c' := by
        have hv' : ts[i3]? = some (.ref c) := by simpa using hv3
        rw [hu] at hv'
        injection hv' with hv'; injection hv' with hv'; exact hv'.symm
      subst hcc
      have e := goK F2 (F1.keep _ _ (hst _ hcm))
      rw [hc3] at e
      have hcn := (pairO_inj (Option.some.inj e)).1
      have h256 := hlc _ (List.getElem_mem hi3)
      rw [← hcn] at h256
      have hmt := map_take_succ (fun t : Tk => (⟨#[t.1]⟩ : Str)) (List.getElem?_eq_getElem hi3)
      rw [← hcn] at hmt
      have X3 := X2.keeps F2.keep
      have T3 := T2.keeps F2.keep
      clear e hcn hcm hu hv3
      (repeat' ((fail_if_success (with_reducible show wpAny _ _ (exec (Stmt.While _ _ _ _) _) _ _ _)); (fail_if_success (with_reducible show wpAny _ _ (eval (Expr.ListComp _ _ _ _) _) _ _ _)); first | (((with_reducible show wpAny _ _ (eval (Expr.Name _ _) (compEnvC _ _ _ _)) _ _ _); first | (refine' nameC_L ?mzF ?mzv ?mza ?mzb ?_; (case mzF => k_asm); (case mza => with_unfolding_all rfl); (case mzb => with_unfolding_all rfl); (case mzv => rfl)) | (refine' nameC_K ?mzF ?mzX ?mzT ?mze ?mza ?mzb ?mzc ?_; (case mzF => k_asm); (case mzX => k_asm); (case mzT => k_asm); (case mza => with_unfolding_all rfl); (case mzb => with_unfolding_all rfl); (case mzc => with_unfolding_all rfl); (case mze => k_is)) | (refine' nameC_B ?mzF ?mzX ?mzT ?mze ?mzv ?mzn ?mza ?mzb ?mzc ?mzd ?_; (case mzF => k_asm); (case mzX => k_asm); (case mzT => k_asm); (case mza => with_unfolding_all rfl); (case mzb => with_unfolding_all rfl); (case mzc => with_unfolding_all rfl); (case mzd => with_unfolding_all rfl); (case mze => k_is); (case mzv => boot_fast); (case mzn => decide)))) | (k_unfold; (try dsimp only)) | walk1 | (dsimp only; walk1)))
      exact CE.of F3 N3 (.head _) (.tail _ (.head _)) (fun p hp => .tail _ (.tail _ hp)) hmd3 (by show StrsAre _ _; rw [hmt]; exact strsAre_snocE (by rw [Int.toNat_natCast]) hS3)
    · intro D3 ys3 k3 made3 h3 tk3 hS3 hk3 hp3
      (try dsimp only at hk3 hp3 ⊢)
      have F3 := F2.grownK hk3
      have N3 := news_more F2 N2 hk3 hp3
      rw [List.size_toArray, har2.1, List.take_length] at hS3
      have hD3 := ilM (hp3 _ (.head _)).1
      have hw3 : ((l.map fun t : Tk => (⟨#[t.1]⟩ : Str)).map (·.length)).sum + (l.map fun t : Tk => (⟨#[t.1]⟩ : Str)).length ≤ 1048576 := by
        rw [ones_sum, List.length_map]; omega
      (repeat' ((fail_if_success (with_reducible show wpAny _ _ (exec (Stmt.While _ _ _ _) _) _ _ _)); (fail_if_success (with_reducible show wpAny _ _ (eval (Expr.ListComp _ _ _ _) _) _ _ _)); first | (((with_reducible show wpAny _ _ (eval (Expr.Name _ _) (compEnvC _ _ _ _)) _ _ _); first | (refine' nameC_L ?mzF ?mzv ?mza ?mzb ?_; (case mzF => k_asm); (case mza => with_unfolding_all rfl); (case mzb => with_unfolding_all rfl); (case mzv => rfl)) | (refine' nameC_K ?mzF ?mzX ?mzT ?mze ?mza ?mzb ?mzc ?_; (case mzF => k_asm); (case mzX => k_asm); (case mzT => k_asm); (case mza => with_unfolding_all rfl); (case mzb => with_unfolding_all rfl); (case mzc => with_unfolding_all rfl); (case mze => k_is)) | (refine' nameC_B ?mzF ?mzX ?mzT ?mze ?mzv ?mzn ?mza ?mzb ?mzc ?mzd ?_; (case mzF => k_asm); (case mzX => k_asm); (case mzT => k_asm); (case mza => with_unfolding_all rfl); (case mzb => with_unfolding_all rfl); (case mzc => with_unfolding_all rfl); (case mzd => with_unfolding_all rfl); (case mze => k_is); (case mzv => boot_fast); (case mzn => decide)))) | (k_unfold; (try dsimp only)) | walk1 | (dsimp only; walk1)))
      refine CE.of F3 N3 (by simp) (by simp) (fun p hp => by simp [hp]) hmd (strsAre_snocE (word_join l) hS)
  · intro D ys k made' h tk' hS hk hp
    dsimp only at hk hp ⊢
    have F2 := F1.grownK hk
    have N2 := news_more F1 N1 hk hp
    simp only [List.nil_append] at N2
    rw [List.size_toArray, har.1, List.take_length] at hS
    have hD := ilM (hp _ (.head _)).1
    have hsl := words_sum ns hl
    have hw : ((ns.map fun l => (⟨(wordOf l).toArray⟩ : Str)).map (·.length)).sum + (ns.map fun l => (⟨(wordOf l).toArray⟩ : Str)).length ≤ 1048576 := by
      rw [List.length_map]; omega
    have hjl : (Txt.join (Str.ofString "/") (ns.map fun l => (⟨(wordOf l).toArray⟩ : Str))).length ≤ 1048576 := by
      have := join_len (Str.ofString "/") (ns.map fun l => (⟨(wordOf l).toArray⟩ : Str))
      have e : (Str.ofString "/").length = 1 := by decide
      rw [e, Nat.mul_one] at this
      omega
    clear hsl
    (repeat' ((fail_if_success (with_reducible show wpAny _ _ (exec (Stmt.While _ _ _ _) _) _ _ _)); (fail_if_success (with_reducible show wpAny _ _ (eval (Expr.ListComp _ _ _ _) _) _ _ _)); first | (((with_reducible show wpAny _ _ (eval (Expr.Name _ _) (compEnvC _ _ _ _)) _ _ _); first | (refine' nameC_L ?mzF ?mzv ?mza ?mzb ?_; (case mzF => k_asm); (case mza => with_unfolding_all rfl); (case mzb => with_unfolding_all rfl); (case mzv => rfl)) | (refine' nameC_K ?mzF ?mzX ?mzT ?mze ?mza ?mzb ?mzc ?_; (case mzF => k_asm); (case mzX => k_asm); (case mzT => k_asm); (case mza => with_unfolding_all rfl); (case mzb => with_unfolding_all rfl); (case mzc => with_unfolding_all rfl); (case mze => k_is)) | (refine' nameC_B ?mzF ?mzX ?mzT ?mze ?mzv ?mzn ?mza ?mzb ?mzc ?mzd ?_; (case mzF => k_asm); (case mzX => k_asm); (case mzT => k_asm); (case mza => with_unfolding_all rfl); (case mzb => with_unfolding_all rfl); (case mzc => with_unfolding_all rfl); (case mzd => with_unfolding_all rfl); (case mze => k_is); (case mzv => boot_fast); (case mzn => decide)))) | (k_unfold; (try dsimp only)) | walk1 | (dsimp only; walk1)))
    · exact hR _ _ _ _ _ (by k_asm) (by k_asm) (str_of (text_yes (by assumption)))
    · exact hR _ _ _ _ _ (by k_asm) (by k_asm) (str_of (text_no (by assumption)))
end Mine
end

section
open PySem PySem.W PyProof.Rows PySem.Calls PyProof
set_option maxRecDepth 100000
set_option maxHeartbeats 0
namespace Mine
theorem kfillL5 : Challenge.rw_pd0176_01.name = Challenge.rw_pd0176_01.name ∨ ∀ P, MineHd.K P = MineHd.K P := by
  k_fill
  exact .inl rfl
section
variable {w : World} {n : Nat} {E : Value → Shared → Prop} {s : Shared} {env env' : Env} {h₀ : Heap} {L : Addr} {m : Str → Option Value} {news : List (Addr × Obj)}
theorem list2 {a b : Int} {p1 p2 pos : Pos} {Q : Value → Shared → Prop} (F : Fr h₀ L s.heap m) (N : News h₀ L s.heap news)
    (h : ∀ h' tk' l t1 t2, Fr h₀ L h' m → News h₀ L h' ((l, W.listOf #[.int a t1, .int b t2] 0) :: news) → Q (.ref l) { s with heap := h', toks := tk' }) :
    wpAny (model PR w) ((Ar n).deeper env') (eval (.List [.Constant (.int a) 0 p1, .Constant (.int b) 0 p2] pos) env) Q E s := by
  (repeat' (first | (k_unfold; (try dsimp only)) | walk1 | (dsimp only; walk1)))
  exact h _ _ _ _ _ (by k_asm) (by k_asm)
theorem list1 {a : Int} {p1 pos : Pos} {Q : Value → Shared → Prop} (F : Fr h₀ L s.heap m) (N : News h₀ L s.heap news)
    (h : ∀ h' tk' l t1, Fr h₀ L h' m → News h₀ L h' ((l, W.listOf #[.int a t1] 0) :: news) → Q (.ref l) { s with heap := h', toks := tk' }) :
    wpAny (model PR w) ((Ar n).deeper env') (eval (.List [.Constant (.int a) 0 p1] pos) env) Q E s := by
  (repeat' (first | (k_unfold; (try dsimp only)) | walk1 | (dsimp only; walk1)))
  exact h _ _ _ _ (by k_asm) (by k_asm)
end
end Mine
end

section
open PySem PySem.W PyProof.Rows PySem.Calls
set_option maxRecDepth 100000
set_option maxHeartbeats 0
namespace Mine
/-- as enter_fnM, for a def with captured names -/
theorem enter_fnMC {w : World} {n : Nat} {f : Addr} {args : List Value} {Pre : Heap → Prop} {Post : List (Addr × Obj) → Value → Prop}
    {name qual : Str} {params : Arguments} {body : List Stmt} {scope : Scope} {dV kV doc pm cdv ct oc : Value} {an od : Option Addr} {osl : Array (Option Value)} (binds : List (Str × Value))
    (ho : (MineHd.K w.params).lookup f = some ⟨oc, od, .func (fnOf name qual params body scope dV kV doc pm an cdv ct), osl⟩) (hcd : codeIn (MineHd.K w.params) cdv qual = true) (hroom : n < recursionLimit)
    (hbind : ∀ s : Shared, (MineHd.K w.params).In s.heap → BindsTo s (fnOf name qual params body scope dV kV doc pm an cdv ct) ⟨args, []⟩ binds)
    (hkind : (binds.all fun y => scope.names.lookup y.1 == some .local || scope.names.lookup y.1 == some .cell) = true)
    (hnd : ((cellsFrom 0 scope.names []).map (·.1)).Nodup)
    (hco : scope.isCoroutine = false) (hgen : scope.isGenerator = false) (hk : scope.kind = .function)
    (h : ∀ (s : Shared) (h₁ : Heap) (L : Addr) (tk : Nat) (mean : ExcName → Option Value) (mg mb : Str → Option Value) (Q : Flow → Shared → Prop) (cells : List (Addr × Obj)), (MineHd.K w.params).In s.heap → Top VW LS mean mg mb s.heap → Pre s.heap →
      Fr s.heap L h₁ (bindL (envOfC qual scope L f cdv).kindOf binds fun _ => none) → News s.heap L h₁ cells → CellsAre (bindC (envOfC qual scope L f cdv).kindOf binds fun _ => none) (cellsFrom (L + 1) scope.names []) cells →
      (∀ v h' tk' m' news', Fr s.heap L h' m' → News s.heap L h' news' → Post news' v → Q (.ret v) { s with heap := h', toks := tk' }) →
      wpAny (model PR w) ((Ar n).deeper (envOfC qual scope L f cdv)) (execs body (envOfC qual scope L f cdv)) Q (fun _ _ => False) { s with heap := h₁, toks := tk }) : FnM w n f args Pre Post := by
  intro s mean mg mb R X T pre hR
  refine codeAny_call_function hroom (X _ _ ho) rfl hco hgen rfl (codeRec_of X hcd) (hbind s X _ _ _ _ ?_)
  refine wpAny_newFunctionEnv_cells hk (kindsX hkind _) fun env' he s' x => ?_
  subst he
  refine ⟨T.nolimit.keeps x.toInCall.keep, codeAny_func ?_⟩
  obtain ⟨h₁, tk, rfl, _⟩ := x.done
  have hk₁ := x.toInCall.keep
  obtain ⟨cells, NC, Y⟩ := Cl.news (h₀ := s.heap) (Nat.le_refl _) fun n c hm => ⟨x.cell n c (lookup_of_mem_nodup (cellsFrom_names scope.names 0 (s.heap.objs.size + 1) [] [] rfl ▸ hnd) hm), x.above n c hm⟩
  refine wpAny_mono (h s h₁ s.heap.objs.size tk mean mg mb (fun fl s' => R (.ok (.ret (match fl with | .ret v => v | _ => .none))) s') cells X T pre ⟨x.toInCall.ns, hk₁, Nat.le_refl _⟩ NC Y ?_) (fun _ _ x => x) (fun _ _ x => x.elim)
  intro v h' tk' m' news' F' N' hp
  exact hR v h' tk' news' F'.keep (fun p hp => ⟨(N' p hp).1, (N' p hp).2.2⟩) hp
section
variable {M : Model} {A : Around} {E : Value → Shared → Prop} {s : Shared} {env : Env} {C : Addr} {scope : Scope} {cl : List (Str × Addr)} {x : Str} {pos : Pos} {v : Value} {Q : Value → Shared → Prop}
theorem nameC_C {c : Addr} {o : Obj} (hg : s.heap.get? c = some o) (hd : o.data = .cell (some v)) (hc : (compEnvC scope cl C env).cells.lookup x = some c) (hk : (compEnvC scope cl C env).scope.kind = .function) (hx : (compEnvC scope cl C env).kindOf x = some .cell) (h : Q v s) (hb : (x == ("__debug__" : Str)) = false := by decide) :
    wpAny M A (eval (.Name x pos) (compEnvC scope cl C env)) Q E s := wpAny_Name (wpAny_loadName_cell hk hx hc ⟨o, hg, hd⟩ h) hb
end
end Mine
end

section
open PySem PySem.W PyProof.Rows PySem.Calls PyProof
set_option maxRecDepth 100000
set_option maxHeartbeats 0
namespace Mine
theorem kfillN2 : Challenge.rw_pd0176_01.name = Challenge.rw_pd0176_01.name ∨ ∀ P, MineHd.K P = MineHd.K P := by
  k_fill
  exact .inl rfl
section
variable {w : World} {n : Nat} {E : Value → Shared → Prop} {s : Shared} {env env' : Env} {h₀ : Heap} {L : Addr} {m : Str → Option Value} {news : List (Addr × Obj)}
theorem list0 {pos : Pos} {Q : Value → Shared → Prop} (F : Fr h₀ L s.heap m) (N : News h₀ L s.heap news)
    (h : ∀ h' l, Fr h₀ L h' m → News h₀ L h' ((l, W.listOf #[] 0) :: news) → (∀ p ∈ news, p.1 ≠ l) → Q (.ref l) { s with heap := h' }) :
    wpAny (model PR w) ((Ar n).deeper env') (eval (.List [] pos) env) Q E s := by
  repeat' (first | (k_unfold; (try dsimp only)) | walk1)
  exact h _ _ (by k_asm) (by k_asm) (fun p hp => Nat.ne_of_lt (Heap.lt_size (N p hp).1))
theorem tup46 {p1 p2 pos : Pos} {k : Nat} {Q : Value → Shared → Prop} (F : Fr h₀ L s.heap m) (N : News h₀ L s.heap news)
    (h : ∀ h' tk' l t1, Fr h₀ L h' m → News h₀ L h' ((l, pairO 46 t1 false) :: news) → (∀ p ∈ news, p.1 ≠ l) → Q (.ref l) { s with heap := h', toks := tk' }) :
    wpAny (model PR w) ((Ar n).deeper env') (eval (.Tuple [.Constant (.int 46) 0 p1, .Constant (.bool false) 0 p2] k pos) env) Q E s := by
  iterate 7 (first | (k_unfold; (try dsimp only)) | walk1)
  exact h _ _ _ _ (by k_asm) (by k_asm) (fun p hp => Nat.ne_of_lt (Heap.lt_size (N p hp).1))
theorem szS {k : Nat} (h : k ≤ 1000) : k ≤ sizeLine := by rw [sizeLine_eq]; omega
theorem listE1 {M : Model} {A : Around} {e : PySem.Expr} {pos : Pos} {Q : Value → Shared → Prop}
    (h : wpAny M A (eval e env) (fun v s₁ => ∃ m₁ news₁, Fr h₀ L s₁.heap m₁ ∧ News h₀ L s₁.heap news₁ ∧ ∀ h' l, Fr h₀ L h' m₁ → News h₀ L h' ((l, W.listOf #[v] 0) :: news₁) → (∀ p ∈ news₁, p.1 ≠ l) → Q (.ref l) { s₁ with heap := h' }) E s)
    (he : starEach [e] env = (false, eval e env) :: starEach [] env := by rfl) :
    wpAny M A (eval (.List [e] pos) env) Q E s := by
  refine List_ (spliced_more (wpAny_mono h (fun v s₁ h₁ => ?_) fun _ _ e => e) he)
  obtain ⟨m₁, news₁, F₁, N₁, k⟩ := h₁
  exact spliced_none (newList_N F₁ N₁ (fun h' F' N' => k h' _ F' N' fun p hp => Nat.ne_of_lt (Heap.lt_size (N₁ p hp).1)) (szS (Nat.le_of_ble_eq_true rfl)))
theorem listE2 {M : Model} {A : Around} {e e' : PySem.Expr} {pos : Pos} {Q : Value → Shared → Prop}
    (h : wpAny M A (eval e env) (fun v s₁ => wpAny M A (eval e' env) (fun v' s₁ => ∃ m₁ news₁, Fr h₀ L s₁.heap m₁ ∧ News h₀ L s₁.heap news₁ ∧ ∀ h' l, Fr h₀ L h' m₁ → News h₀ L h' ((l, W.listOf #[v, v'] 0) :: news₁) → (∀ p ∈ news₁, p.1 ≠ l) → Q (.ref l) { s₁ with heap := h' }) E s₁) E s)
    (he : starEach [e, e'] env = (false, eval e env) :: starEach [e'] env := by rfl) (he' : starEach [e'] env = (false, eval e' env) :: starEach [] env := by rfl) :
    wpAny M A (eval (.List [e, e'] pos) env) Q E s := by
  refine List_ (spliced_more (wpAny_mono h (fun v s₁ h₁ => ?_) fun _ _ e => e) he)
  refine spliced_more (wpAny_mono h₁ (fun v' s₂ h₂ => ?_) fun _ _ e => e) he'
  obtain ⟨m₁, news₁, F₁, N₁, k⟩ := h₂
  exact spliced_none (newList_N F₁ N₁ (fun h' F' N' => k h' _ F' N' fun p hp => Nat.ne_of_lt (Heap.lt_size (N₁ p hp).1)) (szS (Nat.le_of_ble_eq_true rfl)))
/-- the display of one name of two dots -/
theorem listDD {p1 p2 p3 p4 p5 p6 p7 p8 : Pos} {k k' : Nat} {Q : Value → Shared → Prop} (F : Fr h₀ L s.heap m) (N : News h₀ L s.heap news)
    (h : ∀ h' tk' l b c c' t t', Fr h₀ L h' m → News h₀ L h' ((l, W.listOf #[.ref b] 0) :: (b, W.listOf #[.ref c, .ref c'] 0) :: (c', pairO 46 t' false) :: (c, pairO 46 t false) :: news) → (∀ p ∈ news, p.1 ≠ l ∧ p.1 ≠ b ∧ p.1 ≠ c' ∧ p.1 ≠ c) → Q (.ref l) { s with heap := h', toks := tk' }) :
    wpAny (model PR w) ((Ar n).deeper env') (eval (.List [.List [.Tuple [.Constant (.int 46) 0 p1, .Constant (.bool false) 0 p2] k p3, .Tuple [.Constant (.int 46) 0 p4, .Constant (.bool false) 0 p5] k' p6] p7] p8) env) Q E s := by
  refine listE1 (h₀ := h₀) (L := L) (listE2 (h₀ := h₀) (L := L) (tup46 F N fun h₁ tk₁ c t F₁ N₁ hc => tup46 F₁ N₁ fun h₂ tk₂ c' t' F₂ N₂ hc' => ⟨_, _, F₂, N₂, fun h₃ b F₃ N₃ hb => ⟨_, _, F₃, N₃, fun h₄ l F₄ N₄ hl => ?_⟩⟩))
  exact h h₄ tk₂ l b c c' t t' F₄ N₄ fun p hp => ⟨hl p (.tail _ (.tail _ (.tail _ hp))), hb p (.tail _ (.tail _ hp)), hc' p (.tail _ hp), hc p hp⟩
end
theorem append_L {h₀ : Heap} {L p : Addr} {m : Str → Option Value} {rest all : List (Addr × Obj)} {ts : List Value} {n : Nat} {v : Value} {prog : Program} {w : World} {A : Around} {E : Value → Shared → Prop} {s : Shared} {Q : Value → Shared → Prop} (F : Fr h₀ L s.heap m) (N : News h₀ L s.heap all) (hs : ∀ q ∈ (p, W.listOf ts.toArray n) :: rest, q ∈ all) (hne : ∀ q ∈ rest, q.1 ≠ p) (hsz : ts.length ≤ 1000000)
    (h : ∀ h', Fr h₀ L h' m → News h₀ L h' ((p, W.listOf (ts ++ [v]).toArray (n + 1)) :: rest) → Q .none { s with heap := h' }) : wpAny (model prog w) A (call (.builtin "list.append") [.ref p, v]) Q E s :=
  append1 F (fun q hq => N q (hs q hq)) hne hsz h
theorem extend_L {prog : Program} {w : World} {A : Around} {E : Value → Shared → Prop} {s : Shared} {h₀ : Heap} {L D b : Addr} {m : Str → Option Value} {all rest : List (Addr × Obj)} {ys : List Value} {n n2 : Nat} {us : List Value} {Q : Value → Shared → Prop} (F : Fr h₀ L s.heap m) (N : News h₀ L s.heap all) (hD : (D, W.listOf ys.toArray n) ∈ all) (hb : (b, W.listOf us.toArray n2) ∈ all) (hs : ∀ q ∈ rest, q ∈ all) (hne : ∀ q ∈ rest, q.1 ≠ D) (hsz : ys.length + us.length ≤ 1000)
    (h : ∀ h' n', Fr h₀ L h' m → News h₀ L h' ((D, W.listOf (ys ++ us).toArray n') :: rest) → Q .none { s with heap := h' }) : wpAny (model prog w) A (call (.builtin "list.extend") [.ref D, .ref b]) Q E s := by
  have N' : News h₀ L s.heap ([] ++ (D, W.listOf ys.toArray n) :: rest) := fun q hq => (List.mem_cons.mp hq).elim (fun e => e ▸ N _ hD) fun hq => N _ (hs q hq)
  exact extend_in (own := []) F N' (fun _ h => nomatch h) hne (N _ hb).1 (fun h' n' F' N' => h h' n' F' N') (by rw [List.size_toArray]; exact szS hsz)
theorem AreM.app {α : Type} {P : List (Addr × Obj) → Value → α → Prop} {made : List (Addr × Obj)} {vs us : List Value} {xs ys : List α} (h : AreM P made vs xs) (h' : AreM P made us ys) : AreM P made (vs ++ us) (xs ++ ys) := by
  refine ⟨by simp [h.1, h'.1], fun i x hx => ?_⟩
  rcases Nat.lt_or_ge i xs.length with q | q
  · rw [List.getElem?_append_left q] at hx
    rw [List.getElem?_append_left (by rw [h.1]; exact q)]
    exact h.2 i x hx
  · rw [List.getElem?_append_right q] at hx
    rw [List.getElem?_append_right (by rw [h.1]; exact q), h.1]
    exact h'.2 _ x hx
theorem AreM.rev {α : Type} {P : List (Addr × Obj) → Value → α → Prop} {made : List (Addr × Obj)} {vs : List Value} {xs : List α} (h : AreM P made vs xs) : AreM P made vs.reverse xs.reverse := by
  refine ⟨by simp [h.1], fun i x hx => ?_⟩
  have hi : i < xs.length := by
    have := (List.getElem?_eq_some_iff.mp hx).1
    simpa using this
  rw [List.getElem?_reverse hi] at hx
  rw [List.getElem?_reverse (by rw [h.1]; exact hi), h.1]
  exact h.2 _ x hx
theorem AreM.rep {α : Type} {P : List (Addr × Obj) → Value → α → Prop} {made : List (Addr × Obj)} {v : Value} {x : α} (h : P made v x) (n : Nat) : AreM P made (List.replicate n v) (List.replicate n x) := by
  refine ⟨by simp, fun i y hy => ?_⟩
  have hi : i < n := by
    have := (List.getElem?_eq_some_iff.mp hy).1
    simpa using this
  rw [List.getElem?_replicate, if_pos hi] at hy
  rw [List.getElem?_replicate, if_pos hi, ← Option.some.inj hy]
  exact ⟨v, rfl, h⟩
theorem rep1 (un : Nat) (v : Value) : (List.replicate ((un : Int)).toNat [v]).flatten = List.replicate un v := by
  rw [Int.toNat_natCast]
  induction un with
  | zero => rfl
  | succ n ih => rw [List.replicate_succ, List.flatten_cons, ih]; rfl
theorem str_len0 {r : Str} (h : (r == Str.ofString "") = true) : (r.length != 0) = false := by
  have : r = Str.ofString "" := by simpa using h
  rw [this]; decide
theorem str_len1 {r : Str} (h : (r == Str.ofString "") = false) : (r.length != 0) = true := by
  cases e : r.length with
  | zero =>
    exfalso
    have h2 : r = Str.ofString "" := cs_inj.mp (by rw [cs_emp]; exact cs_nil.mpr e)
    rw [h2] at h
    revert h; decide
  | succ n => rfl
theorem nameDD {made : List (Addr × Obj)} {c c' : Addr} {t t' : Tok} (h1 : (c, pairO 46 t false) ∈ made) (h2 : (c', pairO 46 t' false) ∈ made) : AreM TkV made [.ref c, .ref c'] ddT :=
  AreM.snoc (vs := [.ref c]) (xs := [(46, false)]) (AreM.snoc (vs := []) (xs := []) AreM.nil ⟨c, t, rfl, h1⟩) ⟨c', t', rfl, h2⟩
theorem end_dd {made news : List (Addr × Obj)} {ts : List Value} {xs : List (List Tk)} {un kb : Nat} {b c c' : Addr} {t t' : Tok} (hS : AreM NameM made ts xs.reverse) (hb : (b, W.listOf #[.ref c, .ref c'] kb) ∈ news) (h1 : (c, pairO 46 t false) ∈ news) (h2 : (c', pairO 46 t' false) ∈ news) :
    AreM NameM (made ++ news) (ts ++ List.replicate un (Value.ref b)).reverse (List.replicate un ddT ++ xs) := by
  have A1 := hS.mono (made' := made ++ news) fun u x hu => NameM.mono (fun p hp => List.mem_append_left _ hp) hu
  have A2 := AreM.rep (P := NameM) (v := .ref b) (x := ddT) (made := made ++ news) ⟨b, [.ref c, .ref c'], kb, rfl, List.mem_append_right made hb, nameDD (List.mem_append_right made h1) (List.mem_append_right made h2)⟩ un
  have A3 := (A1.app A2).rev
  simp only [List.reverse_append, List.reverse_replicate, List.reverse_reverse] at A3 ⊢
  exact A3
theorem end_st {made news : List (Addr × Obj)} {ts : List Value} {xs : List (List Tk)} (hS : AreM NameM made ts xs.reverse) : AreM NameM (made ++ news) ts.reverse xs := by
  have A1 := (hS.mono (made' := made ++ news) fun u x hu => NameM.mono (fun p hp => List.mem_append_left _ hp) hu).rev
  rw [List.reverse_reverse] at A1
  exact A1
end Mine
end

section
open PySem PySem.W PyProof.Rows PySem.Calls PyProof
set_option maxRecDepth 100000
set_option maxHeartbeats 0
namespace Mine
theorem kfillM5 : Challenge.rw_pd0176_01.name = Challenge.rw_pd0176_01.name ∨ ∀ P, MineHd.K P = MineHd.K P := by
  k_fill
  exact .inl rfl
local macro_rules | `(tactic| walk_at "binaryOp Mult ref int") => `(tactic| ((with_reducible show wpAny _ _ (binaryOp .Mult (Value.ref _) (Value.int ((_ : Nat) : Int) _)) _ _ _); (with_reducible rename News _ _ _ _ => NQ); refine KMa.mul (by k_asm) NQ (News.isList NQ (List.Mem.head _)) (by omega) (by omega) (by simp; omega) (rep1 _ _) ?_; intro D' h' F' N' lD; (try dsimp only)))
local macro_rules | `(tactic| walk_at "subscriptTail Name Slice ref ref") => `(tactic| ((with_reducible show wpAny _ _ (subscriptTail _ (PySem.Expr.Slice none none (some _) _) (Value.ref _) (Value.ref _)) _ _ _); k_dflt (refine' krv_lit ?F ?N ?l ?k ?e ?_ ?s ?t ?z; (case F => k_asm); (case N => k_asm); (case l => (with_reducible assumption)); (case k => exact IsPart.int _ _); (case e => exact rfl); (case s => with_unfolding_all rfl); (case t => kmk_pure); (case z => (refine szS ?_; simp only [List.size_toArray, List.length_append, List.length_replicate]; omega))); intro D' h' F' N' lD; (try dsimp only)))
local macro_rules | `(tactic| walk_at "mine list3") => `(tactic| ((with_reducible show wpAny _ _ (eval (Expr.List [Expr.List [Expr.Tuple _ _ _, Expr.Tuple _ _ _] _] _) _) _ _ _); (refine listDD (by k_asm) (by k_asm) ?_; intro h' tk' l b c c' t t' F' N' hl'; (try dsimp only))))
local macro_rules | `(tactic| walk_at "mine list") => `(tactic| first
  | ((with_reducible show wpAny _ _ (eval (Expr.List [Expr.Constant (Const.int _) _ _] _) _) _ _ _); (refine list1 (by k_asm) (by k_asm) ?_; intro h' tk' l t1 F' N'; (try dsimp only); (try k_sweep)))
  | ((with_reducible show wpAny _ _ (eval (Expr.List [Expr.Constant (Const.int _) _ _, Expr.Constant (Const.int _) _ _] _) _) _ _ _); (refine list2 (by k_asm) (by k_asm) ?_; intro h' tk' l t1 t2 F' N'; (try dsimp only); (try k_sweep))))
theorem news_tail {h₀ h : Heap} {L : Addr} {p : Addr × Obj} {news : List (Addr × Obj)} (N : News h₀ L h (p :: news)) : News h₀ L h news := fun q hq => N q (.tail _ hq)
section
variable {prog : Program} {w : World} {A : Around} {E : Value → Shared → Prop} {s : Shared}
theorem eq_intsB {l b : Addr} {vs us : List Value} {ns ms : List Nat} {c : Bool} {Q : Value → Shared → Prop} (hl : s.heap.IsList l vs.toArray) (hb : s.heap.IsList b us.toArray) (hv : IntsN vs ns) (hm : IntsN us ms) (hu : A.units < cLine) (hc : decide (ns = ms) = c) (h : Q (.bool c) s) :
    wpAny (model prog w) A (compareOp .Eq (.ref l) (.ref b)) Q E s := by subst hc; exact eq_ints hl hb hv hm hu h
theorem ne_intsB {l b : Addr} {vs us : List Value} {ns ms : List Nat} {c : Bool} {Q : Value → Shared → Prop} (hl : s.heap.IsList l vs.toArray) (hb : s.heap.IsList b us.toArray) (hv : IntsN vs ns) (hm : IntsN us ms) (hu : A.units < cLine) (hc : decide (ns = ms) = c) (h : Q (.bool (!c)) s) :
    wpAny (model prog w) A (compareOp .NotEq (.ref l) (.ref b)) Q E s := by subst hc; exact ne_ints hl hb hv hm hu h
end
theorem intsN1 {a : Tok} : IntsN [.int 46 a] [46] := by
  refine ⟨rfl, fun i n h => ?_⟩
  rcases i with _ | i
  · have e : 46 = n := Option.some.inj h
    subst e; exact ⟨a, rfl⟩
  · simp at h
theorem intsN2 {a b : Tok} : IntsN [.int 46 a, .int 46 b] [46, 46] := by
  refine ⟨rfl, fun i n h => ?_⟩
  rcases i with _ | _ | i
  · have e : 46 = n := Option.some.inj h
    subst e; exact ⟨a, rfl⟩
  · have e : 46 = n := Option.some.inj h
    subst e; exact ⟨b, rfl⟩
  · simp at h
theorem intsN_snoc {vs : List Value} {ns : List Nat} {n : Nat} {t : Tok} (h : IntsN vs ns) : IntsN (vs ++ [.int (n : Nat) t]) (ns ++ [n]) := by
  have h2 : AreM NatV [] vs ns := ⟨h.1, fun i n hn => by obtain ⟨t, ht⟩ := h.2 i n hn; exact ⟨_, ht, t, rfl⟩⟩
  have h3 := AreM.snoc (u := .int (n : Nat) t) h2 ⟨t, rfl⟩
  exact ⟨h3.1, fun i m hm => by obtain ⟨u, hu, t, rfl⟩ := h3.2 i m hm; exact ⟨t, hu⟩⟩
local macro_rules | `(tactic| walk_at "compareOp Eq ref ref") => `(tactic| ((with_reducible rename News _ _ _ _ => NQ); (refine eq_intsB (ms := [46, 46]) (News.isList NQ (List.Mem.tail _ (List.Mem.head _))) (News.isList NQ (List.Mem.head _)) (by with_reducible assumption) intsN2 (Nat.le_of_ble_eq_true rfl) (by with_reducible assumption) ?_)))
local macro_rules | `(tactic| walk_at "compareOp NotEq ref ref") => `(tactic| ((with_reducible rename News _ _ _ _ => NQ); first
  | (refine ne_intsB (ms := [46]) (News.isList NQ (List.Mem.tail _ (List.Mem.tail _ (List.Mem.head _)))) (News.isList NQ (List.Mem.head _)) (by with_reducible assumption) intsN1 (Nat.le_of_ble_eq_true rfl) (by with_reducible assumption) ?_)
  | (refine ne_intsB (ms := [46]) (News.isList NQ (List.Mem.tail _ (List.Mem.tail _ (List.Mem.tail _ (List.Mem.head _))))) (News.isList NQ (List.Mem.head _)) (by with_reducible assumption) intsN1 (Nat.le_of_ble_eq_true rfl) (by with_reducible assumption) ?_)))
noncomputable def stAt (ns : List (List Tk)) (i : Nat) : List (List Tk) × Nat := (ns.drop (ns.length - i)).foldr stStep ([], 0)
theorem stAt_zero (ns : List (List Tk)) : stAt ns 0 = ([], 0) := by
  unfold stAt; rw [Nat.sub_zero, List.drop_length]; rfl
theorem stAt_all (ns : List (List Tk)) : stAt ns ns.length = ns.foldr stStep ([], 0) := by
  unfold stAt; rw [Nat.sub_self, List.drop_zero]
theorem stAt_succ {ns : List (List Tk)} {i : Nat} {x : List Tk} (h : ns[ns.length - 1 - i]? = some x) (hi : i < ns.length) : stAt ns (i + 1) = stStep x (stAt ns i) := by
  unfold stAt
  have hk : ns.length - 1 - i < ns.length := by omega
  have e : ns.length - (i + 1) = ns.length - 1 - i := by omega
  rw [e, List.drop_eq_getElem_cons hk, show ns.length - 1 - i + 1 = ns.length - i by omega, List.foldr_cons]
  rw [List.getElem?_eq_getElem hk] at h
  rw [Option.some.inj h]
theorem stAt_len (ns : List (List Tk)) (i : Nat) : (stAt ns i).1.length ≤ i ∧ (stAt ns i).2 ≤ i := by
  have key : ∀ l : List (List Tk), (l.foldr stStep ([], 0)).1.length ≤ l.length ∧ (l.foldr stStep ([], 0)).2 ≤ l.length := by
    intro l
    induction l with
    | nil => exact ⟨Nat.le_refl _, Nat.le_refl _⟩
    | cons x l ih =>
      rw [List.foldr_cons]
      generalize l.foldr stStep ([], 0) = st at *
      unfold stStep
      simp only [List.length_cons]
      split
      · exact ⟨by dsimp only; omega, by dsimp only; omega⟩
      · split
        · exact ⟨by dsimp only; omega, by dsimp only; omega⟩
        · split
          · exact ⟨by simp; omega, by dsimp only; omega⟩
          · exact ⟨by omega, by omega⟩
  have := key (ns.drop (ns.length - i))
  rw [List.length_drop] at this
  unfold stAt
  omega
theorem straight_spec (w : World) (root : Str) (t : Tok) (a : Addr) (ns : List (List Tk)) (made : List (Addr × Obj)) (hnm : NamesM made (.ref a) ns) (hr : root.length ≤ 10) (hn : ns.length ≤ 200) (hl : ∀ l ∈ ns, l.length ≤ 1000) (hc : ∀ l ∈ ns, ∀ t ∈ l, t.1 < 256) :
    FnM w 700 241 [.str root t, .ref a] (fun h => Stand h made) (fun new v => NamesM (made ++ new) v (straight (root.length != 0) ns)) := by
  w_on
  refine' enter_fnM [(Str.ofString "root", .str root t), (Str.ofString "names", .ref a)] ?k6 ?k7 ?k8 ?k9 ?kB ?c2 ?c3 ?c4 ?c5 ?_
  (((case k6 => k_is); (case k7 => k_is); (case k8 => decide); (case k9 => first | (intro _ _; exact BindsTo.of_eq rfl) | (intro _ X9; exact binds_K X9 rfl (by k_is) rfl rfl rfl)); (case c5 => decide); (case kB => exact locs rfl); (case c2 => exact rfl); (case c3 => exact rfl); (case c4 => exact rfl)))
  intro s h₁ L tk mean mg mb Q htk X T hst F N hR
  obtain ⟨a', vs, k, e, hm, har⟩ := hnm
  injection e with e
  subst e
  have hA := ilM (hst _ hm)
  have hA1 := ilK F hA
  have hvl : vs.length ≤ 200 := by rw [har.1]; exact hn
  (repeat' ((fail_if_success (with_reducible show wpAny _ _ (call (Value.builtin "list.extend") _) _ _ _)); (fail_if_success (with_reducible show wpAny _ _ (exec (Stmt.While _ _ _ _) _) _ _ _)); (fail_if_success (with_reducible show wpAny _ _ (exec (Stmt.For _ _ _ _ _) _) _ _ _)); (fail_if_success (with_reducible show wpAny _ _ (eval (Expr.ListComp _ _ _ _) _) _ _ _)); (fail_if_success (with_reducible show wpAny _ _ (exec (Stmt.Assign [_] (Expr.ListComp _ _ _ _) _) _) _ _ _)); first | (((with_reducible show wpAny _ _ (eval (Expr.Name _ _) (compEnvC _ _ _ _)) _ _ _); first | (refine' nameC_L ?mzF ?mzv ?mza ?mzb ?_; (case mzF => k_asm); (case mza => with_unfolding_all rfl); (case mzb => with_unfolding_all rfl); (case mzv => rfl)) | (refine' nameC_K ?mzF ?mzX ?mzT ?mze ?mza ?mzb ?mzc ?_; (case mzF => k_asm); (case mzX => k_asm); (case mzT => k_asm); (case mza => with_unfolding_all rfl); (case mzb => with_unfolding_all rfl); (case mzc => with_unfolding_all rfl); (case mze => k_is)) | (refine' nameC_B ?mzF ?mzX ?mzT ?mze ?mzv ?mzn ?mza ?mzb ?mzc ?mzd ?_; (case mzF => k_asm); (case mzX => k_asm); (case mzT => k_asm); (case mza => with_unfolding_all rfl); (case mzb => with_unfolding_all rfl); (case mzc => with_unfolding_all rfl); (case mzd => with_unfolding_all rfl); (case mze => k_is); (case mzv => boot_fast); (case mzn => decide)))) | (first | ((with_reducible show wpAny _ _ (callWith _ _ _ _ _) _ _ _); refine callWith_method1 ?_) | ((with_reducible show wpAny _ _ (spliced (backTo _ (starEach (_ :: _) _))) _ _ _); refine spliced_more ?_)) | walk_at "mine list3" | walk_at "mine list" | (k_unfold; (try dsimp only)) | walk1 | (dsimp only; walk1)))
  refine For_invV s.heap rfl rfl ?_
  (repeat' ((fail_if_success (with_reducible show wpAny _ _ (call (Value.builtin "list.extend") _) _ _ _)); (fail_if_success (with_reducible show wpAny _ _ (exec (Stmt.While _ _ _ _) _) _ _ _)); (fail_if_success (with_reducible show wpAny _ _ (exec (Stmt.For _ _ _ _ _) _) _ _ _)); (fail_if_success (with_reducible show wpAny _ _ (eval (Expr.ListComp _ _ _ _) _) _ _ _)); (fail_if_success (with_reducible show wpAny _ _ (exec (Stmt.Assign [_] (Expr.ListComp _ _ _ _) _) _) _ _ _)); first | (((with_reducible show wpAny _ _ (eval (Expr.Name _ _) (compEnvC _ _ _ _)) _ _ _); first | (refine' nameC_L ?mzF ?mzv ?mza ?mzb ?_; (case mzF => k_asm); (case mza => with_unfolding_all rfl); (case mzb => with_unfolding_all rfl); (case mzv => rfl)) | (refine' nameC_K ?mzF ?mzX ?mzT ?mze ?mza ?mzb ?mzc ?_; (case mzF => k_asm); (case mzX => k_asm); (case mzT => k_asm); (case mza => with_unfolding_all rfl); (case mzb => with_unfolding_all rfl); (case mzc => with_unfolding_all rfl); (case mze => k_is)) | (refine' nameC_B ?mzF ?mzX ?mzT ?mze ?mzv ?mzn ?mza ?mzb ?mzc ?mzd ?_; (case mzF => k_asm); (case mzX => k_asm); (case mzT => k_asm); (case mza => with_unfolding_all rfl); (case mzb => with_unfolding_all rfl); (case mzc => with_unfolding_all rfl); (case mzd => with_unfolding_all rfl); (case mze => k_is); (case mzv => boot_fast); (case mzn => decide)))) | (first | ((with_reducible show wpAny _ _ (callWith _ _ _ _ _) _ _ _); refine callWith_method1 ?_) | ((with_reducible show wpAny _ _ (spliced (backTo _ (starEach (_ :: _) _))) _ _ _); refine spliced_more ?_)) | walk_at "mine list3" | walk_at "mine list" | (k_unfold; (try dsimp only)) | walk1 | (dsimp only; walk1)))
  (try dsimp only)
  (with_reducible rename News _ _ _ _ => N1)
  (with_reducible rename Fr _ _ _ _ => F1)
  (rename Addr => lf)
  rw [krv_pick] at N1
  dsimp only at N1 F1
  have hl1 := News.isList N1 (.head _)
  have hlr := Heap.lt_size ((‹News s.heap L _ [(lf, W.listOf #[] 0)]› : News _ _ _ _) _ (.head _)).1
  have N0 := news_tail N1
  refine iter_listN (L := L) (news := [(lf, W.listOf #[] 0)]) [Str.ofString "name", Str.ofString "word", Str.ofString "ups"] (fun i m news => ∃ ts k tu, m (Str.ofString "ups") = some (.int ((stAt ns i).2 : Nat) tu) ∧ news = [(lf, W.listOf ts.toArray k)] ∧ AreM NameM made ts ((stAt ns i).1.reverse)) rfl rfl hl1 (N1 _ (.head _)).2.1 F1 N0 ?_ ?_ ?_
  · rw [stAt_zero]; exact ⟨[], 0, _, rfl, rfl, AreM.nil⟩
  · rintro I i v m₁ news₁ own h tk' oI hi hv hm ⟨ts, k3, tu, hup, rfl, hS⟩ h1 h2 h3 h4 F2 N2
    have hi' : i < ns.length := by simpa [har.1] using hi
    obtain ⟨u, hu, hnx⟩ := har.2 (ns.length - 1 - i) ns[ns.length - 1 - i] (List.getElem?_eq_getElem (by omega))
    have hvu : v = u := by
      have e1 : vs.reverse[i]? = some v := by simpa using hv
      rw [List.getElem?_reverse (by rw [har.1]; exact hi'), har.1, hu] at e1
      exact (Option.some.inj e1).symm
    subst hvu
    have hx := List.getElem?_eq_getElem (show ns.length - 1 - i < ns.length by omega)
    have hst1 := stAt_succ hx hi'
    have hll := hl _ (List.getElem_mem (show ns.length - 1 - i < ns.length by omega))
    have hlc := hc _ (List.getElem_mem (show ns.length - 1 - i < ns.length by omega))
    have hsl := stAt_len ns i
    rw [hst1]
    generalize ns[ns.length - 1 - i] = x at *
    generalize stAt ns i = st at *
    obtain ⟨xs, un⟩ := st
    dsimp only at hsl hup hS
    obtain ⟨b, us, k4, rfl, hbm, hus⟩ := hnx
    refine let_ov1 [(Str.ofString "name", m₁ (Str.ofString "name")), (Str.ofString "word", m₁ (Str.ofString "word")), (Str.ofString "ups", some (.int (un : Nat) tu))] F2 (by simp [hup]) hm rfl ?_
    clear F2
    intro mAF2 F2
    clear hm hup hl1 F1 N1 N0 hu hv hst1 hx
    dsimp only at F2 N2 ⊢
    (repeat' ((fail_if_success (with_reducible show wpAny _ _ (call (Value.builtin "list.extend") _) _ _ _)); (fail_if_success (with_reducible show wpAny _ _ (exec (Stmt.While _ _ _ _) _) _ _ _)); (fail_if_success (with_reducible show wpAny _ _ (exec (Stmt.For _ _ _ _ _) _) _ _ _)); (fail_if_success (with_reducible show wpAny _ _ (eval (Expr.ListComp _ _ _ _) _) _ _ _)); (fail_if_success (with_reducible show wpAny _ _ (exec (Stmt.Assign [_] (Expr.ListComp _ _ _ _) _) _) _ _ _)); first | (((with_reducible show wpAny _ _ (eval (Expr.Name _ _) (compEnvC _ _ _ _)) _ _ _); first | (refine' nameC_L ?mzF ?mzv ?mza ?mzb ?_; (case mzF => k_asm); (case mza => with_unfolding_all rfl); (case mzb => with_unfolding_all rfl); (case mzv => rfl)) | (refine' nameC_K ?mzF ?mzX ?mzT ?mze ?mza ?mzb ?mzc ?_; (case mzF => k_asm); (case mzX => k_asm); (case mzT => k_asm); (case mza => with_unfolding_all rfl); (case mzb => with_unfolding_all rfl); (case mzc => with_unfolding_all rfl); (case mze => k_is)) | (refine' nameC_B ?mzF ?mzX ?mzT ?mze ?mzv ?mzn ?mza ?mzb ?mzc ?mzd ?_; (case mzF => k_asm); (case mzX => k_asm); (case mzT => k_asm); (case mza => with_unfolding_all rfl); (case mzb => with_unfolding_all rfl); (case mzc => with_unfolding_all rfl); (case mzd => with_unfolding_all rfl); (case mze => k_is); (case mzv => boot_fast); (case mzn => decide)))) | (first | ((with_reducible show wpAny _ _ (callWith _ _ _ _ _) _ _ _); refine callWith_method1 ?_) | ((with_reducible show wpAny _ _ (spliced (backTo _ (starEach (_ :: _) _))) _ _ _); refine spliced_more ?_)) | walk_at "mine list3" | walk_at "mine list" | (k_unfold; (try dsimp only)) | walk1 | (dsimp only; walk1)))
    refine' comp_listPA (cl := []) ?a1 ?a2 ?a3 ?s1 ?s2 ?s3 ?s4 ?s5 ?s5b ?s6 ?_
    case a1 => with_unfolding_all rfl
    case a2 => with_unfolding_all rfl
    case a3 => with_unfolding_all rfl
    (((case s1 => with_unfolding_all rfl); (case s2 => decide); (case s3 => with_unfolding_all rfl); (case s4 => decide); (case s5 => with_unfolding_all rfl); (case s5b => with_unfolding_all rfl); (case s6 => with_unfolding_all rfl)))
    (repeat' ((fail_if_success (with_reducible show wpAny _ _ (call (Value.builtin "list.extend") _) _ _ _)); (fail_if_success (with_reducible show wpAny _ _ (exec (Stmt.While _ _ _ _) _) _ _ _)); (fail_if_success (with_reducible show wpAny _ _ (exec (Stmt.For _ _ _ _ _) _) _ _ _)); (fail_if_success (with_reducible show wpAny _ _ (eval (Expr.ListComp _ _ _ _) _) _ _ _)); (fail_if_success (with_reducible show wpAny _ _ (exec (Stmt.Assign [_] (Expr.ListComp _ _ _ _) _) _) _ _ _)); first | (((with_reducible show wpAny _ _ (eval (Expr.Name _ _) (compEnvC _ _ _ _)) _ _ _); first | (refine' nameC_L ?mzF ?mzv ?mza ?mzb ?_; (case mzF => k_asm); (case mza => with_unfolding_all rfl); (case mzb => with_unfolding_all rfl); (case mzv => rfl)) | (refine' nameC_K ?mzF ?mzX ?mzT ?mze ?mza ?mzb ?mzc ?_; (case mzF => k_asm); (case mzX => k_asm); (case mzT => k_asm); (case mza => with_unfolding_all rfl); (case mzb => with_unfolding_all rfl); (case mzc => with_unfolding_all rfl); (case mze => k_is)) | (refine' nameC_B ?mzF ?mzX ?mzT ?mze ?mzv ?mzn ?mza ?mzb ?mzc ?mzd ?_; (case mzF => k_asm); (case mzX => k_asm); (case mzT => k_asm); (case mza => with_unfolding_all rfl); (case mzb => with_unfolding_all rfl); (case mzc => with_unfolding_all rfl); (case mzd => with_unfolding_all rfl); (case mze => k_is); (case mzv => boot_fast); (case mzn => decide)))) | (first | ((with_reducible show wpAny _ _ (callWith _ _ _ _ _) _ _ _); refine callWith_method1 ?_) | ((with_reducible show wpAny _ _ (spliced (backTo _ (starEach (_ :: _) _))) _ _ _); refine spliced_more ?_)) | walk_at "mine list3" | walk_at "mine list" | (k_unfold; (try dsimp only)) | walk1 | (dsimp only; walk1)))
    show ∃ _, _
    dsimp only
    refine ⟨b, us.toArray, fun i ys _ => IntsN ys ((x.take i).map (·.1)), _, _, _, F2, N2, rfl, ilK F2 (ilM (hst _ hbm)), by simp only [List.size_toArray, hus.1]; omega, ?_, ?_, ⟨rfl, fun i n h => by simp at h⟩, ?_, ?_⟩
    · intro i2 v hv
      have hi2 : i2 < x.length := by
        have := (Array.getElem?_eq_some_iff.mp hv).1
        rw [List.size_toArray, hus.1] at this; exact this
      obtain ⟨u, hu, c, tt, rfl, hcm⟩ := hus.2 i2 _ (List.getElem?_eq_getElem hi2)
      have hv' : us[i2]? = some v := by simpa using hv
      rw [hu] at hv'
      exact ⟨c, _, tt, _, (Option.some.inj hv').symm, goK F2 (hst _ hcm)⟩
    · intro i ys made hS
      rw [hS.1, List.length_map, List.length_take]; omega
    · intro I3 C3 D3 i3 c cn tt b3 m3 ys3 k3 made3 oI3 h3 tk3 E3 hv3 hc3 hS3 F3 N3 hmd3 hDI3
      have hi3 : i3 < x.length := by
        have := (Array.getElem?_eq_some_iff.mp hv3).1
        rw [List.size_toArray, hus.1] at this; exact this
      obtain ⟨u, hu, c', t', rfl, hcm⟩ := hus.2 i3 _ (List.getElem?_eq_getElem hi3)
      have hcc : c = c' := by
        have hv' : us[i3]? = some (.ref c) := by simpa using hv3
        rw [hu] at hv'
        injection hv' with hv'; injection hv' with hv'; exact hv'.symm
      subst hcc
      have e := goK F2 (hst _ hcm)
      rw [hc3] at e
      have hcn := (pairO_inj (Option.some.inj e)).1
      have hmt := map_take_succ (fun t : Tk => t.1) (List.getElem?_eq_getElem hi3)
      rw [← hcn] at hmt
      have X3 := (X.keeps F2.keep)
      have T3 := T.keeps F2.keep
      clear e hcn hcm hu hv3
      (repeat' ((fail_if_success (with_reducible show wpAny _ _ (call (Value.builtin "list.extend") _) _ _ _)); (fail_if_success (with_reducible show wpAny _ _ (exec (Stmt.While _ _ _ _) _) _ _ _)); (fail_if_success (with_reducible show wpAny _ _ (exec (Stmt.For _ _ _ _ _) _) _ _ _)); (fail_if_success (with_reducible show wpAny _ _ (eval (Expr.ListComp _ _ _ _) _) _ _ _)); (fail_if_success (with_reducible show wpAny _ _ (exec (Stmt.Assign [_] (Expr.ListComp _ _ _ _) _) _) _ _ _)); first | (((with_reducible show wpAny _ _ (eval (Expr.Name _ _) (compEnvC _ _ _ _)) _ _ _); first | (refine' nameC_L ?mzF ?mzv ?mza ?mzb ?_; (case mzF => k_asm); (case mza => with_unfolding_all rfl); (case mzb => with_unfolding_all rfl); (case mzv => rfl)) | (refine' nameC_K ?mzF ?mzX ?mzT ?mze ?mza ?mzb ?mzc ?_; (case mzF => k_asm); (case mzX => k_asm); (case mzT => k_asm); (case mza => with_unfolding_all rfl); (case mzb => with_unfolding_all rfl); (case mzc => with_unfolding_all rfl); (case mze => k_is)) | (refine' nameC_B ?mzF ?mzX ?mzT ?mze ?mzv ?mzn ?mza ?mzb ?mzc ?mzd ?_; (case mzF => k_asm); (case mzX => k_asm); (case mzT => k_asm); (case mza => with_unfolding_all rfl); (case mzb => with_unfolding_all rfl); (case mzc => with_unfolding_all rfl); (case mzd => with_unfolding_all rfl); (case mze => k_is); (case mzv => boot_fast); (case mzn => decide)))) | (first | ((with_reducible show wpAny _ _ (callWith _ _ _ _ _) _ _ _); refine callWith_method1 ?_) | ((with_reducible show wpAny _ _ (spliced (backTo _ (starEach (_ :: _) _))) _ _ _); refine spliced_more ?_)) | walk_at "mine list3" | walk_at "mine list" | (k_unfold; (try dsimp only)) | walk1 | (dsimp only; walk1)))
      exact CE.of F3 N3 (.head _) (.tail _ (.head _)) (fun p hp => .tail _ (.tail _ hp)) hmd3 (by show IntsN _ _; rw [hmt]; exact intsN_snoc hS3)
    · intro D3 ys3 k5 made3 h3 tk3 hS3 F3 N3
      have F4 : Fr s.heap L h3 _ := F3
      have hS4 : IntsN ys3 (wordOf x) := by rw [List.size_toArray, hus.1, List.take_length] at hS3; exact hS3
      have N4 : News s.heap L h3 ((D3, W.listOf ys3.toArray k5) :: ([(lf, W.listOf ts.toArray k3)] ++ own)) := fun p hp => N3 p (by
        rcases List.mem_cons.mp hp with rfl | hp
        · exact List.mem_append_right _ (.head _)
        · exact List.mem_append_left _ hp)
      clear F3 N3 hS3 F2 N2
      (try dsimp only at F4)
      (try dsimp only at N4)
      (try dsimp only)
      by_cases w1 : wordOf x = [46, 46]
      · have d1 : decide (wordOf x = [46, 46]) = true := decide_eq_true w1
        have e1 : stStep x (xs, un) = (xs, un + 1) := by unfold stStep; rw [if_pos w1]
        rw [e1]
        (repeat' ((fail_if_success (with_reducible show wpAny _ _ (call (Value.builtin "list.extend") _) _ _ _)); (fail_if_success (with_reducible show wpAny _ _ (exec (Stmt.While _ _ _ _) _) _ _ _)); (fail_if_success (with_reducible show wpAny _ _ (exec (Stmt.For _ _ _ _ _) _) _ _ _)); (fail_if_success (with_reducible show wpAny _ _ (eval (Expr.ListComp _ _ _ _) _) _ _ _)); (fail_if_success (with_reducible show wpAny _ _ (exec (Stmt.Assign [_] (Expr.ListComp _ _ _ _) _) _) _ _ _)); first | (((with_reducible show wpAny _ _ (eval (Expr.Name _ _) (compEnvC _ _ _ _)) _ _ _); first | (refine' nameC_L ?mzF ?mzv ?mza ?mzb ?_; (case mzF => k_asm); (case mza => with_unfolding_all rfl); (case mzb => with_unfolding_all rfl); (case mzv => rfl)) | (refine' nameC_K ?mzF ?mzX ?mzT ?mze ?mza ?mzb ?mzc ?_; (case mzF => k_asm); (case mzX => k_asm); (case mzT => k_asm); (case mza => with_unfolding_all rfl); (case mzb => with_unfolding_all rfl); (case mzc => with_unfolding_all rfl); (case mze => k_is)) | (refine' nameC_B ?mzF ?mzX ?mzT ?mze ?mzv ?mzn ?mza ?mzb ?mzc ?mzd ?_; (case mzF => k_asm); (case mzX => k_asm); (case mzT => k_asm); (case mza => with_unfolding_all rfl); (case mzb => with_unfolding_all rfl); (case mzc => with_unfolding_all rfl); (case mzd => with_unfolding_all rfl); (case mze => k_is); (case mzv => boot_fast); (case mzn => decide)))) | (first | ((with_reducible show wpAny _ _ (callWith _ _ _ _ _) _ _ _); refine callWith_method1 ?_) | ((with_reducible show wpAny _ _ (spliced (backTo _ (starEach (_ :: _) _))) _ _ _); refine spliced_more ?_)) | walk_at "mine list3" | walk_at "mine list" | (k_unfold; (try dsimp only)) | walk1 | (dsimp only; walk1)))
        (with_reducible rename News _ _ _ _ => NE)
        exact TE.names (.inl rfl) (by k_asm) (by first | exact news_tail (news_tail NE) | exact news_tail (news_tail (news_tail NE)) | exact news_tail (news_tail (news_tail (news_tail NE)))) h1 (by (repeat (first | exact fun _ _ => rfl | exact off_all | refine off_put (by decide) ?_ | refine off_sub (by kernel_rfl) ?_))) ⟨ts, k3, _, int_of (x := (un : Int) + 1) rfl, rfl, hS⟩
      · have d1 : decide (wordOf x = [46, 46]) = false := decide_eq_false w1
        by_cases w2 : wordOf x = [46]
        · have d2 : decide (wordOf x = [46]) = true := decide_eq_true w2
          have e1 : stStep x (xs, un) = (xs, un) := by unfold stStep; rw [if_neg w1, if_neg (by simp [w2]), if_neg (by simp [w2])]
          rw [e1]
          (repeat' ((fail_if_success (with_reducible show wpAny _ _ (call (Value.builtin "list.extend") _) _ _ _)); (fail_if_success (with_reducible show wpAny _ _ (exec (Stmt.While _ _ _ _) _) _ _ _)); (fail_if_success (with_reducible show wpAny _ _ (exec (Stmt.For _ _ _ _ _) _) _ _ _)); (fail_if_success (with_reducible show wpAny _ _ (eval (Expr.ListComp _ _ _ _) _) _ _ _)); (fail_if_success (with_reducible show wpAny _ _ (exec (Stmt.Assign [_] (Expr.ListComp _ _ _ _) _) _) _ _ _)); first | (((with_reducible show wpAny _ _ (eval (Expr.Name _ _) (compEnvC _ _ _ _)) _ _ _); first | (refine' nameC_L ?mzF ?mzv ?mza ?mzb ?_; (case mzF => k_asm); (case mza => with_unfolding_all rfl); (case mzb => with_unfolding_all rfl); (case mzv => rfl)) | (refine' nameC_K ?mzF ?mzX ?mzT ?mze ?mza ?mzb ?mzc ?_; (case mzF => k_asm); (case mzX => k_asm); (case mzT => k_asm); (case mza => with_unfolding_all rfl); (case mzb => with_unfolding_all rfl); (case mzc => with_unfolding_all rfl); (case mze => k_is)) | (refine' nameC_B ?mzF ?mzX ?mzT ?mze ?mzv ?mzn ?mza ?mzb ?mzc ?mzd ?_; (case mzF => k_asm); (case mzX => k_asm); (case mzT => k_asm); (case mza => with_unfolding_all rfl); (case mzb => with_unfolding_all rfl); (case mzc => with_unfolding_all rfl); (case mzd => with_unfolding_all rfl); (case mze => k_is); (case mzv => boot_fast); (case mzn => decide)))) | (first | ((with_reducible show wpAny _ _ (callWith _ _ _ _ _) _ _ _); refine callWith_method1 ?_) | ((with_reducible show wpAny _ _ (spliced (backTo _ (starEach (_ :: _) _))) _ _ _); refine spliced_more ?_)) | walk_at "mine list3" | walk_at "mine list" | (k_unfold; (try dsimp only)) | walk1 | (dsimp only; walk1)))
          (with_reducible rename News _ _ _ _ => NE)
          exact TE.names (.inl rfl) (by k_asm) (by first | exact news_tail (news_tail NE) | exact news_tail (news_tail (news_tail NE)) | exact news_tail (news_tail (news_tail (news_tail NE)))) h1 (by (repeat (first | exact fun _ _ => rfl | exact off_all | refine off_put (by decide) ?_ | refine off_sub (by kernel_rfl) ?_))) ⟨ts, k3, _, rfl, rfl, hS⟩
        · have d2 : decide (wordOf x = [46]) = false := decide_eq_false w2
          by_cases w3 : 0 < un
          · have e1 : stStep x (xs, un) = (xs, un - 1) := by unfold stStep; rw [if_neg w1, if_pos ⟨w2, w3⟩]
            rw [e1]
            (repeat' ((fail_if_success (with_reducible show wpAny _ _ (call (Value.builtin "list.extend") _) _ _ _)); (fail_if_success (with_reducible show wpAny _ _ (exec (Stmt.While _ _ _ _) _) _ _ _)); (fail_if_success (with_reducible show wpAny _ _ (exec (Stmt.For _ _ _ _ _) _) _ _ _)); (fail_if_success (with_reducible show wpAny _ _ (eval (Expr.ListComp _ _ _ _) _) _ _ _)); (fail_if_success (with_reducible show wpAny _ _ (exec (Stmt.Assign [_] (Expr.ListComp _ _ _ _) _) _) _ _ _)); first | (((with_reducible show wpAny _ _ (eval (Expr.Name _ _) (compEnvC _ _ _ _)) _ _ _); first | (refine' nameC_L ?mzF ?mzv ?mza ?mzb ?_; (case mzF => k_asm); (case mza => with_unfolding_all rfl); (case mzb => with_unfolding_all rfl); (case mzv => rfl)) | (refine' nameC_K ?mzF ?mzX ?mzT ?mze ?mza ?mzb ?mzc ?_; (case mzF => k_asm); (case mzX => k_asm); (case mzT => k_asm); (case mza => with_unfolding_all rfl); (case mzb => with_unfolding_all rfl); (case mzc => with_unfolding_all rfl); (case mze => k_is)) | (refine' nameC_B ?mzF ?mzX ?mzT ?mze ?mzv ?mzn ?mza ?mzb ?mzc ?mzd ?_; (case mzF => k_asm); (case mzX => k_asm); (case mzT => k_asm); (case mza => with_unfolding_all rfl); (case mzb => with_unfolding_all rfl); (case mzc => with_unfolding_all rfl); (case mzd => with_unfolding_all rfl); (case mze => k_is); (case mzv => boot_fast); (case mzn => decide)))) | (first | ((with_reducible show wpAny _ _ (callWith _ _ _ _ _) _ _ _); refine callWith_method1 ?_) | ((with_reducible show wpAny _ _ (spliced (backTo _ (starEach (_ :: _) _))) _ _ _); refine spliced_more ?_)) | walk_at "mine list3" | walk_at "mine list" | (k_unfold; (try dsimp only)) | walk1 | (dsimp only; walk1)))
            (with_reducible rename News _ _ _ _ => NE)
            exact TE.names (.inl rfl) (by k_asm) (by first | exact news_tail (news_tail NE) | exact news_tail (news_tail (news_tail NE)) | exact news_tail (news_tail (news_tail (news_tail NE)))) h1 (by (repeat (first | exact fun _ _ => rfl | exact off_all | refine off_put (by decide) ?_ | refine off_sub (by kernel_rfl) ?_))) ⟨ts, k3, _, int_of (x := (un : Int) - 1) (by omega), rfl, hS⟩
          · have e1 : stStep x (xs, un) = (x :: xs, un) := by unfold stStep; rw [if_neg w1, if_neg (fun h => w3 h.2), if_pos w2]
            rw [e1]
            (repeat' ((fail_if_success (with_reducible show wpAny _ _ (call (Value.builtin "list.extend") _) _ _ _)); (fail_if_success (with_reducible show wpAny _ _ (exec (Stmt.While _ _ _ _) _) _ _ _)); (fail_if_success (with_reducible show wpAny _ _ (exec (Stmt.For _ _ _ _ _) _) _ _ _)); (fail_if_success (with_reducible show wpAny _ _ (eval (Expr.ListComp _ _ _ _) _) _ _ _)); (fail_if_success (with_reducible show wpAny _ _ (exec (Stmt.Assign [_] (Expr.ListComp _ _ _ _) _) _) _ _ _)); first | (((with_reducible show wpAny _ _ (eval (Expr.Name _ _) (compEnvC _ _ _ _)) _ _ _); first | (refine' nameC_L ?mzF ?mzv ?mza ?mzb ?_; (case mzF => k_asm); (case mza => with_unfolding_all rfl); (case mzb => with_unfolding_all rfl); (case mzv => rfl)) | (refine' nameC_K ?mzF ?mzX ?mzT ?mze ?mza ?mzb ?mzc ?_; (case mzF => k_asm); (case mzX => k_asm); (case mzT => k_asm); (case mza => with_unfolding_all rfl); (case mzb => with_unfolding_all rfl); (case mzc => with_unfolding_all rfl); (case mze => k_is)) | (refine' nameC_B ?mzF ?mzX ?mzT ?mze ?mzv ?mzn ?mza ?mzb ?mzc ?mzd ?_; (case mzF => k_asm); (case mzX => k_asm); (case mzT => k_asm); (case mza => with_unfolding_all rfl); (case mzb => with_unfolding_all rfl); (case mzc => with_unfolding_all rfl); (case mzd => with_unfolding_all rfl); (case mze => k_is); (case mzv => boot_fast); (case mzn => decide)))) | (first | ((with_reducible show wpAny _ _ (callWith _ _ _ _ _) _ _ _); refine callWith_method1 ?_) | ((with_reducible show wpAny _ _ (spliced (backTo _ (starEach (_ :: _) _))) _ _ _); refine spliced_more ?_)) | walk_at "mine list3" | walk_at "mine list" | (k_unfold; (try dsimp only)) | walk1 | (dsimp only; walk1)))
            (with_reducible rename News _ _ _ _ => NE)
            have hlen := hS.1
            rw [List.length_reverse] at hlen
            refine append_L (rest := own) (by k_asm) (news_tail (news_tail (news_tail (news_tail NE)))) (fun q hq => hq) ?_ (by omega) ?_
            · intro q hq e
              rcases h2 q hq with h | h
              · exact h1 _ (.head _) (e ▸ h)
              · have h' := e.symm.trans h
                exact absurd h' (Nat.ne_of_lt (Nat.lt_succ_of_lt hlr))
            · intro h' F' N'
              dsimp only
              (repeat' ((fail_if_success (with_reducible show wpAny _ _ (call (Value.builtin "list.extend") _) _ _ _)); (fail_if_success (with_reducible show wpAny _ _ (exec (Stmt.While _ _ _ _) _) _ _ _)); (fail_if_success (with_reducible show wpAny _ _ (exec (Stmt.For _ _ _ _ _) _) _ _ _)); (fail_if_success (with_reducible show wpAny _ _ (eval (Expr.ListComp _ _ _ _) _) _ _ _)); (fail_if_success (with_reducible show wpAny _ _ (exec (Stmt.Assign [_] (Expr.ListComp _ _ _ _) _) _) _ _ _)); first | (((with_reducible show wpAny _ _ (eval (Expr.Name _ _) (compEnvC _ _ _ _)) _ _ _); first | (refine' nameC_L ?mzF ?mzv ?mza ?mzb ?_; (case mzF => k_asm); (case mza => with_unfolding_all rfl); (case mzb => with_unfolding_all rfl); (case mzv => rfl)) | (refine' nameC_K ?mzF ?mzX ?mzT ?mze ?mza ?mzb ?mzc ?_; (case mzF => k_asm); (case mzX => k_asm); (case mzT => k_asm); (case mza => with_unfolding_all rfl); (case mzb => with_unfolding_all rfl); (case mzc => with_unfolding_all rfl); (case mze => k_is)) | (refine' nameC_B ?mzF ?mzX ?mzT ?mze ?mzv ?mzn ?mza ?mzb ?mzc ?mzd ?_; (case mzF => k_asm); (case mzX => k_asm); (case mzT => k_asm); (case mza => with_unfolding_all rfl); (case mzb => with_unfolding_all rfl); (case mzc => with_unfolding_all rfl); (case mzd => with_unfolding_all rfl); (case mze => k_is); (case mzv => boot_fast); (case mzn => decide)))) | (first | ((with_reducible show wpAny _ _ (callWith _ _ _ _ _) _ _ _); refine callWith_method1 ?_) | ((with_reducible show wpAny _ _ (spliced (backTo _ (starEach (_ :: _) _))) _ _ _); refine spliced_more ?_)) | walk_at "mine list3" | walk_at "mine list" | (k_unfold; (try dsimp only)) | walk1 | (dsimp only; walk1)))
              exact TE.names (.inl rfl) (by k_asm) N' (fun p hp => by rw [List.mem_singleton.mp hp]; exact (h1 (lf, W.listOf ts.toArray k3) (.head _) : lf ≠ I)) (by (repeat (first | exact fun _ _ => rfl | exact off_all | refine off_put (by decide) ?_ | refine off_sub (by kernel_rfl) ?_))) ⟨ts ++ [.ref b], k3 + 1, _, rfl, rfl, by rw [List.reverse_cons]; exact hS.snoc ⟨b, us, k4, rfl, hbm, hus⟩⟩
  · rintro m₁ news₁ h tk' hm ⟨ts, k3, tu, hup, rfl, hS⟩ F2 N2
    have e : (vs.toArray.toList.reverse.toArray).size = ns.length := by simp [har.1]
    rw [e, stAt_all] at hup hS
    have hsl := stAt_len ns ns.length
    rw [stAt_all] at hsl
    have hst2 : straight (root.length != 0) ns = (if (root.length != 0) = false then List.replicate (ns.foldr stStep ([], 0)).2 ddT else []) ++ (ns.foldr stStep ([], 0)).1 := rfl
    rw [hst2] at hR
    clear hst2
    generalize ns.foldr stStep ([], 0) = st at *
    obtain ⟨xs, un⟩ := st
    dsimp only at hsl hup hS hR
    refine let_ov [(Str.ofString "name", m₁ (Str.ofString "name")), (Str.ofString "word", m₁ (Str.ofString "word")), (Str.ofString "ups", some (.int (un : Nat) tu))] F2 (by simp [hup]) hm rfl ?_
    clear F2
    intro mAF2 F2
    clear hm hup hl1 F1 N1 N0
    (try dsimp only at F2)
    (try dsimp only)
    have hTS := News.isList N2 (.head _)
    have hSl := hS.1
    rw [List.length_reverse] at hSl
    (repeat' ((fail_if_success (with_reducible show wpAny _ _ (call (Value.builtin "list.extend") _) _ _ _)); (fail_if_success (with_reducible show wpAny _ _ (exec (Stmt.While _ _ _ _) _) _ _ _)); (fail_if_success (with_reducible show wpAny _ _ (exec (Stmt.For _ _ _ _ _) _) _ _ _)); (fail_if_success (with_reducible show wpAny _ _ (eval (Expr.ListComp _ _ _ _) _) _ _ _)); (fail_if_success (with_reducible show wpAny _ _ (exec (Stmt.Assign [_] (Expr.ListComp _ _ _ _) _) _) _ _ _)); first | (((with_reducible show wpAny _ _ (eval (Expr.Name _ _) (compEnvC _ _ _ _)) _ _ _); first | (refine' nameC_L ?mzF ?mzv ?mza ?mzb ?_; (case mzF => k_asm); (case mza => with_unfolding_all rfl); (case mzb => with_unfolding_all rfl); (case mzv => rfl)) | (refine' nameC_K ?mzF ?mzX ?mzT ?mze ?mza ?mzb ?mzc ?_; (case mzF => k_asm); (case mzX => k_asm); (case mzT => k_asm); (case mza => with_unfolding_all rfl); (case mzb => with_unfolding_all rfl); (case mzc => with_unfolding_all rfl); (case mze => k_is)) | (refine' nameC_B ?mzF ?mzX ?mzT ?mze ?mzv ?mzn ?mza ?mzb ?mzc ?mzd ?_; (case mzF => k_asm); (case mzX => k_asm); (case mzT => k_asm); (case mza => with_unfolding_all rfl); (case mzb => with_unfolding_all rfl); (case mzc => with_unfolding_all rfl); (case mzd => with_unfolding_all rfl); (case mze => k_is); (case mzv => boot_fast); (case mzn => decide)))) | (first | ((with_reducible show wpAny _ _ (callWith _ _ _ _ _) _ _ _); refine callWith_method1 ?_) | ((with_reducible show wpAny _ _ (spliced (backTo _ (starEach (_ :: _) _))) _ _ _); refine spliced_more ?_)) | walk_at "mine list3" | walk_at "mine list" | (k_unfold; (try dsimp only)) | walk1 | (dsimp only; walk1)))
    · clear hTS
      (with_reducible rename News _ _ _ _ => NE)
      (with_reducible rename (_ == _) = true => hr1)
      rw [str_len0 hr1, if_pos rfl] at hR
      rename_i h1 tk1 ld bd cd cd' td td' FQ NQ hDD D1 h2 F5 lD
      refine extend_L (rest := [(bd, W.listOf #[.ref cd, .ref cd'] 0), (cd', pairO 46 td' false), (cd, pairO 46 td false)]) (by k_asm) NE (.tail _ (.tail _ (.tail _ (.tail _ (.tail _ (.head _)))))) (.head _) (fun q hq => .tail _ (.tail _ (List.mem_append_left [(lf, W.listOf ts.toArray k3)] hq))) ?_ (by rw [List.length_replicate]; omega) ?_
      · have hd := hDD _ (.head _)
        intro q hq e
        rcases List.mem_cons.mp hq with rfl | hq
        · exact hd.2.1 e.symm
        · rcases List.mem_cons.mp hq with rfl | hq
          · exact hd.2.2.1 e.symm
          · rw [List.mem_singleton.mp hq] at e
            exact hd.2.2.2 e.symm
      · intro h' n' F' N'
        dsimp only
        have hTS := News.isList N' (.head _)
        clear NE NQ FQ F5 lD hDD
        (repeat' ((fail_if_success (with_reducible show wpAny _ _ (call (Value.builtin "list.extend") _) _ _ _)); (fail_if_success (with_reducible show wpAny _ _ (exec (Stmt.While _ _ _ _) _) _ _ _)); (fail_if_success (with_reducible show wpAny _ _ (exec (Stmt.For _ _ _ _ _) _) _ _ _)); (fail_if_success (with_reducible show wpAny _ _ (eval (Expr.ListComp _ _ _ _) _) _ _ _)); (fail_if_success (with_reducible show wpAny _ _ (exec (Stmt.Assign [_] (Expr.ListComp _ _ _ _) _) _) _ _ _)); first | (((with_reducible show wpAny _ _ (eval (Expr.Name _ _) (compEnvC _ _ _ _)) _ _ _); first | (refine' nameC_L ?mzF ?mzv ?mza ?mzb ?_; (case mzF => k_asm); (case mza => with_unfolding_all rfl); (case mzb => with_unfolding_all rfl); (case mzv => rfl)) | (refine' nameC_K ?mzF ?mzX ?mzT ?mze ?mza ?mzb ?mzc ?_; (case mzF => k_asm); (case mzX => k_asm); (case mzT => k_asm); (case mza => with_unfolding_all rfl); (case mzb => with_unfolding_all rfl); (case mzc => with_unfolding_all rfl); (case mze => k_is)) | (refine' nameC_B ?mzF ?mzX ?mzT ?mze ?mzv ?mzn ?mza ?mzb ?mzc ?mzd ?_; (case mzF => k_asm); (case mzX => k_asm); (case mzT => k_asm); (case mza => with_unfolding_all rfl); (case mzb => with_unfolding_all rfl); (case mzc => with_unfolding_all rfl); (case mzd => with_unfolding_all rfl); (case mze => k_is); (case mzv => boot_fast); (case mzn => decide)))) | (first | ((with_reducible show wpAny _ _ (callWith _ _ _ _ _) _ _ _); refine callWith_method1 ?_) | ((with_reducible show wpAny _ _ (spliced (backTo _ (starEach (_ :: _) _))) _ _ _); refine spliced_more ?_)) | walk_at "mine list3" | walk_at "mine list" | (k_unfold; (try dsimp only)) | walk1 | (dsimp only; walk1)))
        (with_reducible rename News _ _ _ _ => NE)
        refine hR _ _ _ _ _ (by k_asm) NE ⟨_, (ts ++ List.replicate un (Value.ref bd)).reverse, 0, rfl, List.mem_append_right _ (.head _), ?_⟩
        exact end_dd hS (.tail _ (.tail _ (.head _))) (.tail _ (.tail _ (.tail _ (.tail _ (.head _))))) (.tail _ (.tail _ (.tail _ (.head _))))
    · (with_reducible rename News _ _ _ _ => NE)
      (with_reducible rename (_ == _) = false => hr1)
      rw [str_len1 hr1, if_neg (by decide), List.nil_append] at hR
      refine hR _ _ _ _ _ (by k_asm) NE ⟨_, ts.reverse, 0, rfl, List.mem_append_right _ (.head _), ?_⟩
      exact end_st hS
end Mine
end

section
open PySem PySem.W PyProof.Rows PySem.Calls PyProof
set_option maxRecDepth 100000
set_option maxHeartbeats 0
namespace Mine
section
variable {M : Model} {A : Around} {E : Value → Shared → Prop} {s : Shared} {env : Env} {h₀ : Heap} {L : Addr} {m : Str → Option Value} {news : List (Addr × Obj)}
/-- a display of written ints -/
noncomputable def intsE (cs : List (Int × Pos)) : List PySem.Expr := cs.map fun c => .Constant (.int c.1) 0 c.2
theorem spliced_ints {pos : Pos} : ∀ (cs : List (Int × Pos)) {s : Shared} {Q : List Value → Shared → Prop}, (∀ vs tk, IntsAre vs (cs.map (·.1)) → Q vs { s with toks := tk }) → wpAny M A (spliced (backTo pos (starEach (intsE cs) env))) Q E s
  | [], s, Q, h => spliced_none (h [] s.toks .nil)
  | c :: cs, s, Q, h => by
    refine spliced_more (rest := intsE cs) (wpAny_Constant_int ?_) rfl
    exact spliced_ints cs fun vs tk hv => h (_ :: vs) tk (.cons _ _ hv)
theorem listInts {pos : Pos} {Q : Value → Shared → Prop} (cs : List (Int × Pos)) (F : Fr h₀ L s.heap m) (N : News h₀ L s.heap news) (hl : cs.length ≤ 1000)
    (h : ∀ h' tk l vs, Fr h₀ L h' m → News h₀ L h' ((l, W.listOf vs.toArray 0) :: news) → (∀ p ∈ news, p.1 ≠ l) → IntsAre vs (cs.map (·.1)) → Q (.ref l) { s with heap := h', toks := tk }) :
    wpAny M A (eval (.List (intsE cs) pos) env) Q E s := by
  refine List_ (spliced_ints cs fun vs tk hv => ?_)
  refine newList_N (s := { s with toks := tk }) F N (fun h' F' N' => h h' tk _ vs F' N' (fun p hp => Nat.ne_of_lt (Heap.lt_size (N p hp).1)) hv) (szS ?_)
  rw [hv.length, List.length_map]; exact hl
/-- one int of a list of ints -/
theorem ints_v {vs : List Value} {ns : List Int} (h : IntsAre vs ns) {i : Nat} {v : Value} (hv : vs.toArray[i]? = some v) : ∃ x t, ns[i]? = some x ∧ v = Value.int x t := by
  obtain ⟨n, t, e, hn⟩ := h.at i v (by simpa using hv)
  exact ⟨n, t, hn, e⟩
end
section
variable {prog : Program} {w : World} {A : Around} {E : Value → Shared → Prop} {s : Shared}
/-- one sign of the menu -/
theorem menu_item {value slice : PySem.Expr} {l : Addr} {vs : List Value} {k : Int} {u : Tok} {Q : Value → Shared → Prop} (hl : s.heap.IsList l vs.toArray) (hv : IntsAre vs [47, 47, 46, 46, 97, 32]) (h1 : 1 ≤ k) (h6 : k ≤ 6) (h : ∀ t, Q (.int (signOf k.toNat : Nat) t) s)
    (hs : subscripted slice false (.ref l) (.int (k - 1) u) = operate [.ref l, .int (k - 1) u] (getItem (.ref l) (.int (k - 1) u)) := by with_unfolding_all rfl) :
    wpAny (model prog w) A (subscriptTail value slice (.ref l) (.int (k - 1) u)) Q E s := by
  have hk : k = 1 ∨ k = 2 ∨ k = 3 ∨ k = 4 ∨ k = 5 ∨ k = 6 := by omega
  have hg : [(47 : Int), 47, 46, 46, 97, 32][(k - 1).toNat]? = some ((signOf k.toNat : Nat) : Int) := by
    rcases hk with rfl | rfl | rfl | rfl | rfl | rfl <;> decide
  obtain ⟨t, ht⟩ := hv.get _ _ hg
  exact itemL hl (by omega) (by omega) (by simpa using ht) (h t) hs
end
theorem allLt_mem {d : Addr} {l : List (Addr × Obj)} (h : AllLt d l) : ∀ p ∈ l, @LT.lt Nat _ p.1 d := by
  induction l with
  | nil => exact fun _ h => nomatch h
  | cons a l ih =>
    intro p hp
    cases hp with
    | head => exact h.1
    | tail _ hp => exact ih h.2 p hp
theorem natV_of {made : List (Addr × Obj)} {vs : List Value} {ns : List Int} {ms : List Nat} (h : IntsAre vs ns) (e : ns = ms.map fun n : Nat => (n : Int)) : AreM NatV made vs ms := by
  subst e
  refine ⟨by rw [h.length, List.length_map], fun i x hx => ?_⟩
  obtain ⟨t, ht⟩ := h.get i (x : Nat) (by rw [List.getElem?_map, hx]; rfl)
  exact ⟨_, ht, t, rfl⟩
theorem rep_nat (k : Nat) : ∀ n : Nat, (List.replicate n [(k : Int)]).flatten = (List.replicate n k).map fun n : Nat => (n : Int)
  | 0 => rfl
  | n + 1 => by rw [List.replicate_succ, List.replicate_succ, List.flatten_cons, List.map_cons, rep_nat k n]; rfl
theorem rep47 {c : Int} : (List.replicate (if c - 2 > 0 then c - 2 else 0).toNat [(47 : Int)]).flatten = (List.replicate (c - 2).toNat 47).map fun n : Nat => (n : Int) := by
  have e : (if c - 2 > 0 then c - 2 else 0).toNat = (c - 2).toNat := by
    by_cases h : c - 2 > 0
    · rw [if_pos h]
    · rw [if_neg h]; omega
  exact (congrArg (fun n => (List.replicate n [(47 : Int)]).flatten) e).trans (rep_nat 47 _)
/-- the loop's state: the parts so far, the last one told apart -/
noncomputable def PartsSt (lp : Addr) (cst : Addr × Obj) (ps : List (List Nat)) (news : List (Addr × Obj)) : Prop :=
  ∃ (vs : List Value) (b : Addr) (us : List Value) (k k2 : Nat) (front : List (Addr × Obj)) (qs : List (List Nat)) (p : List Nat),
    news = (lp, W.listOf (vs ++ [Value.ref b]).toArray k) :: (b, W.listOf us.toArray k2) :: front ∧ (∀ q ∈ front, q.1 ≠ b ∧ q.1 ≠ lp) ∧ b ≠ lp ∧ cst ∈ front ∧ AreM NatsM front vs qs ∧ AreM NatV [] us p ∧ ps = qs ++ [p]
theorem partsSt_len {ps : List (List Nat)} {vs : List Value} {qs : List (List Nat)} {p : List Nat} {front : List (Addr × Obj)} (h : AreM NatsM front vs qs) (e : ps = qs ++ [p]) : vs.length + 1 = ps.length := by
  rw [h.1, e, List.length_append]; rfl
/-- the parts' list as it stands -/
theorem partsSt_all {made front : List (Addr × Obj)} {vs us : List Value} {b : Addr} {k : Nat} {qs : List (List Nat)} {p : List Nat} (hf : ∀ q ∈ front, q ∈ made) (hb : (b, W.listOf us.toArray k) ∈ made) (h : AreM NatsM front vs qs) (hp : AreM NatV [] us p) : AreM NatsM made (vs ++ [Value.ref b]) (qs ++ [p]) :=
  AreM.snoc (h.mono fun _ _ hu => NatsM.mono hf hu) ⟨b, us, k, rfl, hb, hp.mono fun _ _ h => h⟩
theorem partsSt_new {lp b D : Addr} {cst : Addr × Obj} {vs us ws : List Value} {k k2 k3 : Nat} {front : List (Addr × Obj)} {qs : List (List Nat)} {p r : List Nat} {x : Int} (hfr : ∀ q ∈ front, q.1 ≠ b ∧ q.1 ≠ lp) (hbl : b ≠ lp) (hc : cst ∈ front) (hqs : AreM NatsM front vs qs) (hp : AreM NatV [] us p) (hw : AreM NatV [] ws r) (hD : ∀ q ∈ (lp, W.listOf (vs ++ [Value.ref b]).toArray k) :: (b, W.listOf us.toArray k2) :: front, q.1 ≠ D) (e : pStep (qs ++ [p]) x = qs ++ [p] ++ [r]) :
    PartsSt lp cst (pStep (qs ++ [p]) x) ((lp, W.listOf (vs ++ [Value.ref b] ++ [Value.ref D]).toArray (k + 1)) :: (D, W.listOf ws.toArray k3) :: (b, W.listOf us.toArray k2) :: front) := by
  refine ⟨vs ++ [.ref b], D, ws, k + 1, k3, (b, W.listOf us.toArray k2) :: front, qs ++ [p], r, rfl, fun q hq => ?_, fun h => hD _ (.head _) h.symm, .tail _ hc, partsSt_all (fun q hq => .tail _ hq) (.head _) hqs hp, hw, e⟩
  rcases List.mem_cons.mp hq with rfl | hq
  · exact ⟨hD _ (.tail _ (.head _)), hbl⟩
  · exact ⟨hD _ (.tail _ (.tail _ hq)), (hfr q hq).2⟩
theorem partsSt_put {lp b : Addr} {cst : Addr × Obj} {vs us : List Value} {k k2 c : Nat} {y : Int} {t : Tok} {front : List (Addr × Obj)} {qs : List (List Nat)} {p : List Nat} {x : Int} (hfr : ∀ q ∈ front, q.1 ≠ b ∧ q.1 ≠ lp) (hbl : b ≠ lp) (hc : cst ∈ front) (hqs : AreM NatsM front vs qs) (hp : AreM NatV [] us p) (hy : y = (c : Nat)) (e : pStep (qs ++ [p]) x = putLast (qs ++ [p]) c) :
    PartsSt lp cst (pStep (qs ++ [p]) x) ((lp, W.listOf (vs ++ [Value.ref b]).toArray k) :: (b, W.listOf (us ++ [Value.int y t]).toArray (k2 + 1)) :: front) := by
  subst hy
  refine ⟨vs, b, _, k, k2 + 1, front, qs, p ++ [c], rfl, hfr, hbl, hc, hqs, AreM.snoc hp ⟨t, rfl⟩, ?_⟩
  rw [e, putLast, List.dropLast_concat, List.getLast?_concat]; rfl
theorem pStep_seven {ps : List (List Nat)} {x : Int} (h0 : ¬ x.fmod 8 = 0) (h : x.fmod 8 = 7) : pStep ps x = putLast ps (octOf x) := by unfold pStep; rw [if_neg h0, if_pos h]
theorem pStep_menu {ps : List (List Nat)} {x : Int} (h0 : ¬ x.fmod 8 = 0) (h : ¬ x.fmod 8 = 7) : pStep ps x = putLast ps (signOf (x.fmod 8).toNat) := by unfold pStep; rw [if_neg h0, if_neg h]
theorem octOf_13 {x : Int} (h : (x.fdiv 8).fmod 256 = 13) : (10 : Int) = (octOf x : Nat) := by unfold octOf; rw [h]; rfl
theorem octOf_ne {x : Int} (h0 : 0 ≤ (x.fdiv 8).fmod 256) (h : ¬ (x.fdiv 8).fmod 256 = 13) : (x.fdiv 8).fmod 256 = (octOf x : Nat) := by
  unfold octOf; rw [if_neg (by omega)]; omega
theorem parts_bound (xs : List Int) : (partsOf xs).length ≤ 1 + 4 * xs.length ∧ ∀ p ∈ partsOf xs, p.length ≤ 1 + 4 * xs.length := by
  have h1 := (parts_inv xs [[]] (by simp) (fun p hp c hc => by rw [List.mem_singleton.mp hp] at hc; exact nomatch hc)).2.1
  have e : ptot [[]] = 1 := rfl
  rw [e] at h1
  have hl : ∀ l : List (List Nat), l.length ≤ ptot l ∧ ∀ p ∈ l, p.length ≤ ptot l := by
    intro l
    induction l with
    | nil => exact ⟨Nat.le_refl _, fun _ h => nomatch h⟩
    | cons a l ih =>
      have e : ptot (a :: l) = a.length + 1 + ptot l := by simp [ptot]
      rw [e]
      refine ⟨by rw [List.length_cons]; have := ih.1; omega, fun p hp => ?_⟩
      rcases List.mem_cons.mp hp with rfl | hp
      · omega
      · have := ih.2 p hp; omega
  exact ⟨Nat.le_trans (hl _).1 h1, fun p hp => Nat.le_trans ((hl _).2 p hp) h1⟩
theorem ints_of_nat {made : List (Addr × Obj)} : ∀ {ms : List Nat} {vs : List Value}, AreM NatV made vs ms → IntsAre vs (ms.map fun n : Nat => (n : Int))
  | [], vs, h => by
    have : vs = [] := List.length_eq_zero_iff.mp h.1
    subst this; exact .nil
  | m :: ms, [], h => by have := h.1; simp at this
  | m :: ms, v :: vs, h => by
    obtain ⟨u, hu, t, rfl⟩ := h.2 0 m rfl
    have : v = Value.int (m : Nat) t := Option.some.inj hu
    subst this
    refine .cons _ _ (ints_of_nat ⟨by have := h.1; simpa using this, fun i x hx => h.2 (i + 1) x (by simpa using hx)⟩)
noncomputable def rootsI (ps : List (List Nat)) (i : Nat) : List Int := ((List.range i).filter fun j => (ps.getD j []).take 1 == [47]).map fun n : Nat => (n : Int)
theorem take1_cast {p : List Nat} : (p.map fun n : Nat => (n : Int)).take 1 = [47] ↔ (p.take 1 == [47]) = true := by
  cases p with
  | nil => simp
  | cons a p => simp; omega
theorem rootsI_len (ps : List (List Nat)) (i : Nat) : (rootsI ps i).length ≤ i := by
  have := List.length_filter_le (fun j => (ps.getD j []).take 1 == [47]) (List.range i)
  rw [List.length_range] at this
  unfold rootsI
  rw [List.length_map]; exact this
theorem roots_yes {ps : List (List Nat)} {p : List Nat} {i : Nat} {ys : List Value} {t : Tok} (hg : ps.getD i [] = p) (h : (p.map fun n : Nat => (n : Int)).take 1 = [47]) (hS : IntsAre ys (rootsI ps i)) : IntsAre (ys ++ [Value.int (i : Nat) t]) (rootsI ps (i + 1)) := by
  have e : rootsI ps (i + 1) = rootsI ps i ++ [(i : Int)] := by
    unfold rootsI
    rw [List.range_succ, List.filter_append, List.map_append]
    rw [show List.filter (fun j => (ps.getD j []).take 1 == [47]) [i] = [i] by rw [List.filter_cons, if_pos (by rw [hg]; exact take1_cast.mp h)]; rfl]
    rfl
  rw [e]
  exact hS.append (.cons _ _ .nil)
theorem roots_no {ps : List (List Nat)} {p : List Nat} {i : Nat} {ys : List Value} (hg : ps.getD i [] = p) (h : ¬ (p.map fun n : Nat => (n : Int)).take 1 = [47]) (hS : IntsAre ys (rootsI ps i)) : IntsAre ys (rootsI ps (i + 1)) := by
  have e : rootsI ps (i + 1) = rootsI ps i := by
    unfold rootsI
    rw [List.range_succ, List.filter_append, List.map_append]
    rw [show List.filter (fun j => (ps.getD j []).take 1 == [47]) [i] = [] by rw [List.filter_cons, if_neg (by rw [hg]; exact fun q => h (take1_cast.mpr q))]; rfl]
    simp
  rw [e]; exact hS
theorem first_max {ps : List (List Nat)} {M : Int} (h1 : M ∈ (0 : Int) :: rootsI ps ps.length) (h2 : ∀ a, a ∈ (0 : Int) :: rootsI ps ps.length → a ≤ M) : M = (firstOf ps : Nat) := by
  obtain ⟨_, k2, k3⟩ := foldl_max (rootsOf ps) 0
  have hm : ∀ n : Nat, (n : Int) ∈ rootsI ps ps.length ↔ n ∈ rootsOf ps := by
    intro n
    unfold rootsI rootsOf
    rw [List.mem_map]
    constructor
    · rintro ⟨a, ha, e⟩
      have : a = n := by omega
      rw [← this]; exact ha
    · exact fun h => ⟨n, h, rfl⟩
  have hle : M ≤ (firstOf ps : Nat) := by
    rcases List.mem_cons.mp h1 with rfl | h1
    · omega
    · unfold rootsI at h1
      obtain ⟨a, ha, rfl⟩ := List.mem_map.mp h1
      have := k2 a ha
      unfold firstOf; omega
  have hge : ((firstOf ps : Nat) : Int) ≤ M := by
    unfold firstOf
    rcases k3 with e | e
    · rw [e]; exact h2 _ (.head _)
    · exact h2 _ (.tail _ ((hm _).mpr e))
  omega
end Mine
end

section
open PySem PySem.W PyProof.Rows PySem.Calls PyProof
set_option maxRecDepth 100000
set_option maxHeartbeats 0
namespace Mine
theorem kfillM6 : Challenge.rw_pd0176_01.name = Challenge.rw_pd0176_01.name ∨ ∀ P, MineHd.K P = MineHd.K P := by
  k_fill
  exact .inl rfl
local macro_rules | `(tactic| walk_at "mine list") => `(tactic| first
  | ((with_reducible show wpAny _ _ (eval (Expr.List [] _) _) _ _ _); (refine list0 (by k_asm) (by k_asm) ?_; intro h' l F' N' hl'; (try dsimp only)))
  | ((with_reducible show wpAny _ _ (eval (Expr.List [_] _) _) _ _ _); (refine listInts [(47, _)] (by k_asm) (by k_asm) (by decide) ?_; intro h' tk' l vs' F' N' hl' hv'; (try dsimp only); simp only [List.map_cons, List.map_nil] at hv'))
  | ((with_reducible show wpAny _ _ (eval (Expr.List [_, _, _, _, _] _) _) _ _ _); (refine listInts [(0, _), (5, _), (6, _), (1, _), (3, _)] (by k_asm) (by k_asm) (by decide) ?_; intro h' tk' l vs' F' N' hl' hv'; (try dsimp only); simp only [List.map_cons, List.map_nil] at hv'))
  | ((with_reducible show wpAny _ _ (eval (Expr.List [_, _, _, _, _, _] _) _) _ _ _); (refine listInts [(47, _), (47, _), (46, _), (46, _), (97, _), (32, _)] (by k_asm) (by k_asm) (by decide) ?_; intro h' tk' l vs' F' N' hl' hv'; (try dsimp only); simp only [List.map_cons, List.map_nil] at hv')))
local macro_rules | `(tactic| walk_at "ite") => `(tactic| first
  | (refine W.ite_pos (decide_eq_true (by omega)) ?_)
  | (refine ite_isFalse (decide_eq_false (by omega)) ?_)
  | (refine W.ite_pos (show (_ != _) = true from bne_iff_ne.mpr (by omega)) ?_)
  | (refine ite_isFalse (show (_ != _) = false from bne_eq_false_iff_eq.mpr (by omega)) ?_))
theorem parts_spec (w : World) (a : Addr) (vs : List Value) (ks : List Int) (hks : IntsAre vs ks) (hlen : ks.length ≤ 63) :
    FnM w 700 231 [.ref a] (fun h => h.IsList a vs.toArray) (fun new v => PartsM new v (partsOf ([0, 5, 6, 1, 3] ++ ks.take 16))) := by
  w_on
  refine' enter_fnM [(Str.ofString "script", .ref a)] ?k6 ?k7 ?k8 ?k9 ?kB ?c2 ?c3 ?c4 ?c5 ?_
  (((case k6 => k_is); (case k7 => k_is); (case k8 => decide); (case k9 => first | (intro _ _; exact BindsTo.of_eq rfl) | (intro _ X9; exact binds_K X9 rfl (by k_is) rfl rfl rfl)); (case c5 => decide); (case kB => exact locs rfl); (case c2 => exact rfl); (case c3 => exact rfl); (case c4 => exact rfl)))
  intro s h₁ L tk mean mg mb Q htk X T hA F N hR
  have hA1 := ilK F hA
  (repeat' ((fail_if_success (with_reducible show wpAny _ _ (exec (Stmt.For _ _ _ _ _) _) _ _ _)); (fail_if_success (with_reducible show wpAny _ _ (call (Value.builtin "list.append") _) _ _ _)); (fail_if_success (with_reducible show wpAny _ _ (subscriptTail _ _ (Value.ref _) (Value.int _ _)) _ _ _)); first | walk_at "mine list" | (first | ((with_reducible show wpAny _ _ (eval (Expr.Constant (Const.int _) _ _) _) _ _ _); refine wpAny_Constant_int ?_; (try dsimp only)) | ((with_reducible show wpAny _ _ (unaryOp _ _) _ _ _); walk1; (try dsimp only)) | ((with_reducible show wpAny _ _ (truthy _) _ _ _); walk1; (try dsimp only)) | ((with_reducible show wpAny _ _ (binaryOp _ (Value.int _ _) (Value.int _ _)) _ _ _); walk1; (try dsimp only))) | (first | ((with_reducible show wpAny _ _ (callWith _ (Value.builtin _, _).fst _ _ _) _ _ _); refine callWith_method1 ?_) | ((with_reducible show wpAny _ _ (spliced (backTo _ (starEach (_ :: _) _))) _ _ _); refine spliced_more ?_)) | (k_unfold; (try dsimp only)) | walk1 | (dsimp only; walk1)))
  refine For_invV s.heap rfl rfl ?_
  (repeat' ((fail_if_success (with_reducible show wpAny _ _ (exec (Stmt.For _ _ _ _ _) _) _ _ _)); (fail_if_success (with_reducible show wpAny _ _ (call (Value.builtin "list.append") _) _ _ _)); (fail_if_success (with_reducible show wpAny _ _ (subscriptTail _ _ (Value.ref _) (Value.int _ _)) _ _ _)); first | walk_at "mine list" | (first | ((with_reducible show wpAny _ _ (eval (Expr.Constant (Const.int _) _ _) _) _ _ _); refine wpAny_Constant_int ?_; (try dsimp only)) | ((with_reducible show wpAny _ _ (unaryOp _ _) _ _ _); walk1; (try dsimp only)) | ((with_reducible show wpAny _ _ (truthy _) _ _ _); walk1; (try dsimp only)) | ((with_reducible show wpAny _ _ (binaryOp _ (Value.int _ _) (Value.int _ _)) _ _ _); walk1; (try dsimp only))) | (first | ((with_reducible show wpAny _ _ (callWith _ (Value.builtin _, _).fst _ _ _) _ _ _); refine callWith_method1 ?_) | ((with_reducible show wpAny _ _ (spliced (backTo _ (starEach (_ :: _) _))) _ _ _); refine spliced_more ?_)) | (k_unfold; (try dsimp only)) | walk1 | (dsimp only; walk1)))
  (with_reducible rename News _ _ _ _ => N1)
  (with_reducible rename Fr _ _ _ _ => F1)
  (with_reducible rename IntsAre _ _ => hI)
  rename_i h1 l0 hl0 lp h2 l1 h3 h4 tk4 l4 vs4 hl4 hv4 D1 ws1 h5 hI1 hC1 hL1 l6 D2 ws2 h6 l7
  try dsimp only at N1 F1
  generalize hxs : [0, 5, 6, 1, 3] ++ List.take 16 ks = xs at hI hR
  have hxl : xs.length ≤ 21 := by rw [← hxs]; simp; omega
  have hws := hI.length
  refine iter_listN (L := L) (news := [(lp, W.listOf #[.ref l0] 0), (l0, W.listOf #[] 0), (D2, W.listOf ws2.toArray 0)]) [Str.ofString "x", Str.ofString "kind", Str.ofString "octet"] (fun i m news => PartsSt lp (D2, W.listOf ws2.toArray 0) (partsOf (xs.take i)) news) rfl rfl (News.isList N1 (.head _)) (N1 _ (.head _)).2.1 F1 ?_ ?_ ?_ ?_
  · intro q hq
    rcases List.mem_cons.mp hq with rfl | hq
    · exact N1 _ (.tail _ (.tail _ (.tail _ (.head _))))
    · rcases List.mem_cons.mp hq with rfl | hq
      · exact N1 _ (.tail _ (.tail _ (.tail _ (.tail _ (.head _)))))
      · rw [List.mem_singleton.mp hq]; exact N1 _ (.head _)
  · exact ⟨[], l0, [], 0, 0, [(D2, W.listOf ws2.toArray 0)], [], [], rfl, (fun q hq => by rw [List.mem_singleton.mp hq]; exact ⟨Nat.ne_of_gt l7.2.2.2, Nat.ne_of_gt l7.2.2.1⟩), Nat.ne_of_lt l1, .head _, AreM.nil, AreM.nil, rfl⟩
  · rintro I i v m₁ news₁ own h tk' oI hi hv hm ⟨us, b, uz, k3, k4, front, qs, p, rfl, hfr, hbl, hcf, hqs, hp, hps⟩ h1 h2 h3 h4 F2 N2
    have hi' : i < xs.length := by simpa [hws] using hi
    obtain ⟨x, t, hx, rfl⟩ := ints_v hI hv
    refine let_ov1 [(Str.ofString "x", m₁ (Str.ofString "x")), (Str.ofString "kind", m₁ (Str.ofString "kind")), (Str.ofString "octet", m₁ (Str.ofString "octet"))] F2 (by simp) hm rfl ?_
    clear F2
    intro mAF2 F2
    have hpn : partsOf (xs.take (i + 1)) = pStep (qs ++ [p]) x := by
      unfold partsOf at hps ⊢
      rw [List.take_add_one, hx, List.foldl_append, hps]; rfl
    rw [hpn]
    have hk1 := Int.fmod_nonneg_of_pos x (show (0 : Int) < 8 by decide)
    have hk2 := Int.fmod_lt_of_pos x (show (0 : Int) < 8 by decide)
    have ho1 := Int.fmod_nonneg_of_pos (x.fdiv 8) (show (0 : Int) < 256 by decide)
    have ho2 := Int.fmod_lt_of_pos (x.fdiv 8) (show (0 : Int) < 256 by decide)
    have hs1 := Int.fmod_nonneg_of_pos (x.fdiv 8) (show (0 : Int) < 6 by decide)
    have hs2 := Int.fmod_lt_of_pos (x.fdiv 8) (show (0 : Int) < 6 by decide)
    have hown : ∀ q ∈ own, q.1 ≠ b ∧ q.1 ≠ lp := by
      intro q hq
      have h1b : b ≠ I := h1 _ (.tail _ (.head _))
      have h1l : lp ≠ I := h1 _ (.head _)
      have hcb := hfr _ hcf
      rcases h2 q hq with e | e
      · exact ⟨fun z => h1b (z.symm.trans e), fun z => h1l (z.symm.trans e)⟩
      · exact ⟨fun z => hcb.1 (e.symm.trans z), fun z => hcb.2 (e.symm.trans z)⟩
    have hpb := parts_bound (xs.take i)
    have hti : (xs.take i).length ≤ 21 := by rw [List.length_take]; omega
    have hus := partsSt_len hqs hps
    have hpz : p.length ≤ 1 + 4 * (xs.take i).length := hpb.2 p (by rw [hps]; simp)
    have huz := hp.1
    have hb1 := hpb.1
    clear hpb hm hpn hps F1 N1 hx
    (try dsimp only at F2 N2 ⊢)
    have hlI : lp ≠ I := h1 _ (.head _)
    have hbI : b ≠ I := h1 _ (.tail _ (.head _))
    have hfI : ∀ q ∈ front, q.1 ≠ I := fun q hq => h1 q (.tail _ (.tail _ hq))
    by_cases hk0 : x.fmod 8 = 0
    · (repeat' ((fail_if_success (with_reducible show wpAny _ _ (exec (Stmt.For _ _ _ _ _) _) _ _ _)); (fail_if_success (with_reducible show wpAny _ _ (call (Value.builtin "list.append") _) _ _ _)); (fail_if_success (with_reducible show wpAny _ _ (subscriptTail _ _ (Value.ref _) (Value.int _ _)) _ _ _)); first | walk_at "mine list" | (first | ((with_reducible show wpAny _ _ (eval (Expr.Constant (Const.int _) _ _) _) _ _ _); refine wpAny_Constant_int ?_; (try dsimp only)) | ((with_reducible show wpAny _ _ (unaryOp _ _) _ _ _); walk1; (try dsimp only)) | ((with_reducible show wpAny _ _ (truthy _) _ _ _); walk1; (try dsimp only)) | ((with_reducible show wpAny _ _ (binaryOp _ (Value.int _ _) (Value.int _ _)) _ _ _); walk1; (try dsimp only))) | (first | ((with_reducible show wpAny _ _ (callWith _ (Value.builtin _, _).fst _ _ _) _ _ _); refine callWith_method1 ?_) | ((with_reducible show wpAny _ _ (spliced (backTo _ (starEach (_ :: _) _))) _ _ _); refine spliced_more ?_)) | (k_unfold; (try dsimp only)) | walk1 | (dsimp only; walk1)))
      (with_reducible rename News _ _ _ _ => NE)
      (with_reducible rename IntsAre _ _ => hI1)
      rename_i lv vv F4 hl4 hv4 h6 tk6 a6 N6 D5 h5 F5 n5 s5 e5 e6 e7 l5
      have hw := natV_of (made := []) hI1 rep47
      clear hI1 s5 e5 e6 e7
      have hall := allLt_mem l5.2
      generalize (List.replicate (if (x.fdiv 8).fmod 6 - 2 > 0 then (x.fdiv 8).fmod 6 - 2 else 0).toNat vv).flatten = ws at *
      (try dsimp only)
      refine append_L (ts := us ++ [Value.ref b]) (n := k3) (rest := (D5, W.listOf ws.toArray 0) :: (b, W.listOf uz.toArray k4) :: (front ++ own)) (by k_asm) NE ?_ ?_ ?_ ?_
      · intro q hq
        rcases List.mem_cons.mp hq with rfl | hq
        · exact .tail _ (.tail _ (.head _))
        · rcases List.mem_cons.mp hq with rfl | hq
          · exact .head _
          · exact .tail _ (.tail _ (.tail _ hq))
      · intro q hq
        rcases List.mem_cons.mp hq with rfl | hq
        · exact Nat.ne_of_gt (hall _ (.head _))
        · rcases List.mem_cons.mp hq with rfl | hq
          · exact hbl
          · rcases List.mem_append.mp hq with hq | hq
            · exact (hfr q hq).2
            · exact (hown q hq).2
      · rw [List.length_append]; show us.length + 1 ≤ _; omega
      · intro h' F' N'
        dsimp only
        clear NE N6
        (repeat' ((fail_if_success (with_reducible show wpAny _ _ (exec (Stmt.For _ _ _ _ _) _) _ _ _)); (fail_if_success (with_reducible show wpAny _ _ (call (Value.builtin "list.append") _) _ _ _)); (fail_if_success (with_reducible show wpAny _ _ (subscriptTail _ _ (Value.ref _) (Value.int _ _)) _ _ _)); first | walk_at "mine list" | (first | ((with_reducible show wpAny _ _ (eval (Expr.Constant (Const.int _) _ _) _) _ _ _); refine wpAny_Constant_int ?_; (try dsimp only)) | ((with_reducible show wpAny _ _ (unaryOp _ _) _ _ _); walk1; (try dsimp only)) | ((with_reducible show wpAny _ _ (truthy _) _ _ _); walk1; (try dsimp only)) | ((with_reducible show wpAny _ _ (binaryOp _ (Value.int _ _) (Value.int _ _)) _ _ _); walk1; (try dsimp only))) | (first | ((with_reducible show wpAny _ _ (callWith _ (Value.builtin _, _).fst _ _ _) _ _ _); refine callWith_method1 ?_) | ((with_reducible show wpAny _ _ (spliced (backTo _ (starEach (_ :: _) _))) _ _ _); refine spliced_more ?_)) | (k_unfold; (try dsimp only)) | walk1 | (dsimp only; walk1)))
        exact TE.names (.inl rfl) (by k_asm) (news₁ := _ :: _ :: _ :: front) N' (fun q hq => by
          rcases List.mem_cons.mp hq with rfl | hq
          · exact hlI
          · rcases List.mem_cons.mp hq with rfl | hq
            · exact Nat.ne_of_gt (hall _ (List.mem_append_right _ h3))
            · rcases List.mem_cons.mp hq with rfl | hq
              · exact hbI
              · exact hfI q hq) (by (repeat (first | exact fun _ _ => rfl | exact off_all | refine off_put (by decide) ?_ | refine off_sub (by kernel_rfl) ?_))) (partsSt_new hfr hbl hcf hqs hp hw (fun q hq => Nat.ne_of_lt (hall q (List.mem_append_left _ hq))) (by unfold pStep; rw [if_pos hk0]))
    · have hkp : 0 < x.fmod 8 := by omega
      by_cases hk7 : x.fmod 8 = 7
      · by_cases ho13 : (x.fdiv 8).fmod 256 = 13
        · (repeat' ((fail_if_success (with_reducible show wpAny _ _ (exec (Stmt.For _ _ _ _ _) _) _ _ _)); (fail_if_success (with_reducible show wpAny _ _ (call (Value.builtin "list.append") _) _ _ _)); (fail_if_success (with_reducible show wpAny _ _ (subscriptTail _ _ (Value.ref _) (Value.int _ _)) _ _ _)); first | walk_at "mine list" | (first | ((with_reducible show wpAny _ _ (eval (Expr.Constant (Const.int _) _ _) _) _ _ _); refine wpAny_Constant_int ?_; (try dsimp only)) | ((with_reducible show wpAny _ _ (unaryOp _ _) _ _ _); walk1; (try dsimp only)) | ((with_reducible show wpAny _ _ (truthy _) _ _ _); walk1; (try dsimp only)) | ((with_reducible show wpAny _ _ (binaryOp _ (Value.int _ _) (Value.int _ _)) _ _ _); walk1; (try dsimp only))) | (first | ((with_reducible show wpAny _ _ (callWith _ (Value.builtin _, _).fst _ _ _) _ _ _); refine callWith_method1 ?_) | ((with_reducible show wpAny _ _ (spliced (backTo _ (starEach (_ :: _) _))) _ _ _); refine spliced_more ?_)) | (k_unfold; (try dsimp only)) | walk1 | (dsimp only; walk1)))
          (with_reducible rename News _ _ _ _ => NE)
          refine last1 (News.isList NE (.head _)) (by omega) ?_
          (repeat' ((fail_if_success (with_reducible show wpAny _ _ (exec (Stmt.For _ _ _ _ _) _) _ _ _)); (fail_if_success (with_reducible show wpAny _ _ (call (Value.builtin "list.append") _) _ _ _)); (fail_if_success (with_reducible show wpAny _ _ (subscriptTail _ _ (Value.ref _) (Value.int _ _)) _ _ _)); first | walk_at "mine list" | (first | ((with_reducible show wpAny _ _ (eval (Expr.Constant (Const.int _) _ _) _) _ _ _); refine wpAny_Constant_int ?_; (try dsimp only)) | ((with_reducible show wpAny _ _ (unaryOp _ _) _ _ _); walk1; (try dsimp only)) | ((with_reducible show wpAny _ _ (truthy _) _ _ _); walk1; (try dsimp only)) | ((with_reducible show wpAny _ _ (binaryOp _ (Value.int _ _) (Value.int _ _)) _ _ _); walk1; (try dsimp only))) | (first | ((with_reducible show wpAny _ _ (callWith _ (Value.builtin _, _).fst _ _ _) _ _ _); refine callWith_method1 ?_) | ((with_reducible show wpAny _ _ (spliced (backTo _ (starEach (_ :: _) _))) _ _ _); refine spliced_more ?_)) | (k_unfold; (try dsimp only)) | walk1 | (dsimp only; walk1)))
          (try dsimp only)
          refine append_L (ts := uz) (n := k4) (rest := (lp, W.listOf (us ++ [Value.ref b]).toArray k3) :: (front ++ own)) (by k_asm) NE ?_ ?_ (by omega) ?_
          · intro q hq
            rcases List.mem_cons.mp hq with rfl | hq
            · exact .tail _ (.head _)
            · rcases List.mem_cons.mp hq with rfl | hq
              · exact .head _
              · exact .tail _ (.tail _ hq)
          · intro q hq
            rcases List.mem_cons.mp hq with rfl | hq
            · exact fun e => hbl e.symm
            · rcases List.mem_append.mp hq with hq | hq
              · exact (hfr q hq).1
              · exact (hown q hq).1
          · intro h' F' N'
            dsimp only
            clear NE
            (repeat' ((fail_if_success (with_reducible show wpAny _ _ (exec (Stmt.For _ _ _ _ _) _) _ _ _)); (fail_if_success (with_reducible show wpAny _ _ (call (Value.builtin "list.append") _) _ _ _)); (fail_if_success (with_reducible show wpAny _ _ (subscriptTail _ _ (Value.ref _) (Value.int _ _)) _ _ _)); first | walk_at "mine list" | (first | ((with_reducible show wpAny _ _ (eval (Expr.Constant (Const.int _) _ _) _) _ _ _); refine wpAny_Constant_int ?_; (try dsimp only)) | ((with_reducible show wpAny _ _ (unaryOp _ _) _ _ _); walk1; (try dsimp only)) | ((with_reducible show wpAny _ _ (truthy _) _ _ _); walk1; (try dsimp only)) | ((with_reducible show wpAny _ _ (binaryOp _ (Value.int _ _) (Value.int _ _)) _ _ _); walk1; (try dsimp only))) | (first | ((with_reducible show wpAny _ _ (callWith _ (Value.builtin _, _).fst _ _ _) _ _ _); refine callWith_method1 ?_) | ((with_reducible show wpAny _ _ (spliced (backTo _ (starEach (_ :: _) _))) _ _ _); refine spliced_more ?_)) | (k_unfold; (try dsimp only)) | walk1 | (dsimp only; walk1)))
            exact TE.names (.inl rfl) (by k_asm) (news₁ := (lp, W.listOf (us ++ [Value.ref b]).toArray k3) :: (b, _) :: front) (fun q hq => N' q (by
              rcases List.mem_cons.mp hq with rfl | hq
              · exact .tail _ (.head _)
              · rcases List.mem_cons.mp hq with rfl | hq
                · exact .head _
                · exact .tail _ (.tail _ hq))) (fun q hq => by
              rcases List.mem_cons.mp hq with rfl | hq
              · exact hlI
              · rcases List.mem_cons.mp hq with rfl | hq
                · exact hbI
                · exact hfI q hq) (by (repeat (first | exact fun _ _ => rfl | exact off_all | refine off_put (by decide) ?_ | refine off_sub (by kernel_rfl) ?_))) (partsSt_put hfr hbl hcf hqs hp (octOf_13 ho13) (pStep_seven hk0 hk7))
        · (repeat' ((fail_if_success (with_reducible show wpAny _ _ (exec (Stmt.For _ _ _ _ _) _) _ _ _)); (fail_if_success (with_reducible show wpAny _ _ (call (Value.builtin "list.append") _) _ _ _)); (fail_if_success (with_reducible show wpAny _ _ (subscriptTail _ _ (Value.ref _) (Value.int _ _)) _ _ _)); first | walk_at "mine list" | (first | ((with_reducible show wpAny _ _ (eval (Expr.Constant (Const.int _) _ _) _) _ _ _); refine wpAny_Constant_int ?_; (try dsimp only)) | ((with_reducible show wpAny _ _ (unaryOp _ _) _ _ _); walk1; (try dsimp only)) | ((with_reducible show wpAny _ _ (truthy _) _ _ _); walk1; (try dsimp only)) | ((with_reducible show wpAny _ _ (binaryOp _ (Value.int _ _) (Value.int _ _)) _ _ _); walk1; (try dsimp only))) | (first | ((with_reducible show wpAny _ _ (callWith _ (Value.builtin _, _).fst _ _ _) _ _ _); refine callWith_method1 ?_) | ((with_reducible show wpAny _ _ (spliced (backTo _ (starEach (_ :: _) _))) _ _ _); refine spliced_more ?_)) | (k_unfold; (try dsimp only)) | walk1 | (dsimp only; walk1)))
          (with_reducible rename News _ _ _ _ => NE)
          refine last1 (News.isList NE (.head _)) (by omega) ?_
          (repeat' ((fail_if_success (with_reducible show wpAny _ _ (exec (Stmt.For _ _ _ _ _) _) _ _ _)); (fail_if_success (with_reducible show wpAny _ _ (call (Value.builtin "list.append") _) _ _ _)); (fail_if_success (with_reducible show wpAny _ _ (subscriptTail _ _ (Value.ref _) (Value.int _ _)) _ _ _)); first | walk_at "mine list" | (first | ((with_reducible show wpAny _ _ (eval (Expr.Constant (Const.int _) _ _) _) _ _ _); refine wpAny_Constant_int ?_; (try dsimp only)) | ((with_reducible show wpAny _ _ (unaryOp _ _) _ _ _); walk1; (try dsimp only)) | ((with_reducible show wpAny _ _ (truthy _) _ _ _); walk1; (try dsimp only)) | ((with_reducible show wpAny _ _ (binaryOp _ (Value.int _ _) (Value.int _ _)) _ _ _); walk1; (try dsimp only))) | (first | ((with_reducible show wpAny _ _ (callWith _ (Value.builtin _, _).fst _ _ _) _ _ _); refine callWith_method1 ?_) | ((with_reducible show wpAny _ _ (spliced (backTo _ (starEach (_ :: _) _))) _ _ _); refine spliced_more ?_)) | (k_unfold; (try dsimp only)) | walk1 | (dsimp only; walk1)))
          (try dsimp only)
          refine append_L (ts := uz) (n := k4) (rest := (lp, W.listOf (us ++ [Value.ref b]).toArray k3) :: (front ++ own)) (by k_asm) NE ?_ ?_ (by omega) ?_
          · intro q hq
            rcases List.mem_cons.mp hq with rfl | hq
            · exact .tail _ (.head _)
            · rcases List.mem_cons.mp hq with rfl | hq
              · exact .head _
              · exact .tail _ (.tail _ hq)
          · intro q hq
            rcases List.mem_cons.mp hq with rfl | hq
            · exact fun e => hbl e.symm
            · rcases List.mem_append.mp hq with hq | hq
              · exact (hfr q hq).1
              · exact (hown q hq).1
          · intro h' F' N'
            dsimp only
            clear NE
            (repeat' ((fail_if_success (with_reducible show wpAny _ _ (exec (Stmt.For _ _ _ _ _) _) _ _ _)); (fail_if_success (with_reducible show wpAny _ _ (call (Value.builtin "list.append") _) _ _ _)); (fail_if_success (with_reducible show wpAny _ _ (subscriptTail _ _ (Value.ref _) (Value.int _ _)) _ _ _)); first | walk_at "mine list" | (first | ((with_reducible show wpAny _ _ (eval (Expr.Constant (Const.int _) _ _) _) _ _ _); refine wpAny_Constant_int ?_; (try dsimp only)) | ((with_reducible show wpAny _ _ (unaryOp _ _) _ _ _); walk1; (try dsimp only)) | ((with_reducible show wpAny _ _ (truthy _) _ _ _); walk1; (try dsimp only)) | ((with_reducible show wpAny _ _ (binaryOp _ (Value.int _ _) (Value.int _ _)) _ _ _); walk1; (try dsimp only))) | (first | ((with_reducible show wpAny _ _ (callWith _ (Value.builtin _, _).fst _ _ _) _ _ _); refine callWith_method1 ?_) | ((with_reducible show wpAny _ _ (spliced (backTo _ (starEach (_ :: _) _))) _ _ _); refine spliced_more ?_)) | (k_unfold; (try dsimp only)) | walk1 | (dsimp only; walk1)))
            exact TE.names (.inl rfl) (by k_asm) (news₁ := (lp, W.listOf (us ++ [Value.ref b]).toArray k3) :: (b, _) :: front) (fun q hq => N' q (by
              rcases List.mem_cons.mp hq with rfl | hq
              · exact .tail _ (.head _)
              · rcases List.mem_cons.mp hq with rfl | hq
                · exact .head _
                · exact .tail _ (.tail _ hq))) (fun q hq => by
              rcases List.mem_cons.mp hq with rfl | hq
              · exact hlI
              · rcases List.mem_cons.mp hq with rfl | hq
                · exact hbI
                · exact hfI q hq) (by (repeat (first | exact fun _ _ => rfl | exact off_all | refine off_put (by decide) ?_ | refine off_sub (by kernel_rfl) ?_))) (partsSt_put hfr hbl hcf hqs hp (octOf_ne ho1 ho13) (pStep_seven hk0 hk7))
      · (repeat' ((fail_if_success (with_reducible show wpAny _ _ (exec (Stmt.For _ _ _ _ _) _) _ _ _)); (fail_if_success (with_reducible show wpAny _ _ (call (Value.builtin "list.append") _) _ _ _)); (fail_if_success (with_reducible show wpAny _ _ (subscriptTail _ _ (Value.ref _) (Value.int _ _)) _ _ _)); first | walk_at "mine list" | (first | ((with_reducible show wpAny _ _ (eval (Expr.Constant (Const.int _) _ _) _) _ _ _); refine wpAny_Constant_int ?_; (try dsimp only)) | ((with_reducible show wpAny _ _ (unaryOp _ _) _ _ _); walk1; (try dsimp only)) | ((with_reducible show wpAny _ _ (truthy _) _ _ _); walk1; (try dsimp only)) | ((with_reducible show wpAny _ _ (binaryOp _ (Value.int _ _) (Value.int _ _)) _ _ _); walk1; (try dsimp only))) | (first | ((with_reducible show wpAny _ _ (callWith _ (Value.builtin _, _).fst _ _ _) _ _ _); refine callWith_method1 ?_) | ((with_reducible show wpAny _ _ (spliced (backTo _ (starEach (_ :: _) _))) _ _ _); refine spliced_more ?_)) | (k_unfold; (try dsimp only)) | walk1 | (dsimp only; walk1)))
        (with_reducible rename News _ _ _ _ => NE)
        refine last1 (News.isList NE (.head _)) (by omega) ?_
        (repeat' ((fail_if_success (with_reducible show wpAny _ _ (exec (Stmt.For _ _ _ _ _) _) _ _ _)); (fail_if_success (with_reducible show wpAny _ _ (call (Value.builtin "list.append") _) _ _ _)); (fail_if_success (with_reducible show wpAny _ _ (subscriptTail _ _ (Value.ref _) (Value.int _ _)) _ _ _)); first | walk_at "mine list" | (first | ((with_reducible show wpAny _ _ (eval (Expr.Constant (Const.int _) _ _) _) _ _ _); refine wpAny_Constant_int ?_; (try dsimp only)) | ((with_reducible show wpAny _ _ (unaryOp _ _) _ _ _); walk1; (try dsimp only)) | ((with_reducible show wpAny _ _ (truthy _) _ _ _); walk1; (try dsimp only)) | ((with_reducible show wpAny _ _ (binaryOp _ (Value.int _ _) (Value.int _ _)) _ _ _); walk1; (try dsimp only))) | (first | ((with_reducible show wpAny _ _ (callWith _ (Value.builtin _, _).fst _ _ _) _ _ _); refine callWith_method1 ?_) | ((with_reducible show wpAny _ _ (spliced (backTo _ (starEach (_ :: _) _))) _ _ _); refine spliced_more ?_)) | (k_unfold; (try dsimp only)) | walk1 | (dsimp only; walk1)))
        (with_reducible rename News _ _ _ _ => NE)
        (with_reducible rename IntsAre _ _ => hMn)
        refine menu_item (News.isList NE (.head _)) hMn (by omega) (by omega) ?_
        intro t9
        (repeat' ((fail_if_success (with_reducible show wpAny _ _ (exec (Stmt.For _ _ _ _ _) _) _ _ _)); (fail_if_success (with_reducible show wpAny _ _ (call (Value.builtin "list.append") _) _ _ _)); (fail_if_success (with_reducible show wpAny _ _ (subscriptTail _ _ (Value.ref _) (Value.int _ _)) _ _ _)); first | walk_at "mine list" | (first | ((with_reducible show wpAny _ _ (eval (Expr.Constant (Const.int _) _ _) _) _ _ _); refine wpAny_Constant_int ?_; (try dsimp only)) | ((with_reducible show wpAny _ _ (unaryOp _ _) _ _ _); walk1; (try dsimp only)) | ((with_reducible show wpAny _ _ (truthy _) _ _ _); walk1; (try dsimp only)) | ((with_reducible show wpAny _ _ (binaryOp _ (Value.int _ _) (Value.int _ _)) _ _ _); walk1; (try dsimp only))) | (first | ((with_reducible show wpAny _ _ (callWith _ (Value.builtin _, _).fst _ _ _) _ _ _); refine callWith_method1 ?_) | ((with_reducible show wpAny _ _ (spliced (backTo _ (starEach (_ :: _) _))) _ _ _); refine spliced_more ?_)) | (k_unfold; (try dsimp only)) | walk1 | (dsimp only; walk1)))
        (try dsimp only)
        refine append_L (ts := uz) (n := k4) (rest := (lp, W.listOf (us ++ [Value.ref b]).toArray k3) :: (front ++ own)) (by k_asm) NE ?_ ?_ (by omega) ?_
        · intro q hq
          rcases List.mem_cons.mp hq with rfl | hq
          · exact .tail _ (.tail _ (.head _))
          · rcases List.mem_cons.mp hq with rfl | hq
            · exact .tail _ (.head _)
            · exact .tail _ (.tail _ (.tail _ hq))
        · intro q hq
          rcases List.mem_cons.mp hq with rfl | hq
          · exact fun e => hbl e.symm
          · rcases List.mem_append.mp hq with hq | hq
            · exact (hfr q hq).1
            · exact (hown q hq).1
        · intro h' F' N'
          dsimp only
          clear NE
          (repeat' ((fail_if_success (with_reducible show wpAny _ _ (exec (Stmt.For _ _ _ _ _) _) _ _ _)); (fail_if_success (with_reducible show wpAny _ _ (call (Value.builtin "list.append") _) _ _ _)); (fail_if_success (with_reducible show wpAny _ _ (subscriptTail _ _ (Value.ref _) (Value.int _ _)) _ _ _)); first | walk_at "mine list" | (first | ((with_reducible show wpAny _ _ (eval (Expr.Constant (Const.int _) _ _) _) _ _ _); refine wpAny_Constant_int ?_; (try dsimp only)) | ((with_reducible show wpAny _ _ (unaryOp _ _) _ _ _); walk1; (try dsimp only)) | ((with_reducible show wpAny _ _ (truthy _) _ _ _); walk1; (try dsimp only)) | ((with_reducible show wpAny _ _ (binaryOp _ (Value.int _ _) (Value.int _ _)) _ _ _); walk1; (try dsimp only))) | (first | ((with_reducible show wpAny _ _ (callWith _ (Value.builtin _, _).fst _ _ _) _ _ _); refine callWith_method1 ?_) | ((with_reducible show wpAny _ _ (spliced (backTo _ (starEach (_ :: _) _))) _ _ _); refine spliced_more ?_)) | (k_unfold; (try dsimp only)) | walk1 | (dsimp only; walk1)))
          exact TE.names (.inl rfl) (by k_asm) (news₁ := (lp, W.listOf (us ++ [Value.ref b]).toArray k3) :: (b, _) :: front) (fun q hq => N' q (by
            rcases List.mem_cons.mp hq with rfl | hq
            · exact .tail _ (.head _)
            · rcases List.mem_cons.mp hq with rfl | hq
              · exact .head _
              · exact .tail _ (.tail _ hq))) (fun q hq => by
            rcases List.mem_cons.mp hq with rfl | hq
            · exact hlI
            · rcases List.mem_cons.mp hq with rfl | hq
              · exact hbI
              · exact hfI q hq) (by (repeat (first | exact fun _ _ => rfl | exact off_all | refine off_put (by decide) ?_ | refine off_sub (by kernel_rfl) ?_))) (partsSt_put hfr hbl hcf hqs hp rfl (pStep_menu hk0 hk7))
  · rintro m₁ news₁ h tk' hm ⟨us, b, uz, k3, k4, front, qs, p, rfl, hfr, hbl, hcf, hqs, hp, hps⟩ F2 N2
    rw [show ws2.toArray.size = xs.length by simp [hws], List.take_length] at hps
    rw [hps] at hR
    refine let_ov [(Str.ofString "x", m₁ (Str.ofString "x")), (Str.ofString "kind", m₁ (Str.ofString "kind")), (Str.ofString "octet", m₁ (Str.ofString "octet"))] F2 (by simp) hm rfl ?_
    clear F2
    intro mAF2 F2
    (try dsimp only at F2 N2 ⊢)
    (repeat' ((fail_if_success (with_reducible show wpAny _ _ (exec (Stmt.For _ _ _ _ _) _) _ _ _)); (fail_if_success (with_reducible show wpAny _ _ (call (Value.builtin "list.append") _) _ _ _)); (fail_if_success (with_reducible show wpAny _ _ (subscriptTail _ _ (Value.ref _) (Value.int _ _)) _ _ _)); first | walk_at "mine list" | (first | ((with_reducible show wpAny _ _ (eval (Expr.Constant (Const.int _) _ _) _) _ _ _); refine wpAny_Constant_int ?_; (try dsimp only)) | ((with_reducible show wpAny _ _ (unaryOp _ _) _ _ _); walk1; (try dsimp only)) | ((with_reducible show wpAny _ _ (truthy _) _ _ _); walk1; (try dsimp only)) | ((with_reducible show wpAny _ _ (binaryOp _ (Value.int _ _) (Value.int _ _)) _ _ _); walk1; (try dsimp only))) | (first | ((with_reducible show wpAny _ _ (callWith _ (Value.builtin _, _).fst _ _ _) _ _ _); refine callWith_method1 ?_) | ((with_reducible show wpAny _ _ (spliced (backTo _ (starEach (_ :: _) _))) _ _ _); refine spliced_more ?_)) | (k_unfold; (try dsimp only)) | walk1 | (dsimp only; walk1)))
    (with_reducible rename News _ _ _ _ => NE)
    exact hR _ _ _ _ _ (by k_asm) NE ⟨lp, us ++ [Value.ref b], k3, rfl, .head _, partsSt_all (fun q hq => .tail _ (.tail _ hq)) (.tail _ (.head _)) hqs hp⟩
end Mine
end

section
open PySem PySem.W PyProof.Rows PySem.Calls PyProof
set_option maxRecDepth 100000
set_option maxHeartbeats 0
namespace Mine
section
variable {prog : Program} {w : World} {A : Around} {E : Value → Shared → Prop} {s : Shared} {env : Env} {h₀ : Heap} {body : List Stmt} {Q : Flow → Shared → Prop}
/-- a while whose end is told once -/
theorem while_namesD {L : Addr} {test : PySem.Expr} {pos : Pos} {m₀ : Str → Option Value} {news : List (Addr × Obj)} (names : List Str) (S : Nat → (Str → Option Value) → Prop) (R : (Str → Option Value) → Prop) {n₀ : Nat}
    (F : Fr h₀ L s.heap m₀) (N : News h₀ L s.heap news) (hS : S n₀ m₀)
    (turn : ∀ n m₁ h tk, (∀ z, z ∉ names → m₁ z = m₀ z) → S n m₁ → Fr h₀ L h m₁ → News h₀ L h news →
      wpAny (model prog w) A (isTrue test env (eval test env)) (fun b s₂ =>
        if b = true then wpAny (model prog w) A (execs body env) (WT h₀ L s names m₀ news S n) E s₂
        else Hold (∃ h' tk' m', s₂ = { s with heap := h', toks := tk' } ∧ Fr h₀ L h' m' ∧ News h₀ L h' news ∧ (∀ z, z ∉ names → m' z = m₀ z) ∧ R m')) E { s with heap := h, toks := tk })
    (done : ∀ m' h tk, (∀ z, z ∉ names → m' z = m₀ z) → R m' → Fr h₀ L h m' → News h₀ L h news → Q .next { s with heap := h, toks := tk })
    (hE : PassesOwn (model prog w) A env E := by passes_own) :
    wpAny (model prog w) A (exec (.While test body [] pos) env) Q E s := by
  refine while_names names S F N hS (fun n m₁ h tk hm hS₁ F₁ N₁ => ?_) hE
  refine wpAny_mono (turn n m₁ h tk hm hS₁ F₁ N₁) (fun b s₂ h₂ => ?_) (fun _ _ e => e)
  cases b with
  | false =>
    simp only [Bool.false_eq_true, if_false] at h₂ ⊢
    obtain ⟨h', tk', m', rfl, F', N', hm', hR⟩ := h₂
    exact done m' h' tk' hm' hR F' N'
  | true =>
    simp only [if_true] at h₂ ⊢
    exact h₂
end
theorem lead_run {p : List Nat} {k c : Nat} (hk : k ≤ lead sl47 p) (hc : p[k]? = some c) : (c = 47 → k + 1 ≤ lead sl47 p) ∧ (c ≠ 47 → k = lead sl47 p) := by
  unfold lead at *
  induction p generalizing k with
  | nil => simp at hc
  | cons a p ih =>
    rw [List.takeWhile_cons] at hk ⊢
    cases k with
    | zero =>
      have : a = c := by simpa using hc
      subst this
      by_cases h : a = 47
      · subst h; simp
      · rw [if_neg (by simpa using h)]; simp [h]
    | succ k =>
      by_cases h : a = 47
      · subst h
        simp only [beq_self_eq_true, if_true, List.length_cons] at hk ⊢
        have := ih (k := k) (by omega) (by simpa using hc)
        constructor
        · intro h; have := this.1 h; omega
        · intro h; have := this.2 h; omega
      · rw [if_neg (by simpa using h)] at hk
        simp at hk
theorem lead_le (p : List Nat) : lead sl47 p ≤ p.length := by
  unfold lead
  exact (List.takeWhile_sublist _).length_le
theorem pick_drop {vs : List Value} {k : Nat} (h : k ≤ vs.length) : (slicePick vs.toArray (some ((k : Nat) : Int)) none none).toList = vs.drop k := by
  have e : sliceBounds (some ((k : Nat) : Int)) none none vs.toArray.size = (((k : Nat) : Int), ((vs.toArray.size : Nat) : Int), 1) := by
    simp only [sliceBounds, Option.getD_none, show (1 : Int) > 0 by decide, if_true, if_neg (show ¬ (((k : Nat) : Int) < 0) by omega), List.size_toArray]
    congr 1
    omega
  rw [kmk_pick_nat _ e]
  show (vs.drop k).take (vs.toArray.size - k) = _
  rw [List.size_toArray, List.take_of_length_le (by rw [List.length_drop]; omega)]
theorem AreM.drop {α : Type} {P : List (Addr × Obj) → Value → α → Prop} {made : List (Addr × Obj)} {vs : List Value} {xs : List α} (h : AreM P made vs xs) (k : Nat) : AreM P made (vs.drop k) (xs.drop k) := by
  refine ⟨by simp [h.1], fun i x hx => ?_⟩
  rw [List.getElem?_drop] at hx ⊢
  exact h.2 _ x hx
end Mine
end

section
open PySem PySem.W PyProof.Rows PySem.Calls PyProof
set_option maxRecDepth 100000
set_option maxHeartbeats 0
namespace Mine
theorem cuts_put {α : Type} {sl : α → Bool} {t : α} (h : sl t = false) : ∀ {l : List α} {q : List (List α)} {z : List α}, cuts sl l = q ++ [z] → cuts sl (l ++ [t]) = q ++ [z ++ [t]]
  | [], q, z, e => by
    have e' : [[]] = q ++ [z] := e
    cases q with
    | nil =>
      have : z = [] := by simpa using e'.symm
      subst this
      simp [cuts, h, addHd]
    | cons p q => simp at e'
  | a :: l, q, z, e => by
    rw [cuts] at e
    rw [List.cons_append, cuts]
    rcases List.eq_nil_or_concat (cuts sl l) with h0 | ⟨q', z', h0⟩
    · exact absurd h0 (cuts_ne _ _)
    · rw [List.concat_eq_append] at h0
      rw [cuts_put h h0]
      rw [h0] at e
      split
      · rename_i ha
        rw [if_pos ha, ← List.cons_append] at e
        obtain ⟨e1, e2⟩ := List.append_inj' e rfl
        have e3 : z' = z := by simpa using e2
        rw [← e1, e3]; rfl
      · rename_i ha
        rw [if_neg ha] at e
        cases q' with
        | nil =>
          have e' : [a :: z'] = q ++ [z] := e
          cases q with
          | nil =>
            have : a :: z' = z := by simpa using e'
            rw [← this]; rfl
          | cons p q => simp at e'
        | cons p r =>
          have e' : ((a :: p) :: r) ++ [z'] = q ++ [z] := e
          obtain ⟨e1, e2⟩ := List.append_inj' e' rfl
          have e3 : z' = z := by simpa using e2
          rw [← e1, e3]; rfl
noncomputable def flagAt (p : List Nat) (j c : Nat) : Bool := (c == 9 || c == 32) && (decide (j + 1 < p.length) && p.getD (j + 1) 0 != 10)
theorem toks_at : ∀ {p : List Nat} {j c : Nat}, p[j]? = some c → (toksOf p)[j]? = some (c, flagAt p j c)
  | [], j, c, h => by simp at h
  | [a], j, c, h => by
    cases j with
    | zero =>
      have : a = c := by simpa using h
      subst this
      simp [toksOf, flagAt]
    | succ j => simp at h
  | a :: b :: l, j, c, h => by
    cases j with
    | zero =>
      have : a = c := by simpa using h
      subst this
      simp [toksOf, flagAt]
    | succ j =>
      have ih := toks_at (p := b :: l) (j := j) (c := c) (by simpa using h)
      rw [toksOf, List.getElem?_cons_succ, ih]
      simp [flagAt]
theorem tot_cuts (l : List Nat) : tot (cuts slT (toksOf l)) = l.length + 1 := by
  have := cuts_sum slT (toksOf l)
  rw [toks_len] at this
  exact this
noncomputable def accN (qs : List (List Nat)) : List (List Tk) := qs.flatMap fun p => cuts slT (toksOf p)
theorem tot_acc : ∀ {qs : List (List Nat)}, (∀ p ∈ qs, p.length ≤ 85) → tot (accN qs) ≤ 86 * qs.length
  | [], _ => Nat.le_refl _
  | p :: qs, h => by
    have ih := tot_acc (qs := qs) fun q hq => h q (.tail _ hq)
    have e : accN (p :: qs) = cuts slT (toksOf p) ++ accN qs := by unfold accN; rw [List.flatMap_cons]
    rw [e, tot_app, tot_cuts, List.length_cons]
    have := h p (.head _)
    omega
/-- the names so far, the last one told apart -/
noncomputable def NamesSt (ln I : Addr) (keep : List (Addr × Obj)) (all : List (List Tk)) (news : List (Addr × Obj)) : Prop :=
  ∃ (vs : List Value) (b : Addr) (us : List Value) (k k2 : Nat) (front : List (Addr × Obj)) (pieces : List (List Tk)) (last : List Tk),
    news = (ln, W.listOf (vs ++ [Value.ref b]).toArray k) :: (b, W.listOf us.toArray k2) :: front ∧ (∀ q ∈ front, q.1 ≠ b ∧ q.1 ≠ ln) ∧ b ≠ ln ∧ (∀ q ∈ keep, q ∈ front) ∧ (∀ q ∈ news, q.1 ≠ I) ∧ AreM NameM front vs pieces ∧ AreM TkV front us last ∧ all = pieces ++ [last]
theorem namesSt_all {made front : List (Addr × Obj)} {vs us : List Value} {b : Addr} {k : Nat} {qs : List (List Tk)} {p : List Tk} (hf : ∀ q ∈ front, q ∈ made) (hb : (b, W.listOf us.toArray k) ∈ made) (h : AreM NameM front vs qs) (hp : AreM TkV front us p) : AreM NameM made (vs ++ [Value.ref b]) (qs ++ [p]) :=
  AreM.snoc (h.mono fun _ _ hu => NameM.mono hf hu) ⟨b, us, k, rfl, hb, hp.mono fun _ _ h => TkV.mono hf h⟩
theorem namesSt_cut {ln I b D : Addr} {keep : List (Addr × Obj)} {vs us : List Value} {k k2 k3 : Nat} {front : List (Addr × Obj)} {pieces : List (List Tk)} {last : List Tk} (hfr : ∀ q ∈ front, q.1 ≠ b ∧ q.1 ≠ ln) (hbl : b ≠ ln) (hk : ∀ q ∈ keep, q ∈ front) (hI : ∀ q ∈ (ln, W.listOf (vs ++ [Value.ref b]).toArray k) :: (b, W.listOf us.toArray k2) :: front, q.1 ≠ I) (h1 : AreM NameM front vs pieces) (h2 : AreM TkV front us last)
    (hD : ∀ q ∈ (ln, W.listOf (vs ++ [Value.ref b]).toArray k) :: (b, W.listOf us.toArray k2) :: front, q.1 ≠ D) (hDI : D ≠ I) :
    NamesSt ln I keep (pieces ++ [last] ++ [[]]) ((ln, W.listOf (vs ++ [Value.ref b] ++ [Value.ref D]).toArray (k + 1)) :: (D, W.listOf #[] k3) :: (b, W.listOf us.toArray k2) :: front) := by
  refine ⟨vs ++ [Value.ref b], D, [], k + 1, k3, (b, W.listOf us.toArray k2) :: front, pieces ++ [last], [], rfl, fun q hq => ?_, fun h => hD _ (.head _) h.symm, fun q hq => .tail _ (hk q hq), fun q hq => ?_, namesSt_all (fun q hq => .tail _ hq) (.head _) h1 h2, AreM.nil, rfl⟩
  · rcases List.mem_cons.mp hq with rfl | hq
    · exact ⟨hD _ (.tail _ (.head _)), hbl⟩
    · exact ⟨hD _ (.tail _ (.tail _ hq)), (hfr q hq).2⟩
  · rcases List.mem_cons.mp hq with rfl | hq
    · exact (hI (ln, W.listOf (vs ++ [Value.ref b]).toArray k) (.head _) : ln ≠ I)
    · rcases List.mem_cons.mp hq with rfl | hq
      · exact hDI
      · exact hI q (.tail _ hq)
theorem namesSt_put {ln I b T : Addr} {keep : List (Addr × Obj)} {vs us : List Value} {k k2 c : Nat} {t : Tok} {fl : Bool} {front : List (Addr × Obj)} {pieces : List (List Tk)} {last : List Tk} (hfr : ∀ q ∈ front, q.1 ≠ b ∧ q.1 ≠ ln) (hbl : b ≠ ln) (hk : ∀ q ∈ keep, q ∈ front) (hI : ∀ q ∈ (ln, W.listOf (vs ++ [Value.ref b]).toArray k) :: (b, W.listOf us.toArray k2) :: front, q.1 ≠ I) (h1 : AreM NameM front vs pieces) (h2 : AreM TkV front us last)
    (hT : ∀ q ∈ (ln, W.listOf (vs ++ [Value.ref b]).toArray k) :: (b, W.listOf us.toArray k2) :: front, q.1 ≠ T) (hTI : T ≠ I) :
    NamesSt ln I keep (pieces ++ [last ++ [(c, fl)]]) ((ln, W.listOf (vs ++ [Value.ref b]).toArray k) :: (b, W.listOf (us ++ [Value.ref T]).toArray (k2 + 1)) :: (T, pairO c t fl) :: front) := by
  have hf : ∀ q ∈ front, q ∈ (T, pairO c t fl) :: front := fun q hq => .tail _ hq
  refine ⟨vs, b, us ++ [Value.ref T], k, k2 + 1, (T, pairO c t fl) :: front, pieces, last ++ [(c, fl)], rfl, fun q hq => ?_, hbl, fun q hq => .tail _ (hk q hq), fun q hq => ?_, h1.mono fun _ _ h => NameM.mono hf h, AreM.snoc (h2.mono fun _ _ h => TkV.mono hf h) ⟨T, t, rfl, .head _⟩, rfl⟩
  · rcases List.mem_cons.mp hq with rfl | hq
    · exact ⟨fun e => hT _ (.tail _ (.head _)) e.symm, fun e => hT _ (.head _) e.symm⟩
    · exact hfr q hq
  · rcases List.mem_cons.mp hq with rfl | hq
    · exact hI _ (.head _)
    · rcases List.mem_cons.mp hq with rfl | hq
      · exact (hI (b, W.listOf us.toArray k2) (.tail _ (.head _)) : b ≠ I)
      · rcases List.mem_cons.mp hq with rfl | hq
        · exact hTI
        · exact hI q (.tail _ (.tail _ hq))
theorem all_cut {acc pieces : List (List Tk)} {last l : List Tk} {t : Tk} (ht : slT t = true) (e : acc ++ cuts slT l = pieces ++ [last]) : acc ++ cuts slT (l ++ [t]) = pieces ++ [last] ++ [[]] := by
  rw [cuts_end ht, ← List.append_assoc, e]
theorem all_put {acc pieces : List (List Tk)} {last l : List Tk} {t : Tk} (ht : slT t = false) (e : acc ++ cuts slT l = pieces ++ [last]) : acc ++ cuts slT (l ++ [t]) = pieces ++ [last ++ [t]] := by
  rcases List.eq_nil_or_concat (cuts slT l) with h0 | ⟨q, z, h0⟩
  · exact absurd h0 (cuts_ne _ _)
  · rw [List.concat_eq_append] at h0
    rw [cuts_put ht h0]
    rw [h0, ← List.append_assoc] at e
    obtain ⟨e1, e2⟩ := List.append_inj' e rfl
    have e3 : z = last := by simpa using e2
    rw [← List.append_assoc, e1, e3]
theorem tot_infix {slT : Tk → Bool} (l : List Tk) (j : Nat) : tot (cuts slT (l.take j)) ≤ l.length + 1 := by
  have h := cuts_sum slT (l.take j)
  have e : tot (cuts slT (l.take j)) = (l.take j).length + 1 := h
  rw [e, List.length_take]; omega
theorem flag_no {p : List Nat} {j c : Nat} (h9 : ¬ c = 9) (h32 : ¬ c = 32) : ((c : Int) == 32) = flagAt p j c := by
  have e : ((c : Int) == 32) = false := beq_eq_false_iff_ne.mpr (by omega)
  rw [e]; simp [flagAt, h9, h32]
theorem flag_end {p : List Nat} {j c : Nat} {x : Int} (h : c = 9 ∨ c = 32) (hn : ¬ j + 1 < p.length) (hx : x = (p.length : Nat)) : decide ((j : Int) + 1 < x) = flagAt p j c := by
  have e : decide ((j : Int) + 1 < x) = false := decide_eq_false (by omega)
  rw [e]; simp [flagAt, hn]
theorem flag_in {p : List Nat} {j c d : Nat} (h : c = 9 ∨ c = 32) (hd : p[j + 1]? = some d) : ((d : Int) != 10) = flagAt p j c := by
  have hn := (List.getElem?_eq_some_iff.mp hd).1
  have e : p.getD (j + 1) 0 = d := by rw [List.getD_eq_getElem?_getD, hd]; rfl
  unfold flagAt
  rw [e]
  have e1 : (c == 9 || c == 32) = true := by rcases h with rfl | rfl <;> rfl
  rw [e1, decide_eq_true hn, Bool.true_and, Bool.true_and, Bool.eq_iff_iff, bne_iff_ne, bne_iff_ne]
  omega
theorem full_acc (qs : List (List Nat)) : (accN qs).filter (fun p => !p.isEmpty) = qs.flatMap fun p => names slT (toksOf p) := by
  induction qs with
  | nil => rfl
  | cons p qs ih =>
    have e : accN (p :: qs) = cuts slT (toksOf p) ++ accN qs := by unfold accN; rw [List.flatMap_cons]
    rw [e, List.filter_append, ih, List.flatMap_cons]
    rfl
theorem mul_root {n : Nat} (h : n < 3) : Txt.mul (Str.ofString "/") ((n : Nat) : Int) = ⟨(rootL n).toArray⟩ := by
  have : n = 0 ∨ n = 1 ∨ n = 2 := by omega
  rcases this with rfl | rfl | rfl <;> decide
theorem mul_root1 {n : Nat} (h : ¬ n < 3) : Txt.mul (Str.ofString "/") 1 = ⟨(rootL n).toArray⟩ := by
  have e : rootL n = [47] := by unfold rootL; rw [if_neg (by omega), if_neg (by omega)]
  rw [e]; decide
theorem filt_yes {acc : List (List Tk)} {i : Nat} {x : List Tk} (h : acc[i]? = some x) (hx : x ≠ []) : (acc.take (i + 1)).filter (fun p => !p.isEmpty) = (acc.take i).filter (fun p => !p.isEmpty) ++ [x] := by
  rw [List.take_add_one, h, List.filter_append]
  have : (!x.isEmpty) = true := by cases x with | nil => exact absurd rfl hx | cons a x => rfl
  simp [List.filter_cons, this]
theorem filt_no {acc : List (List Tk)} {i : Nat} {x : List Tk} (h : acc[i]? = some x) (hx : x = []) : (acc.take (i + 1)).filter (fun p => !p.isEmpty) = (acc.take i).filter (fun p => !p.isEmpty) := by
  rw [List.take_add_one, h, List.filter_append, hx]
  simp
end Mine
end

section
open PySem PySem.W PyProof.Rows PySem.Calls PyProof
set_option maxRecDepth 100000
set_option maxHeartbeats 0
namespace Mine
theorem kfillM7 : Challenge.rw_pd0176_01.name = Challenge.rw_pd0176_01.name ∨ ∀ P, MineHd.K P = MineHd.K P := by
  k_fill
  exact .inl rfl
local macro_rules | `(tactic| walk_at "mine list") => `(tactic| first
  | ((with_reducible show wpAny _ _ (eval (Expr.List [] _) _) _ _ _); (refine list0 (by k_asm) (by k_asm) ?_; intro h' l F' N' hl'; (try dsimp only)))
  | ((with_reducible show wpAny _ _ (eval (Expr.List [Expr.Constant (Const.int 0) _ _] _) _) _ _ _); (refine listInts [(0, _)] (by k_asm) (by k_asm) (by decide) ?_; intro h' tk' l vs' F' N' hl' hv'; (try dsimp only); simp only [List.map_cons, List.map_nil] at hv'))
  | ((with_reducible show wpAny _ _ (eval (Expr.List [Expr.Constant (Const.int 47) _ _] _) _) _ _ _); (refine listInts [(47, _)] (by k_asm) (by k_asm) (by decide) ?_; intro h' tk' l vs' F' N' hl' hv'; (try dsimp only); simp only [List.map_cons, List.map_nil] at hv')))
local macro_rules | `(tactic| walk_at "call builtin:len") => `(tactic| (refine len_list (ilK (by k_asm) (by with_reducible assumption)) (by simp only [List.size_toArray]; omega) ?_; (try dsimp only)))
local macro_rules | `(tactic| walk_at "ite") => `(tactic| first
  | (refine W.ite_pos (by with_reducible assumption) ?_)
  | (refine ite_isFalse (by with_reducible assumption) ?_)
  | (refine W.ite_pos (decide_eq_true (by omega)) ?_)
  | (refine ite_isFalse (decide_eq_false (by omega)) ?_)
  | (refine W.ite_pos (show (_ != _) = true from bne_iff_ne.mpr (by omega)) ?_)
  | (refine ite_isFalse (show (_ != _) = false from bne_eq_false_iff_eq.mpr (by omega)) ?_))
local macro_rules | `(tactic| walk_at "compareOp NotEq ref ref") => `(tactic| ((with_reducible rename News _ _ _ _ => NQ); refine ne_empty (ilK (by k_asm) (by with_reducible assumption)) (News.isList NQ (List.Mem.head _)) (Nat.le_of_ble_eq_true rfl) ?_))
local macro_rules | `(tactic| walk_at "subscriptTail Name Slice ref ref") => `(tactic| ((with_reducible show wpAny _ _ (subscriptTail _ (PySem.Expr.Slice (some _) none none _) (Value.ref _) (Value.ref _)) _ _ _); k_dflt (refine' kmk_slice_lit ?F ?N ?l ?pl ?pu ?e ?_ ?s ?t ?z; (case F => k_asm); (case N => k_asm); (case l => exact ilK (by k_asm) (by with_reducible assumption)); (case pl => exact IsPart.int _ _); (case pu => exact IsPart.none); (case e => exact pick_drop (by omega)); (case s => with_unfolding_all rfl); (case t => kmk_pure); (case z => (refine szS ?_; simp only [List.size_toArray]; omega))); intro D' h' F' N' lD; (try dsimp only)))
theorem names_spec (w : World) (a : Addr) (ps : List (List Nat)) (made : List (Addr × Obj)) (hpm : PartsM made (.ref a) ps) (hne : ps ≠ []) (hpl : ps.length ≤ 85) (hpc : ∀ p ∈ ps, p.length ≤ 85) :
    FnM w 700 236 [.ref a] (fun h => Stand h made) (fun new v => ∃ c root t nl, v = .ref c ∧ (c, { cls := .type "tuple", data := .seq #[.str root t, .ref nl] }) ∈ new ∧ cs root = rootL (leadOf ps) ∧ NamesM new (.ref nl) (nsOf ps)) := by
  w_on
  refine' enter_fnMC [(Str.ofString "parts", .ref a)] ?k6 ?k7 ?k8 ?k9 ?kK ?kN ?c2 ?c3 ?c4 ?_
  (((case k6 => k_is); (case k7 => k_is); (case k8 => decide); (case k9 => first | (intro _ _; exact BindsTo.of_eq rfl) | (intro _ X9; exact binds_K X9 rfl (by k_is) rfl rfl rfl)); (case kK => exact rfl); (case kN => decide); (case c2 => exact rfl); (case c3 => exact rfl); (case c4 => exact rfl)))
  intro s h₁ L tk mean mg mb Q cells X T hst F N Y hR
  obtain ⟨oc, rfl, hcd⟩ := CellsAre.one Y
  clear Y
  obtain ⟨a', vs, k, e, hm, har⟩ := hpm
  injection e with e
  subst e
  have hA := ilM (hst _ hm)
  have hcv : oc.data = .cell (some (.ref (a, W.listOf vs.toArray k).1)) := hcd
  clear hcd
  replace F : Fr s.heap L h₁ (fun _ => none) := F
  dsimp only at hA hcv
  have hvl : vs.length ≤ 85 := by rw [har.1]; exact hpl
  (repeat' ((fail_if_success (with_reducible show wpAny _ _ (exec (Stmt.For _ _ _ _ _) _) _ _ _)); (fail_if_success (with_reducible show wpAny _ _ (exec (Stmt.While _ _ _ _) _) _ _ _)); (fail_if_success (with_reducible show wpAny _ _ (eval (Expr.ListComp _ _ _ _) _) _ _ _)); (fail_if_success (with_reducible show wpAny _ _ (call (Value.builtin "list.append") _) _ _ _)); (fail_if_success (with_reducible show wpAny _ _ (call (Value.builtin "max") _) _ _ _)); (fail_if_success (with_reducible show wpAny _ _ (subscriptTail _ _ (Value.ref _) (Value.int _ _)) _ _ _)); first | (((with_reducible show wpAny _ _ (eval (Expr.Name _ _) (compEnvC _ _ _ _)) _ _ _); first | (refine' nameC_L ?mzF ?mzv ?mza ?mzb ?_; (case mzF => k_asm); (case mza => with_unfolding_all rfl); (case mzb => with_unfolding_all rfl); (case mzv => rfl)) | (refine' nameC_C (goK (by k_asm) (by with_reducible assumption)) (by with_reducible assumption) ?mzc ?mza ?mzb ?_; (case mza => with_unfolding_all rfl); (case mzb => with_unfolding_all rfl); (case mzc => with_unfolding_all rfl)))) | walk_at "mine list" | (first | ((with_reducible show wpAny _ _ (eval (Expr.Constant (Const.int _) _ _) _) _ _ _); refine wpAny_Constant_int ?_; (try dsimp only)) | ((with_reducible show wpAny _ _ (unaryOp _ _) _ _ _); walk1; (try dsimp only)) | ((with_reducible show wpAny _ _ (truthy _) _ _ _); walk1; (try dsimp only)) | ((with_reducible show wpAny _ _ (binaryOp _ (Value.int _ _) (Value.int _ _)) _ _ _); walk1; (try dsimp only))) | (k_unfold; (try dsimp only)) | walk1 | (dsimp only; walk1)))
  refine' comp_range (cl := [(Str.ofString "parts", L + 1)]) ?s1 ?s2 ?s3 ?s4 ?s5 ?s6 ?_
  (((case s1 => with_unfolding_all rfl); (case s2 => decide); (case s3 => with_unfolding_all rfl); (case s4 => decide); (case s5 => with_unfolding_all rfl); (case s6 => with_unfolding_all rfl)))
  (repeat' ((fail_if_success (with_reducible show wpAny _ _ (exec (Stmt.For _ _ _ _ _) _) _ _ _)); (fail_if_success (with_reducible show wpAny _ _ (exec (Stmt.While _ _ _ _) _) _ _ _)); (fail_if_success (with_reducible show wpAny _ _ (eval (Expr.ListComp _ _ _ _) _) _ _ _)); (fail_if_success (with_reducible show wpAny _ _ (call (Value.builtin "list.append") _) _ _ _)); (fail_if_success (with_reducible show wpAny _ _ (call (Value.builtin "max") _) _ _ _)); (fail_if_success (with_reducible show wpAny _ _ (subscriptTail _ _ (Value.ref _) (Value.int _ _)) _ _ _)); first | (((with_reducible show wpAny _ _ (eval (Expr.Name _ _) (compEnvC _ _ _ _)) _ _ _); first | (refine' nameC_L ?mzF ?mzv ?mza ?mzb ?_; (case mzF => k_asm); (case mza => with_unfolding_all rfl); (case mzb => with_unfolding_all rfl); (case mzv => rfl)) | (refine' nameC_C (goK (by k_asm) (by with_reducible assumption)) (by with_reducible assumption) ?mzc ?mza ?mzb ?_; (case mza => with_unfolding_all rfl); (case mzb => with_unfolding_all rfl); (case mzc => with_unfolding_all rfl)))) | walk_at "mine list" | (first | ((with_reducible show wpAny _ _ (eval (Expr.Constant (Const.int _) _ _) _) _ _ _); refine wpAny_Constant_int ?_; (try dsimp only)) | ((with_reducible show wpAny _ _ (unaryOp _ _) _ _ _); walk1; (try dsimp only)) | ((with_reducible show wpAny _ _ (truthy _) _ _ _); walk1; (try dsimp only)) | ((with_reducible show wpAny _ _ (binaryOp _ (Value.int _ _) (Value.int _ _)) _ _ _); walk1; (try dsimp only))) | (k_unfold; (try dsimp only)) | walk1 | (dsimp only; walk1)))
  (with_reducible rename News _ _ _ _ => N1)
  (with_reducible rename Fr _ _ _ _ => F1)
  (with_reducible rename IsRange _ _ _ _ _ _ _ _ => R1)
  (with_reducible rename IntsAre _ _ => hI0)
  rename_i hq1 tkq lz vz Fq Nq hlz ez hq2 tkr t1 u1 v1 kq
  show ∃ _, _
  dsimp only at R1 ⊢
  have hoc := (N1 _ (.tail _ (.head _))).1
  have hA2 := ilK F1 hA
  dsimp only at hoc
  refine ⟨_, _, _, _, _, vs.length, fun i ys _ => IntsAre ys (rootsI ps i), rfl, R1, rfl, by omega, ?_, .nil, ?_, ?_⟩
  · intro i ys made hS
    rw [hS.length]; exact rootsI_len ps i
  · intro I C D i t m₁ ys k3 made3 oI h3 tk3 E' hi hS F2 N2 hmd hDI
    refine wpAny_tests_one ?_
    have hi' : i < ps.length := by rw [← har.1]; exact hi
    obtain ⟨u, hu, b, us, k2, rfl, hbm, hus⟩ := har.2 i ps[i] (List.getElem?_eq_getElem hi')
    have hB := ilK F1 (ilM (hst _ hbm))
    have hus2 := ints_of_nat hus
    have hpl2 := hpc ps[i] (List.getElem_mem hi')
    have hgd : ps.getD i [] = ps[i] := by rw [List.getD_eq_getElem?_getD, List.getElem?_eq_getElem hi']; rfl
    have hul := hus.1
    generalize ps[i] = p at *
    dsimp only at F2 N2 ⊢
    (repeat' ((fail_if_success (with_reducible show wpAny _ _ (exec (Stmt.For _ _ _ _ _) _) _ _ _)); (fail_if_success (with_reducible show wpAny _ _ (exec (Stmt.While _ _ _ _) _) _ _ _)); (fail_if_success (with_reducible show wpAny _ _ (eval (Expr.ListComp _ _ _ _) _) _ _ _)); (fail_if_success (with_reducible show wpAny _ _ (call (Value.builtin "list.append") _) _ _ _)); (fail_if_success (with_reducible show wpAny _ _ (call (Value.builtin "max") _) _ _ _)); (fail_if_success (with_reducible show wpAny _ _ (subscriptTail _ _ (Value.ref _) (Value.int _ _)) _ _ _)); first | (((with_reducible show wpAny _ _ (eval (Expr.Name _ _) (compEnvC _ _ _ _)) _ _ _); first | (refine' nameC_L ?mzF ?mzv ?mza ?mzb ?_; (case mzF => k_asm); (case mza => with_unfolding_all rfl); (case mzb => with_unfolding_all rfl); (case mzv => rfl)) | (refine' nameC_C (goK (by k_asm) (by with_reducible assumption)) (by with_reducible assumption) ?mzc ?mza ?mzb ?_; (case mza => with_unfolding_all rfl); (case mzb => with_unfolding_all rfl); (case mzc => with_unfolding_all rfl)))) | walk_at "mine list" | (first | ((with_reducible show wpAny _ _ (eval (Expr.Constant (Const.int _) _ _) _) _ _ _); refine wpAny_Constant_int ?_; (try dsimp only)) | ((with_reducible show wpAny _ _ (unaryOp _ _) _ _ _); walk1; (try dsimp only)) | ((with_reducible show wpAny _ _ (truthy _) _ _ _); walk1; (try dsimp only)) | ((with_reducible show wpAny _ _ (binaryOp _ (Value.int _ _) (Value.int _ _)) _ _ _); walk1; (try dsimp only))) | (k_unfold; (try dsimp only)) | walk1 | (dsimp only; walk1)))
    refine itemL (ilK F2 hA2) (by omega) (by omega) (by simpa using hu) ?_
    have hB2 := ilK F2 hB
    dsimp only at hB2
    (repeat' ((fail_if_success (with_reducible show wpAny _ _ (exec (Stmt.For _ _ _ _ _) _) _ _ _)); (fail_if_success (with_reducible show wpAny _ _ (exec (Stmt.While _ _ _ _) _) _ _ _)); (fail_if_success (with_reducible show wpAny _ _ (eval (Expr.ListComp _ _ _ _) _) _ _ _)); (fail_if_success (with_reducible show wpAny _ _ (call (Value.builtin "list.append") _) _ _ _)); (fail_if_success (with_reducible show wpAny _ _ (call (Value.builtin "max") _) _ _ _)); (fail_if_success (with_reducible show wpAny _ _ (subscriptTail _ _ (Value.ref _) (Value.int _ _)) _ _ _)); first | (((with_reducible show wpAny _ _ (eval (Expr.Name _ _) (compEnvC _ _ _ _)) _ _ _); first | (refine' nameC_L ?mzF ?mzv ?mza ?mzb ?_; (case mzF => k_asm); (case mza => with_unfolding_all rfl); (case mzb => with_unfolding_all rfl); (case mzv => rfl)) | (refine' nameC_C (goK (by k_asm) (by with_reducible assumption)) (by with_reducible assumption) ?mzc ?mza ?mzb ?_; (case mza => with_unfolding_all rfl); (case mzb => with_unfolding_all rfl); (case mzc => with_unfolding_all rfl)))) | walk_at "mine list" | (first | ((with_reducible show wpAny _ _ (eval (Expr.Constant (Const.int _) _ _) _) _ _ _); refine wpAny_Constant_int ?_; (try dsimp only)) | ((with_reducible show wpAny _ _ (unaryOp _ _) _ _ _); walk1; (try dsimp only)) | ((with_reducible show wpAny _ _ (truthy _) _ _ _); walk1; (try dsimp only)) | ((with_reducible show wpAny _ _ (binaryOp _ (Value.int _ _) (Value.int _ _)) _ _ _); walk1; (try dsimp only))) | (k_unfold; (try dsimp only)) | walk1 | (dsimp only; walk1)))
    all_goals (with_reducible rename News _ _ _ _ => NE)
    · exact CE.of (by k_asm) NE (.tail _ (.tail _ (.head _))) (.tail _ (.tail _ (.tail _ (.head _)))) (fun q hq => .tail _ (.tail _ (.tail _ (.tail _ hq)))) hmd (roots_yes hgd (by with_reducible assumption) hS)
    · exact CE.of (by k_asm) NE (.tail _ (.tail _ (.head _))) (.tail _ (.tail _ (.tail _ (.head _)))) (fun q hq => .tail _ (.tail _ (.tail _ (.tail _ hq)))) hmd (roots_no hgd (by with_reducible assumption) hS)
  · intro D ys k3 made3 h3 tk3 hS hk hp
    have F2 := F1.grownK hk
    have N2 := news_more F1 N1 hk hp
    have hvs2 : vs.length = ps.length := har.1
    rw [hvs2] at hS
    have hA3 := ilK F2 hA
    clear hk hp
    try dsimp only at F2 N2 hA3 ⊢
    refine kmk_add_ints (vs := vz) (ws := ys) F2 N2 (News.isList N2 (.head _)) (News.isList N2 (.tail _ (.tail _ (.head _)))) hI0 hS ?_ (szS (by have := rootsI_len ps ps.length; simp only [List.length_cons, List.length_nil]; omega))
    intro D4 us4 h4 F4 N4 _ hI4
    dsimp only
    (repeat' ((fail_if_success (with_reducible show wpAny _ _ (exec (Stmt.For _ _ _ _ _) _) _ _ _)); (fail_if_success (with_reducible show wpAny _ _ (exec (Stmt.While _ _ _ _) _) _ _ _)); (fail_if_success (with_reducible show wpAny _ _ (eval (Expr.ListComp _ _ _ _) _) _ _ _)); (fail_if_success (with_reducible show wpAny _ _ (call (Value.builtin "list.append") _) _ _ _)); (fail_if_success (with_reducible show wpAny _ _ (call (Value.builtin "max") _) _ _ _)); (fail_if_success (with_reducible show wpAny _ _ (subscriptTail _ _ (Value.ref _) (Value.int _ _)) _ _ _)); first | (((with_reducible show wpAny _ _ (eval (Expr.Name _ _) (compEnvC _ _ _ _)) _ _ _); first | (refine' nameC_L ?mzF ?mzv ?mza ?mzb ?_; (case mzF => k_asm); (case mza => with_unfolding_all rfl); (case mzb => with_unfolding_all rfl); (case mzv => rfl)) | (refine' nameC_C (goK (by k_asm) (by with_reducible assumption)) (by with_reducible assumption) ?mzc ?mza ?mzb ?_; (case mza => with_unfolding_all rfl); (case mzb => with_unfolding_all rfl); (case mzc => with_unfolding_all rfl)))) | walk_at "mine list" | (first | ((with_reducible show wpAny _ _ (eval (Expr.Constant (Const.int _) _ _) _) _ _ _); refine wpAny_Constant_int ?_; (try dsimp only)) | ((with_reducible show wpAny _ _ (unaryOp _ _) _ _ _); walk1; (try dsimp only)) | ((with_reducible show wpAny _ _ (truthy _) _ _ _); walk1; (try dsimp only)) | ((with_reducible show wpAny _ _ (binaryOp _ (Value.int _ _) (Value.int _ _)) _ _ _); walk1; (try dsimp only))) | (k_unfold; (try dsimp only)) | walk1 | (dsimp only; walk1)))
    refine max_list_N rfl F4 N4 (News.isList N4 (.head _)) hI4 (by simp) ?_
    intro h5 M tM tk5 F5 N5 hM1 hM2
    have hMf := first_max hM1 hM2
    subst hMf
    clear hM1 hM2 hI4 F4 N4 F2 N2 hS hI0
    have H := first_ok hne
    obtain ⟨u, hu, b, us, k2, rfl, hbm, hus⟩ := har.2 _ _ H.at_
    have hfl : firstOf ps < vs.length := (List.getElem?_eq_some_iff.mp hu).1
    have hpf : (ps.getD (firstOf ps) []).length ≤ 85 := hpc _ (List.mem_of_getElem? H.at_)
    have hB := ilM (hst _ hbm)
    have N6 : News s.heap L h5 [(L + 1, oc)] := fun q hq => N5 q (.tail _ (List.mem_append_left _ (.tail _ hq)))
    clear N5
    dsimp only at hB ⊢
    (repeat' ((fail_if_success (with_reducible show wpAny _ _ (exec (Stmt.For _ _ _ _ _) _) _ _ _)); (fail_if_success (with_reducible show wpAny _ _ (exec (Stmt.While _ _ _ _) _) _ _ _)); (fail_if_success (with_reducible show wpAny _ _ (eval (Expr.ListComp _ _ _ _) _) _ _ _)); (fail_if_success (with_reducible show wpAny _ _ (call (Value.builtin "list.append") _) _ _ _)); (fail_if_success (with_reducible show wpAny _ _ (call (Value.builtin "max") _) _ _ _)); (fail_if_success (with_reducible show wpAny _ _ (subscriptTail _ _ (Value.ref _) (Value.int _ _)) _ _ _)); first | (((with_reducible show wpAny _ _ (eval (Expr.Name _ _) (compEnvC _ _ _ _)) _ _ _); first | (refine' nameC_L ?mzF ?mzv ?mza ?mzb ?_; (case mzF => k_asm); (case mza => with_unfolding_all rfl); (case mzb => with_unfolding_all rfl); (case mzv => rfl)) | (refine' nameC_C (goK (by k_asm) (by with_reducible assumption)) (by with_reducible assumption) ?mzc ?mza ?mzb ?_; (case mza => with_unfolding_all rfl); (case mzb => with_unfolding_all rfl); (case mzc => with_unfolding_all rfl)))) | walk_at "mine list" | (first | ((with_reducible show wpAny _ _ (eval (Expr.Constant (Const.int _) _ _) _) _ _ _); refine wpAny_Constant_int ?_; (try dsimp only)) | ((with_reducible show wpAny _ _ (unaryOp _ _) _ _ _); walk1; (try dsimp only)) | ((with_reducible show wpAny _ _ (truthy _) _ _ _); walk1; (try dsimp only)) | ((with_reducible show wpAny _ _ (binaryOp _ (Value.int _ _) (Value.int _ _)) _ _ _); walk1; (try dsimp only))) | (k_unfold; (try dsimp only)) | walk1 | (dsimp only; walk1)))
    (with_reducible rename News _ _ _ _ => N7)
    (with_reducible rename Fr _ _ _ _ => F7)
    have hix1 : vs.toArray[((firstOf ps : Nat) : Int).toNat]? = some (.ref b) := by simpa using hu
    have hul := hus.1
    refine while_namesD (L := L) [Str.ofString "lead"] (fun n m => ∃ k t, k + n = (ps.getD (firstOf ps) []).length ∧ k ≤ leadOf ps ∧ m (Str.ofString "lead") = some (.int (k : Nat) t)) (fun m => ∃ t, m (Str.ofString "lead") = some (.int (leadOf ps : Nat) t)) (n₀ := (ps.getD (firstOf ps) []).length) F7 N7 ⟨0, _, by omega, Nat.zero_le _, rfl⟩ ?_ ?_
    · rintro n m₂ h tk2 hm' ⟨k3, ti, hk, hkb, hmi⟩ F8 N8
      refine let_ov [(Str.ofString "lead", some (.int (k3 : Nat) ti))] F8 (by simp [hmi]) hm' rfl ?_
      clear F8
      intro mAF8 F8
      clear hm' hmi F7 N7
      have hble : leadOf ps ≤ (ps.getD (firstOf ps) []).length := lead_le _
      rcases Nat.lt_or_ge k3 (ps.getD (firstOf ps) []).length with hkl | hkl
      · have ht0 := List.getElem?_eq_getElem hkl
        generalize (ps.getD (firstOf ps) [])[k3] = c at ht0
        have hr : (c = 47 → k3 + 1 ≤ leadOf ps) ∧ (c ≠ 47 → k3 = leadOf ps) := lead_run hkb ht0
        obtain ⟨hyes, hno⟩ := hr
        obtain ⟨u1, hu1, tc, rfl⟩ := hus.2 _ _ ht0
        have hix : us.toArray[((k3 : Nat) : Int).toNat]? = some (.int (c : Nat) tc) := by simpa using hu1
        generalize leadOf ps = ld at *
        generalize ps.getD (firstOf ps) [] = pf at *
        by_cases hc : c = 47
        · have hk1 := hyes hc
          clear hyes hno ht0
          (repeat' (first | (((with_reducible show wpAny _ _ (subscriptTail _ _ (Value.ref _) (Value.int _ _)) _ _ _); (refine itemL (ilK (by k_asm) (by with_reducible assumption)) (by omega) (by omega) (by with_reducible assumption) ?_))) | (((with_reducible show wpAny _ _ (eval (Expr.Name _ _) (compEnvC _ _ _ _)) _ _ _); first | (refine' nameC_L ?mzF ?mzv ?mza ?mzb ?_; (case mzF => k_asm); (case mza => with_unfolding_all rfl); (case mzb => with_unfolding_all rfl); (case mzv => rfl)) | (refine' nameC_C (goK (by k_asm) (by with_reducible assumption)) (by with_reducible assumption) ?mzc ?mza ?mzb ?_; (case mza => with_unfolding_all rfl); (case mzb => with_unfolding_all rfl); (case mzc => with_unfolding_all rfl)))) | walk_at "mine list" | (first | ((with_reducible show wpAny _ _ (eval (Expr.Constant (Const.int _) _ _) _) _ _ _); refine wpAny_Constant_int ?_; (try dsimp only)) | ((with_reducible show wpAny _ _ (unaryOp _ _) _ _ _); walk1; (try dsimp only)) | ((with_reducible show wpAny _ _ (truthy _) _ _ _); walk1; (try dsimp only)) | ((with_reducible show wpAny _ _ (binaryOp _ (Value.int _ _) (Value.int _ _)) _ _ _); walk1; (try dsimp only))) | (k_unfold; (try dsimp only)) | walk1 | (dsimp only; walk1)))
          exact WT.of (n - 1) (by k_asm) (by k_asm) (fun p hp => hp) (by omega) (by (repeat (first | exact fun _ _ => rfl | exact off_all | refine off_put (by decide) ?_ | refine off_sub (by kernel_rfl) ?_))) ⟨k3 + 1, _, by omega, hk1, int_of (x := (k3 : Int) + 1) rfl⟩
        · have hk1 := hno hc
          clear hyes hno ht0
          (repeat' (first | (((with_reducible show wpAny _ _ (subscriptTail _ _ (Value.ref _) (Value.int _ _)) _ _ _); (refine itemL (ilK (by k_asm) (by with_reducible assumption)) (by omega) (by omega) (by with_reducible assumption) ?_))) | (((with_reducible show wpAny _ _ (eval (Expr.Name _ _) (compEnvC _ _ _ _)) _ _ _); first | (refine' nameC_L ?mzF ?mzv ?mza ?mzb ?_; (case mzF => k_asm); (case mza => with_unfolding_all rfl); (case mzb => with_unfolding_all rfl); (case mzv => rfl)) | (refine' nameC_C (goK (by k_asm) (by with_reducible assumption)) (by with_reducible assumption) ?mzc ?mza ?mzb ?_; (case mza => with_unfolding_all rfl); (case mzb => with_unfolding_all rfl); (case mzc => with_unfolding_all rfl)))) | walk_at "mine list" | (first | ((with_reducible show wpAny _ _ (eval (Expr.Constant (Const.int _) _ _) _) _ _ _); refine wpAny_Constant_int ?_; (try dsimp only)) | ((with_reducible show wpAny _ _ (unaryOp _ _) _ _ _); walk1; (try dsimp only)) | ((with_reducible show wpAny _ _ (truthy _) _ _ _); walk1; (try dsimp only)) | ((with_reducible show wpAny _ _ (binaryOp _ (Value.int _ _) (Value.int _ _)) _ _ _); walk1; (try dsimp only))) | (k_unfold; (try dsimp only)) | walk1 | (dsimp only; walk1)))
          show ∃ _, _
          exact ⟨_, _, _, rfl, by k_asm, by k_asm, (by (repeat (first | exact fun _ _ => rfl | exact off_all | refine off_put (by decide) ?_ | refine off_sub (by kernel_rfl) ?_))), _, int_of (x := (k3 : Int)) (by omega)⟩
      · have hk3 : k3 = leadOf ps := by omega
        (repeat' (first | (((with_reducible show wpAny _ _ (subscriptTail _ _ (Value.ref _) (Value.int _ _)) _ _ _); (refine itemL (ilK (by k_asm) (by with_reducible assumption)) (by omega) (by omega) (by with_reducible assumption) ?_))) | (((with_reducible show wpAny _ _ (eval (Expr.Name _ _) (compEnvC _ _ _ _)) _ _ _); first | (refine' nameC_L ?mzF ?mzv ?mza ?mzb ?_; (case mzF => k_asm); (case mza => with_unfolding_all rfl); (case mzb => with_unfolding_all rfl); (case mzv => rfl)) | (refine' nameC_C (goK (by k_asm) (by with_reducible assumption)) (by with_reducible assumption) ?mzc ?mza ?mzb ?_; (case mza => with_unfolding_all rfl); (case mzb => with_unfolding_all rfl); (case mzc => with_unfolding_all rfl)))) | walk_at "mine list" | (first | ((with_reducible show wpAny _ _ (eval (Expr.Constant (Const.int _) _ _) _) _ _ _); refine wpAny_Constant_int ?_; (try dsimp only)) | ((with_reducible show wpAny _ _ (unaryOp _ _) _ _ _); walk1; (try dsimp only)) | ((with_reducible show wpAny _ _ (truthy _) _ _ _); walk1; (try dsimp only)) | ((with_reducible show wpAny _ _ (binaryOp _ (Value.int _ _) (Value.int _ _)) _ _ _); walk1; (try dsimp only))) | (k_unfold; (try dsimp only)) | walk1 | (dsimp only; walk1)))
        show ∃ _, _
        exact ⟨_, _, _, rfl, by k_asm, by k_asm, (by (repeat (first | exact fun _ _ => rfl | exact off_all | refine off_put (by decide) ?_ | refine off_sub (by kernel_rfl) ?_))), _, int_of (x := (k3 : Int)) (by omega)⟩
    · rintro m' h tk hm' ⟨t9, ht9⟩ F9 N9
      refine let_ov [(Str.ofString "lead", some (.int (leadOf ps : Nat) t9))] F9 (by simp [ht9]) hm' rfl ?_
      clear F9
      intro mAF9 F9
      clear hm' ht9 F7 N7
      (try dsimp only)
      (repeat' ((fail_if_success (with_reducible show wpAny _ _ (exec (Stmt.For _ _ _ _ _) _) _ _ _)); (fail_if_success (with_reducible show wpAny _ _ (exec (Stmt.While _ _ _ _) _) _ _ _)); (fail_if_success (with_reducible show wpAny _ _ (eval (Expr.ListComp _ _ _ _) _) _ _ _)); (fail_if_success (with_reducible show wpAny _ _ (call (Value.builtin "list.append") _) _ _ _)); (fail_if_success (with_reducible show wpAny _ _ (call (Value.builtin "max") _) _ _ _)); (fail_if_success (with_reducible show wpAny _ _ (subscriptTail _ _ (Value.ref _) (Value.int _ _)) _ _ _)); first | (((with_reducible show wpAny _ _ (eval (Expr.Name _ _) (compEnvC _ _ _ _)) _ _ _); first | (refine' nameC_L ?mzF ?mzv ?mza ?mzb ?_; (case mzF => k_asm); (case mza => with_unfolding_all rfl); (case mzb => with_unfolding_all rfl); (case mzv => rfl)) | (refine' nameC_C (goK (by k_asm) (by with_reducible assumption)) (by with_reducible assumption) ?mzc ?mza ?mzb ?_; (case mza => with_unfolding_all rfl); (case mzb => with_unfolding_all rfl); (case mzc => with_unfolding_all rfl)))) | walk_at "mine list" | (first | ((with_reducible show wpAny _ _ (eval (Expr.Constant (Const.int _) _ _) _) _ _ _); refine wpAny_Constant_int ?_; (try dsimp only)) | ((with_reducible show wpAny _ _ (unaryOp _ _) _ _ _); walk1; (try dsimp only)) | ((with_reducible show wpAny _ _ (truthy _) _ _ _); walk1; (try dsimp only)) | ((with_reducible show wpAny _ _ (binaryOp _ (Value.int _ _) (Value.int _ _)) _ _ _); walk1; (try dsimp only))) | (k_unfold; (try dsimp only)) | walk1 | (dsimp only; walk1)))
      refine For_invV s.heap rfl rfl ?_
      (repeat' ((fail_if_success (with_reducible show wpAny _ _ (exec (Stmt.For _ _ _ _ _) _) _ _ _)); (fail_if_success (with_reducible show wpAny _ _ (exec (Stmt.While _ _ _ _) _) _ _ _)); (fail_if_success (with_reducible show wpAny _ _ (eval (Expr.ListComp _ _ _ _) _) _ _ _)); (fail_if_success (with_reducible show wpAny _ _ (call (Value.builtin "list.append") _) _ _ _)); (fail_if_success (with_reducible show wpAny _ _ (call (Value.builtin "max") _) _ _ _)); (fail_if_success (with_reducible show wpAny _ _ (subscriptTail _ _ (Value.ref _) (Value.int _ _)) _ _ _)); first | (((with_reducible show wpAny _ _ (eval (Expr.Name _ _) (compEnvC _ _ _ _)) _ _ _); first | (refine' nameC_L ?mzF ?mzv ?mza ?mzb ?_; (case mzF => k_asm); (case mza => with_unfolding_all rfl); (case mzb => with_unfolding_all rfl); (case mzv => rfl)) | (refine' nameC_C (goK (by k_asm) (by with_reducible assumption)) (by with_reducible assumption) ?mzc ?mza ?mzb ?_; (case mza => with_unfolding_all rfl); (case mzb => with_unfolding_all rfl); (case mzc => with_unfolding_all rfl)))) | walk_at "mine list" | (first | ((with_reducible show wpAny _ _ (eval (Expr.Constant (Const.int _) _ _) _) _ _ _); refine wpAny_Constant_int ?_; (try dsimp only)) | ((with_reducible show wpAny _ _ (unaryOp _ _) _ _ _); walk1; (try dsimp only)) | ((with_reducible show wpAny _ _ (truthy _) _ _ _); walk1; (try dsimp only)) | ((with_reducible show wpAny _ _ (binaryOp _ (Value.int _ _) (Value.int _ _)) _ _ _); walk1; (try dsimp only))) | (k_unfold; (try dsimp only)) | walk1 | (dsimp only; walk1)))
      (with_reducible rename News _ _ _ _ => NA)
      (with_reducible rename Fr _ _ _ _ => FA)
      rename_i ln hln hxa hxb hx2 D1 hx3 lD
      have hdl : vs.length - firstOf ps ≤ 85 := by omega
      have hdr := har.drop (firstOf ps)
      have hqs85 : ∀ p ∈ ps.drop (firstOf ps), p.length ≤ 85 := fun p hp => hpc p (List.mem_of_mem_drop hp)
      have hqn : (ps.drop (firstOf ps)).length ≤ 85 := by rw [List.length_drop]; omega
      refine iter_listN (L := L) (news := [(ln, W.listOf #[] 0), (D1, W.listOf (vs.drop (firstOf ps)).toArray 0), (L + 1, oc)]) [Str.ofString "part", Str.ofString "i", Str.ofString "bare"]
        (fun i m news => ∃ us k front, news = (ln, W.listOf us.toArray k) :: front ∧ (∀ q ∈ front, q.1 ≠ ln) ∧ (∀ q ∈ [(D1, W.listOf (vs.drop (firstOf ps)).toArray 0), (L + 1, oc)], q ∈ front) ∧ AreM NameM front us (accN ((ps.drop (firstOf ps)).take i))) rfl rfl (News.isList NA (.head _)) (NA _ (.head _)).2.1 FA ?_ ?_ ?_ ?_
      · intro q hq
        rcases List.mem_cons.mp hq with rfl | hq
        · exact NA _ (.tail _ (.head _))
        · rcases List.mem_cons.mp hq with rfl | hq
          · exact NA _ (.head _)
          · rw [List.mem_singleton.mp hq]; exact NA _ (.tail _ (.tail _ (.head _)))
      · refine ⟨[], 0, _, rfl, fun q hq => ?_, fun q hq => hq, AreM.nil⟩
        rcases List.mem_cons.mp hq with rfl | hq
        · exact Nat.ne_of_gt (lD _ (.head _))
        · rw [List.mem_singleton.mp hq]; exact hln _ (.head _)
      · rintro I i v m₁ news₁ own h tk' oI hi hv hm ⟨us3, k3, front, rfl, hfr, hkp, hac⟩ h1 h2 h3 h4 F2 N2
        have hi' : i < (ps.drop (firstOf ps)).length := by
          rw [← hdr.1]; simpa using hi
        have hpi := List.getElem?_eq_getElem hi'
        obtain ⟨u, hu1, bp, up, kp, rfl, hbpm, hup⟩ := hdr.2 i _ hpi
        have hvu : v = .ref bp := by
          have e1 : (vs.drop (firstOf ps))[i]? = some v := by simpa using hv
          rw [hu1] at e1
          exact (Option.some.inj e1).symm
        subst hvu
        have hp85 := hqs85 _ (List.getElem_mem hi')
        have htk : accN ((ps.drop (firstOf ps)).take (i + 1)) = accN ((ps.drop (firstOf ps)).take i) ++ cuts slT (toksOf (ps.drop (firstOf ps))[i]) := by
          unfold accN
          rw [List.take_add_one, hpi, List.flatMap_append]
          simp
        have htot := tot_acc (qs := (ps.drop (firstOf ps)).take i) fun p hp => hqs85 p (List.mem_of_mem_take hp)
        have htl : ((ps.drop (firstOf ps)).take i).length ≤ 85 := by rw [List.length_take]; omega
        rw [htk]
        generalize (ps.drop (firstOf ps))[i] = p at *
        generalize accN ((ps.drop (firstOf ps)).take i) = acc at *
        refine let_ov1 [(Str.ofString "part", m₁ (Str.ofString "part")), (Str.ofString "i", m₁ (Str.ofString "i")), (Str.ofString "bare", m₁ (Str.ofString "bare"))] F2 (by simp) hm rfl ?_
        clear F2
        intro mAF2 F2
        have hBp := ilM (hst _ hbpm)
        have hupl := hup.1
        have hacl := hac.1
        have htc := tot_count acc
        have hlI : ln ≠ I := h1 _ (.head _)
        have hfI : ∀ q ∈ front, q.1 ≠ I := fun q hq => h1 q (.tail _ hq)
        have hownl : ∀ q ∈ own, q.1 ≠ ln := by
          intro q hq z
          rcases h2 q hq with e | e
          · exact hlI (z.symm.trans e)
          · exact hfr _ (hkp _ (.head _)) (e.symm.trans z)
        clear hm htk hpi hu1 hv
        (try dsimp only at F2 N2 hBp ⊢)
        (repeat' ((fail_if_success (with_reducible show wpAny _ _ (eval (Expr.BinOp _ Operator.Mult _ _) _) _ _ _)); (fail_if_success (with_reducible show wpAny _ _ (pyIter _) _ _ _)); (fail_if_success (with_reducible show wpAny _ _ (exec (Stmt.For _ _ _ _ _) _) _ _ _)); (fail_if_success (with_reducible show wpAny _ _ (eval (Expr.ListComp _ _ _ _) _) _ _ _)); (fail_if_success (with_reducible show wpAny _ _ (eval (Expr.BoolOp _ _ _) _) _ _ _)); (fail_if_success (with_reducible show wpAny _ _ (call (Value.builtin "list.append") _) _ _ _)); (fail_if_success (with_reducible show wpAny _ _ (subscriptTail _ _ (Value.ref _) (Value.int (-1) _)) _ _ _)); first | (((with_reducible show wpAny _ _ (subscriptTail _ _ (Value.ref _) (Value.int _ _)) _ _ _); (refine itemL (ilK (by k_asm) (by with_reducible assumption)) (by omega) (by omega) (by with_reducible assumption) ?_))) | (((with_reducible show wpAny _ _ (eval (Expr.Name _ _) (compEnvC _ _ _ _)) _ _ _); first | (refine' nameC_L ?mzF ?mzv ?mza ?mzb ?_; (case mzF => k_asm); (case mza => with_unfolding_all rfl); (case mzb => with_unfolding_all rfl); (case mzv => rfl)) | (refine' nameC_C (goK (by k_asm) (by with_reducible assumption)) (by with_reducible assumption) ?mzc ?mza ?mzb ?_; (case mza => with_unfolding_all rfl); (case mzb => with_unfolding_all rfl); (case mzc => with_unfolding_all rfl)))) | walk_at "mine list" | (first | ((with_reducible show wpAny _ _ (eval (Expr.Constant (Const.int _) _ _) _) _ _ _); refine wpAny_Constant_int ?_; (try dsimp only)) | ((with_reducible show wpAny _ _ (unaryOp _ _) _ _ _); walk1; (try dsimp only)) | ((with_reducible show wpAny _ _ (truthy _) _ _ _); walk1; (try dsimp only)) | ((with_reducible show wpAny _ _ (binaryOp _ (Value.int _ _) (Value.int _ _)) _ _ _); walk1; (try dsimp only))) | (first | ((with_reducible show wpAny _ _ (callWith _ (Value.builtin "list.append", _).fst _ _ _) _ _ _); refine callWith_method1 ?_) | ((with_reducible show wpAny _ _ (spliced (backTo _ (starEach (_ :: _) _))) _ _ _); refine spliced_more ?_)) | (k_unfold; (try dsimp only)) | walk1 | (dsimp only; walk1)))
        (with_reducible rename News _ _ _ _ => NE)
        rename_i l5 FX hl5
        refine append_L (ts := us3) (n := k3) (rest := (l5, W.listOf #[] 0) :: (front ++ own)) (by k_asm) NE ?_ ?_ (by omega) ?_
        · intro q hq
          rcases List.mem_cons.mp hq with rfl | hq
          · exact .tail _ (.head _)
          · rcases List.mem_cons.mp hq with rfl | hq
            · exact .head _
            · exact .tail _ (.tail _ hq)
        · intro q hq
          rcases List.mem_cons.mp hq with rfl | hq
          · exact fun e => hl5 _ (.head _) e.symm
          · rcases List.mem_append.mp hq with hq | hq
            · exact hfr q hq
            · exact hownl q hq
        · intro h5 F5 N5
          dsimp only
          (repeat' ((fail_if_success (with_reducible show wpAny _ _ (eval (Expr.BinOp _ Operator.Mult _ _) _) _ _ _)); (fail_if_success (with_reducible show wpAny _ _ (pyIter _) _ _ _)); (fail_if_success (with_reducible show wpAny _ _ (exec (Stmt.For _ _ _ _ _) _) _ _ _)); (fail_if_success (with_reducible show wpAny _ _ (eval (Expr.ListComp _ _ _ _) _) _ _ _)); (fail_if_success (with_reducible show wpAny _ _ (eval (Expr.BoolOp _ _ _) _) _ _ _)); (fail_if_success (with_reducible show wpAny _ _ (call (Value.builtin "list.append") _) _ _ _)); (fail_if_success (with_reducible show wpAny _ _ (subscriptTail _ _ (Value.ref _) (Value.int (-1) _)) _ _ _)); first | (((with_reducible show wpAny _ _ (subscriptTail _ _ (Value.ref _) (Value.int _ _)) _ _ _); (refine itemL (ilK (by k_asm) (by with_reducible assumption)) (by omega) (by omega) (by with_reducible assumption) ?_))) | (((with_reducible show wpAny _ _ (eval (Expr.Name _ _) (compEnvC _ _ _ _)) _ _ _); first | (refine' nameC_L ?mzF ?mzv ?mza ?mzb ?_; (case mzF => k_asm); (case mza => with_unfolding_all rfl); (case mzb => with_unfolding_all rfl); (case mzv => rfl)) | (refine' nameC_C (goK (by k_asm) (by with_reducible assumption)) (by with_reducible assumption) ?mzc ?mza ?mzb ?_; (case mza => with_unfolding_all rfl); (case mzb => with_unfolding_all rfl); (case mzc => with_unfolding_all rfl)))) | walk_at "mine list" | (first | ((with_reducible show wpAny _ _ (eval (Expr.Constant (Const.int _) _ _) _) _ _ _); refine wpAny_Constant_int ?_; (try dsimp only)) | ((with_reducible show wpAny _ _ (unaryOp _ _) _ _ _); walk1; (try dsimp only)) | ((with_reducible show wpAny _ _ (truthy _) _ _ _); walk1; (try dsimp only)) | ((with_reducible show wpAny _ _ (binaryOp _ (Value.int _ _) (Value.int _ _)) _ _ _); walk1; (try dsimp only))) | (first | ((with_reducible show wpAny _ _ (callWith _ (Value.builtin "list.append", _).fst _ _ _) _ _ _); refine callWith_method1 ?_) | ((with_reducible show wpAny _ _ (spliced (backTo _ (starEach (_ :: _) _))) _ _ _); refine spliced_more ?_)) | (k_unfold; (try dsimp only)) | walk1 | (dsimp only; walk1)))
          refine For_invV s.heap rfl rfl ?_
          (repeat' ((fail_if_success (with_reducible show wpAny _ _ (eval (Expr.BinOp _ Operator.Mult _ _) _) _ _ _)); (fail_if_success (with_reducible show wpAny _ _ (pyIter _) _ _ _)); (fail_if_success (with_reducible show wpAny _ _ (exec (Stmt.For _ _ _ _ _) _) _ _ _)); (fail_if_success (with_reducible show wpAny _ _ (eval (Expr.ListComp _ _ _ _) _) _ _ _)); (fail_if_success (with_reducible show wpAny _ _ (eval (Expr.BoolOp _ _ _) _) _ _ _)); (fail_if_success (with_reducible show wpAny _ _ (call (Value.builtin "list.append") _) _ _ _)); (fail_if_success (with_reducible show wpAny _ _ (subscriptTail _ _ (Value.ref _) (Value.int (-1) _)) _ _ _)); first | (((with_reducible show wpAny _ _ (subscriptTail _ _ (Value.ref _) (Value.int _ _)) _ _ _); (refine itemL (ilK (by k_asm) (by with_reducible assumption)) (by omega) (by omega) (by with_reducible assumption) ?_))) | (((with_reducible show wpAny _ _ (eval (Expr.Name _ _) (compEnvC _ _ _ _)) _ _ _); first | (refine' nameC_L ?mzF ?mzv ?mza ?mzb ?_; (case mzF => k_asm); (case mza => with_unfolding_all rfl); (case mzb => with_unfolding_all rfl); (case mzv => rfl)) | (refine' nameC_C (goK (by k_asm) (by with_reducible assumption)) (by with_reducible assumption) ?mzc ?mza ?mzb ?_; (case mza => with_unfolding_all rfl); (case mzb => with_unfolding_all rfl); (case mzc => with_unfolding_all rfl)))) | walk_at "mine list" | (first | ((with_reducible show wpAny _ _ (eval (Expr.Constant (Const.int _) _ _) _) _ _ _); refine wpAny_Constant_int ?_; (try dsimp only)) | ((with_reducible show wpAny _ _ (unaryOp _ _) _ _ _); walk1; (try dsimp only)) | ((with_reducible show wpAny _ _ (truthy _) _ _ _); walk1; (try dsimp only)) | ((with_reducible show wpAny _ _ (binaryOp _ (Value.int _ _) (Value.int _ _)) _ _ _); walk1; (try dsimp only))) | (first | ((with_reducible show wpAny _ _ (callWith _ (Value.builtin "list.append", _).fst _ _ _) _ _ _); refine callWith_method1 ?_) | ((with_reducible show wpAny _ _ (spliced (backTo _ (starEach (_ :: _) _))) _ _ _); refine spliced_more ?_)) | (k_unfold; (try dsimp only)) | walk1 | (dsimp only; walk1)))
          (with_reducible rename IsRange _ _ _ _ _ _ _ _ => R5)
          (with_reducible rename News _ _ _ _ => N6)
          (with_reducible rename Fr _ _ _ _ => F6)
          clear NE FX; (try clear N5); (try clear F5); (try clear N2); (try clear F2)
          (try dsimp only at R5 F6 N6 ⊢)
          refine iter_rangeN (L := L) (n := p.length) (news := ((ln, W.listOf (us3 ++ [Value.ref l5]).toArray (k3 + 1)) :: (l5, W.listOf #[] 0) :: front) ++ own) [Str.ofString "i", Str.ofString "bare"]
            (fun j m news => ∃ st, news = st ++ own ∧ NamesSt ln I [(D1, W.listOf (vs.drop (firstOf ps)).toArray 0), (L + 1, oc)] (acc ++ cuts slT ((toksOf p).take j)) st) rfl rfl R5 (by simp [hupl]) (by omega) F6 N6 ?_ ?_ ?_
          · refine ⟨_, rfl, us3, l5, [], k3 + 1, 0, front, acc, [], rfl, fun q hq => ⟨hl5 _ (.tail _ (List.mem_append_left _ hq)), hfr q hq⟩, fun e => hl5 _ (.head _) e.symm, hkp, fun q hq => ?_, hac, AreM.nil, rfl⟩
            rcases List.mem_cons.mp hq with rfl | hq
            · exact hlI
            · rcases List.mem_cons.mp hq with rfl | hq
              · exact fun e => hl5 _ (.tail _ (List.mem_append_right _ h3)) e.symm
              · exact hfI q hq
          · rintro I2 j tj m₂ news₂ own2 h6 tk6 oI2 hj hm2 ⟨st, rfl, vs3, b3, us4, k4, k5, fr2, pieces, last, rfl, hfr2, hbl, hkp2, hstI, hpc3, hlast, hall⟩ hn1 hn2 hn3 F7 N7
            have hcj := List.getElem?_eq_getElem hj
            generalize p[j] = c at hcj
            obtain ⟨uc, huc, tc, rfl⟩ := hup.2 j c hcj
            have hix : up.toArray[((j : Nat) : Int).toNat]? = some (.int (c : Nat) tc) := by simpa using huc
            have htj := take_succ_get (toks_at hcj)
            rw [htj]
            have hj1 : j + 1 ≤ p.length := hj
            have hallc := htot
            have hI2l : ln ≠ I2 := hn1 _ (.head _)
            have hI2b : b3 ≠ I2 := hn1 _ (.tail _ (.head _))
            have hlI2 : ln ≠ I := hstI _ (.head _)
            have hbI2 : b3 ≠ I := hstI _ (.tail _ (.head _))
            have hown2 : ∀ q ∈ own ++ own2, q.1 ≠ b3 ∧ q.1 ≠ ln := by
              intro q hq
              rcases List.mem_append.mp hq with hq | hq
              · rcases h2 q hq with e | e
                · exact ⟨fun z => hbI2 (z.symm.trans e), fun z => hlI2 (z.symm.trans e)⟩
                · have hd := hfr2 _ (hkp2 _ (.head _))
                  exact ⟨fun z => hd.1 (e.symm.trans z), fun z => hd.2 (e.symm.trans z)⟩
              · have e := hn2 q hq
                exact ⟨fun z => hI2b (z.symm.trans e), fun z => hI2l (z.symm.trans e)⟩
            have hlens : vs3.length ≤ 10000 ∧ us4.length ≤ 10000 := by
              have e1 := congrArg tot hall
              rw [tot_app, tot_app] at e1
              have c1 := tot_infix (slT := slT) (toksOf p) j
              rw [toks_len] at c1
              have c2 := tot_count pieces
              have c3 : tot [last] = last.length + 1 := rfl
              have c4 := hpc3.1
              have c5 := hlast.1
              omega
            clear htj huc
            refine let_ov1 [(Str.ofString "i", m₂ (Str.ofString "i")), (Str.ofString "bare", m₂ (Str.ofString "bare"))] F7 (by simp) hm2 rfl ?_
            clear F7
            intro mAF7 F7
            clear hm2
            (try dsimp only at F7 N7 ⊢)
            by_cases hc : c = 47
            · have hfl : slT (c, flagAt p j c) = true := by simp [hc]
              rw [all_cut hfl hall]
              (repeat' ((fail_if_success (with_reducible show wpAny _ _ (eval (Expr.BinOp _ Operator.Mult _ _) _) _ _ _)); (fail_if_success (with_reducible show wpAny _ _ (pyIter _) _ _ _)); (fail_if_success (with_reducible show wpAny _ _ (exec (Stmt.For _ _ _ _ _) _) _ _ _)); (fail_if_success (with_reducible show wpAny _ _ (eval (Expr.ListComp _ _ _ _) _) _ _ _)); (fail_if_success (with_reducible show wpAny _ _ (eval (Expr.BoolOp _ _ _) _) _ _ _)); (fail_if_success (with_reducible show wpAny _ _ (call (Value.builtin "list.append") _) _ _ _)); (fail_if_success (with_reducible show wpAny _ _ (subscriptTail _ _ (Value.ref _) (Value.int (-1) _)) _ _ _)); first | (((with_reducible show wpAny _ _ (subscriptTail _ _ (Value.ref _) (Value.int _ _)) _ _ _); (refine itemL (ilK (by k_asm) (by with_reducible assumption)) (by omega) (by omega) (by with_reducible assumption) ?_))) | (((with_reducible show wpAny _ _ (eval (Expr.Name _ _) (compEnvC _ _ _ _)) _ _ _); first | (refine' nameC_L ?mzF ?mzv ?mza ?mzb ?_; (case mzF => k_asm); (case mza => with_unfolding_all rfl); (case mzb => with_unfolding_all rfl); (case mzv => rfl)) | (refine' nameC_C (goK (by k_asm) (by with_reducible assumption)) (by with_reducible assumption) ?mzc ?mza ?mzb ?_; (case mza => with_unfolding_all rfl); (case mzb => with_unfolding_all rfl); (case mzc => with_unfolding_all rfl)))) | walk_at "mine list" | (first | ((with_reducible show wpAny _ _ (eval (Expr.Constant (Const.int _) _ _) _) _ _ _); refine wpAny_Constant_int ?_; (try dsimp only)) | ((with_reducible show wpAny _ _ (unaryOp _ _) _ _ _); walk1; (try dsimp only)) | ((with_reducible show wpAny _ _ (truthy _) _ _ _); walk1; (try dsimp only)) | ((with_reducible show wpAny _ _ (binaryOp _ (Value.int _ _) (Value.int _ _)) _ _ _); walk1; (try dsimp only))) | (first | ((with_reducible show wpAny _ _ (callWith _ (Value.builtin "list.append", _).fst _ _ _) _ _ _); refine callWith_method1 ?_) | ((with_reducible show wpAny _ _ (spliced (backTo _ (starEach (_ :: _) _))) _ _ _); refine spliced_more ?_)) | (k_unfold; (try dsimp only)) | walk1 | (dsimp only; walk1)))
              (with_reducible rename News _ _ _ _ => NE)
              rename_i l8 FX8 hl8
              refine append_L (ts := vs3 ++ [Value.ref b3]) (n := k4) (rest := (l8, W.listOf #[] 0) :: (b3, W.listOf us4.toArray k5) :: (fr2 ++ own ++ own2)) (by k_asm) NE ?_ ?_ (by rw [List.length_append]; show vs3.length + 1 ≤ _; omega) ?_
              · intro q hq
                rcases List.mem_cons.mp hq with rfl | hq
                · exact .tail _ (.head _)
                · rcases List.mem_cons.mp hq with rfl | hq
                  · exact .head _
                  · exact .tail _ (.tail _ hq)
              · intro q hq
                rcases List.mem_cons.mp hq with rfl | hq
                · exact fun e => hl8 _ (.head _) e.symm
                · rcases List.mem_cons.mp hq with rfl | hq
                  · exact hbl
                  · rw [List.append_assoc] at hq
                    rcases List.mem_append.mp hq with hq | hq
                    · exact (hfr2 q hq).2
                    · exact (hown2 q hq).2
              · intro h8 F8 N8
                dsimp only
                clear NE
                (repeat' ((fail_if_success (with_reducible show wpAny _ _ (eval (Expr.BinOp _ Operator.Mult _ _) _) _ _ _)); (fail_if_success (with_reducible show wpAny _ _ (pyIter _) _ _ _)); (fail_if_success (with_reducible show wpAny _ _ (exec (Stmt.For _ _ _ _ _) _) _ _ _)); (fail_if_success (with_reducible show wpAny _ _ (eval (Expr.ListComp _ _ _ _) _) _ _ _)); (fail_if_success (with_reducible show wpAny _ _ (eval (Expr.BoolOp _ _ _) _) _ _ _)); (fail_if_success (with_reducible show wpAny _ _ (call (Value.builtin "list.append") _) _ _ _)); (fail_if_success (with_reducible show wpAny _ _ (subscriptTail _ _ (Value.ref _) (Value.int (-1) _)) _ _ _)); first | (((with_reducible show wpAny _ _ (subscriptTail _ _ (Value.ref _) (Value.int _ _)) _ _ _); (refine itemL (ilK (by k_asm) (by with_reducible assumption)) (by omega) (by omega) (by with_reducible assumption) ?_))) | (((with_reducible show wpAny _ _ (eval (Expr.Name _ _) (compEnvC _ _ _ _)) _ _ _); first | (refine' nameC_L ?mzF ?mzv ?mza ?mzb ?_; (case mzF => k_asm); (case mza => with_unfolding_all rfl); (case mzb => with_unfolding_all rfl); (case mzv => rfl)) | (refine' nameC_C (goK (by k_asm) (by with_reducible assumption)) (by with_reducible assumption) ?mzc ?mza ?mzb ?_; (case mza => with_unfolding_all rfl); (case mzb => with_unfolding_all rfl); (case mzc => with_unfolding_all rfl)))) | walk_at "mine list" | (first | ((with_reducible show wpAny _ _ (eval (Expr.Constant (Const.int _) _ _) _) _ _ _); refine wpAny_Constant_int ?_; (try dsimp only)) | ((with_reducible show wpAny _ _ (unaryOp _ _) _ _ _); walk1; (try dsimp only)) | ((with_reducible show wpAny _ _ (truthy _) _ _ _); walk1; (try dsimp only)) | ((with_reducible show wpAny _ _ (binaryOp _ (Value.int _ _) (Value.int _ _)) _ _ _); walk1; (try dsimp only))) | (first | ((with_reducible show wpAny _ _ (callWith _ (Value.builtin "list.append", _).fst _ _ _) _ _ _); refine callWith_method1 ?_) | ((with_reducible show wpAny _ _ (spliced (backTo _ (starEach (_ :: _) _))) _ _ _); refine spliced_more ?_)) | (k_unfold; (try dsimp only)) | walk1 | (dsimp only; walk1)))
                exact TE.names (.inl rfl) (by k_asm) (news₁ := ((ln, W.listOf (vs3 ++ [Value.ref b3] ++ [Value.ref l8]).toArray (k4 + 1)) :: (l8, W.listOf #[] 0) :: (b3, W.listOf us4.toArray k5) :: fr2) ++ own) N8 (fun q hq => by
                  rcases List.mem_cons.mp hq with rfl | hq
                  · exact hI2l
                  · rcases List.mem_cons.mp hq with rfl | hq
                    · exact fun e => hl8 _ (List.mem_append_right _ hn3) e.symm
                    · exact hn1 q (.tail _ hq)) (by (repeat (first | exact fun _ _ => rfl | exact off_all | refine off_put (by decide) ?_ | refine off_sub (by kernel_rfl) ?_))) ⟨_, rfl, namesSt_cut hfr2 hbl hkp2 hstI hpc3 hlast (fun q hq => hl8 q (List.mem_append_left _ (List.mem_append_left _ hq))) (fun e => hl8 _ (List.mem_append_left _ (List.mem_append_right _ h3)) e.symm)⟩
            · have hfl : slT (c, flagAt p j c) = false := by simp [hc]
              rw [all_put hfl hall]
              (repeat' ((fail_if_success (with_reducible show wpAny _ _ (eval (Expr.BinOp _ Operator.Mult _ _) _) _ _ _)); (fail_if_success (with_reducible show wpAny _ _ (pyIter _) _ _ _)); (fail_if_success (with_reducible show wpAny _ _ (exec (Stmt.For _ _ _ _ _) _) _ _ _)); (fail_if_success (with_reducible show wpAny _ _ (eval (Expr.ListComp _ _ _ _) _) _ _ _)); (fail_if_success (with_reducible show wpAny _ _ (eval (Expr.BoolOp _ _ _) _) _ _ _)); (fail_if_success (with_reducible show wpAny _ _ (call (Value.builtin "list.append") _) _ _ _)); (fail_if_success (with_reducible show wpAny _ _ (subscriptTail _ _ (Value.ref _) (Value.int (-1) _)) _ _ _)); first | (((with_reducible show wpAny _ _ (subscriptTail _ _ (Value.ref _) (Value.int _ _)) _ _ _); (refine itemL (ilK (by k_asm) (by with_reducible assumption)) (by omega) (by omega) (by with_reducible assumption) ?_))) | (((with_reducible show wpAny _ _ (eval (Expr.Name _ _) (compEnvC _ _ _ _)) _ _ _); first | (refine' nameC_L ?mzF ?mzv ?mza ?mzb ?_; (case mzF => k_asm); (case mza => with_unfolding_all rfl); (case mzb => with_unfolding_all rfl); (case mzv => rfl)) | (refine' nameC_C (goK (by k_asm) (by with_reducible assumption)) (by with_reducible assumption) ?mzc ?mza ?mzb ?_; (case mza => with_unfolding_all rfl); (case mzb => with_unfolding_all rfl); (case mzc => with_unfolding_all rfl)))) | walk_at "mine list" | (first | ((with_reducible show wpAny _ _ (eval (Expr.Constant (Const.int _) _ _) _) _ _ _); refine wpAny_Constant_int ?_; (try dsimp only)) | ((with_reducible show wpAny _ _ (unaryOp _ _) _ _ _); walk1; (try dsimp only)) | ((with_reducible show wpAny _ _ (truthy _) _ _ _); walk1; (try dsimp only)) | ((with_reducible show wpAny _ _ (binaryOp _ (Value.int _ _) (Value.int _ _)) _ _ _); walk1; (try dsimp only))) | (first | ((with_reducible show wpAny _ _ (callWith _ (Value.builtin "list.append", _).fst _ _ _) _ _ _); refine callWith_method1 ?_) | ((with_reducible show wpAny _ _ (spliced (backTo _ (starEach (_ :: _) _))) _ _ _); refine spliced_more ?_)) | (k_unfold; (try dsimp only)) | walk1 | (dsimp only; walk1)))
              refine wpAny_mono (Q := fun v s' => Hold (v = .bool (flagAt p j c) ∧ ∃ tk', s' = { s with heap := h6, toks := tk' })) ?_ ?_ (fun _ _ e => e)
              · have hbe : ∀ k : Nat, c = k → ((c : Int) == (k : Nat)) = true := fun k h => by rw [h]; exact beq_self_eq_true _
                have hbn : ∀ k : Nat, ¬ c = k → ((c : Int) == (k : Nat)) = false := fun k h => beq_eq_false_iff_ne.mpr (by omega)
                by_cases hw : c = 9 ∨ c = 32
                · by_cases hjn : j + 1 < p.length
                  · have hdj := List.getElem?_eq_getElem hjn
                    generalize p[j + 1] = d at hdj
                    obtain ⟨ud, hud, td, rfl⟩ := hup.2 (j + 1) d hdj
                    have hix2 : up.toArray[((j : Nat) + 1 : Int).toNat]? = some (.int (d : Nat) td) := by
                      have e : ((j : Nat) + 1 : Int).toNat = j + 1 := by omega
                      rw [e]; simpa using hud
                    have hlt : decide (((j : Nat) : Int) + 1 < (up.toArray.size : Nat)) = true := decide_eq_true (by rw [List.size_toArray]; omega)
                    rcases hw with rfl | rfl
                    · (repeat' (first | (((with_reducible show wpAny _ _ (subscriptTail _ _ (Value.ref _) (Value.int _ _)) _ _ _); (refine itemL (ilK (by k_asm) (by with_reducible assumption)) (by omega) (by omega) (by with_reducible assumption) ?_))) | (first | ((with_reducible show wpAny _ _ (eval (Expr.Constant (Const.int _) _ _) _) _ _ _); refine wpAny_Constant_int ?_; (try dsimp only)) | ((with_reducible show wpAny _ _ (unaryOp _ _) _ _ _); walk1; (try dsimp only)) | ((with_reducible show wpAny _ _ (truthy _) _ _ _); walk1; (try dsimp only)) | ((with_reducible show wpAny _ _ (binaryOp _ (Value.int _ _) (Value.int _ _)) _ _ _); walk1; (try dsimp only))) | (k_unfold; (try dsimp only)) | walk1 | (dsimp only; walk1)))
                      exact ⟨congrArg Value.bool (flag_in (.inl rfl) hdj), _, rfl⟩
                    · (repeat' (first | (((with_reducible show wpAny _ _ (subscriptTail _ _ (Value.ref _) (Value.int _ _)) _ _ _); (refine itemL (ilK (by k_asm) (by with_reducible assumption)) (by omega) (by omega) (by with_reducible assumption) ?_))) | (first | ((with_reducible show wpAny _ _ (eval (Expr.Constant (Const.int _) _ _) _) _ _ _); refine wpAny_Constant_int ?_; (try dsimp only)) | ((with_reducible show wpAny _ _ (unaryOp _ _) _ _ _); walk1; (try dsimp only)) | ((with_reducible show wpAny _ _ (truthy _) _ _ _); walk1; (try dsimp only)) | ((with_reducible show wpAny _ _ (binaryOp _ (Value.int _ _) (Value.int _ _)) _ _ _); walk1; (try dsimp only))) | (k_unfold; (try dsimp only)) | walk1 | (dsimp only; walk1)))
                      exact ⟨congrArg Value.bool (flag_in (.inr rfl) hdj), _, rfl⟩
                  · have hlt : decide (((j : Nat) : Int) + 1 < (up.toArray.size : Nat)) = false := decide_eq_false (by rw [List.size_toArray]; omega)
                    rcases hw with rfl | rfl
                    · (repeat' (first | (((with_reducible show wpAny _ _ (subscriptTail _ _ (Value.ref _) (Value.int _ _)) _ _ _); (refine itemL (ilK (by k_asm) (by with_reducible assumption)) (by omega) (by omega) (by with_reducible assumption) ?_))) | (first | ((with_reducible show wpAny _ _ (eval (Expr.Constant (Const.int _) _ _) _) _ _ _); refine wpAny_Constant_int ?_; (try dsimp only)) | ((with_reducible show wpAny _ _ (unaryOp _ _) _ _ _); walk1; (try dsimp only)) | ((with_reducible show wpAny _ _ (truthy _) _ _ _); walk1; (try dsimp only)) | ((with_reducible show wpAny _ _ (binaryOp _ (Value.int _ _) (Value.int _ _)) _ _ _); walk1; (try dsimp only))) | (k_unfold; (try dsimp only)) | walk1 | (dsimp only; walk1)))
                      exact ⟨congrArg Value.bool (flag_end (.inl rfl) hjn (by simp [hupl])), _, rfl⟩
                    · (repeat' (first | (((with_reducible show wpAny _ _ (subscriptTail _ _ (Value.ref _) (Value.int _ _)) _ _ _); (refine itemL (ilK (by k_asm) (by with_reducible assumption)) (by omega) (by omega) (by with_reducible assumption) ?_))) | (first | ((with_reducible show wpAny _ _ (eval (Expr.Constant (Const.int _) _ _) _) _ _ _); refine wpAny_Constant_int ?_; (try dsimp only)) | ((with_reducible show wpAny _ _ (unaryOp _ _) _ _ _); walk1; (try dsimp only)) | ((with_reducible show wpAny _ _ (truthy _) _ _ _); walk1; (try dsimp only)) | ((with_reducible show wpAny _ _ (binaryOp _ (Value.int _ _) (Value.int _ _)) _ _ _); walk1; (try dsimp only))) | (k_unfold; (try dsimp only)) | walk1 | (dsimp only; walk1)))
                      exact ⟨congrArg Value.bool (flag_end (.inr rfl) hjn (by simp [hupl])), _, rfl⟩
                · obtain ⟨h9, h32⟩ := not_or.mp hw
                  have hb9 := hbn 9 h9
                  (repeat' (first | (((with_reducible show wpAny _ _ (subscriptTail _ _ (Value.ref _) (Value.int _ _)) _ _ _); (refine itemL (ilK (by k_asm) (by with_reducible assumption)) (by omega) (by omega) (by with_reducible assumption) ?_))) | (first | ((with_reducible show wpAny _ _ (eval (Expr.Constant (Const.int _) _ _) _) _ _ _); refine wpAny_Constant_int ?_; (try dsimp only)) | ((with_reducible show wpAny _ _ (unaryOp _ _) _ _ _); walk1; (try dsimp only)) | ((with_reducible show wpAny _ _ (truthy _) _ _ _); walk1; (try dsimp only)) | ((with_reducible show wpAny _ _ (binaryOp _ (Value.int _ _) (Value.int _ _)) _ _ _); walk1; (try dsimp only))) | (k_unfold; (try dsimp only)) | walk1 | (dsimp only; walk1)))
                  exact ⟨congrArg Value.bool (flag_no h9 h32), _, rfl⟩
              · rintro v s' ⟨rfl, tk7, rfl⟩
                dsimp only
                generalize hflg : flagAt p j c = fl at *
                (repeat' ((fail_if_success (with_reducible show wpAny _ _ (eval (Expr.BinOp _ Operator.Mult _ _) _) _ _ _)); (fail_if_success (with_reducible show wpAny _ _ (pyIter _) _ _ _)); (fail_if_success (with_reducible show wpAny _ _ (exec (Stmt.For _ _ _ _ _) _) _ _ _)); (fail_if_success (with_reducible show wpAny _ _ (eval (Expr.ListComp _ _ _ _) _) _ _ _)); (fail_if_success (with_reducible show wpAny _ _ (eval (Expr.BoolOp _ _ _) _) _ _ _)); (fail_if_success (with_reducible show wpAny _ _ (call (Value.builtin "list.append") _) _ _ _)); (fail_if_success (with_reducible show wpAny _ _ (subscriptTail _ _ (Value.ref _) (Value.int (-1) _)) _ _ _)); first | (((with_reducible show wpAny _ _ (subscriptTail _ _ (Value.ref _) (Value.int _ _)) _ _ _); (refine itemL (ilK (by k_asm) (by with_reducible assumption)) (by omega) (by omega) (by with_reducible assumption) ?_))) | (((with_reducible show wpAny _ _ (eval (Expr.Name _ _) (compEnvC _ _ _ _)) _ _ _); first | (refine' nameC_L ?mzF ?mzv ?mza ?mzb ?_; (case mzF => k_asm); (case mza => with_unfolding_all rfl); (case mzb => with_unfolding_all rfl); (case mzv => rfl)) | (refine' nameC_C (goK (by k_asm) (by with_reducible assumption)) (by with_reducible assumption) ?mzc ?mza ?mzb ?_; (case mza => with_unfolding_all rfl); (case mzb => with_unfolding_all rfl); (case mzc => with_unfolding_all rfl)))) | walk_at "mine list" | (first | ((with_reducible show wpAny _ _ (eval (Expr.Constant (Const.int _) _ _) _) _ _ _); refine wpAny_Constant_int ?_; (try dsimp only)) | ((with_reducible show wpAny _ _ (unaryOp _ _) _ _ _); walk1; (try dsimp only)) | ((with_reducible show wpAny _ _ (truthy _) _ _ _); walk1; (try dsimp only)) | ((with_reducible show wpAny _ _ (binaryOp _ (Value.int _ _) (Value.int _ _)) _ _ _); walk1; (try dsimp only))) | (first | ((with_reducible show wpAny _ _ (callWith _ (Value.builtin "list.append", _).fst _ _ _) _ _ _); refine callWith_method1 ?_) | ((with_reducible show wpAny _ _ (spliced (backTo _ (starEach (_ :: _) _))) _ _ _); refine spliced_more ?_)) | (k_unfold; (try dsimp only)) | walk1 | (dsimp only; walk1)))
                (with_reducible rename News _ _ _ _ => NE)
                refine last1 (News.isList NE (.head _)) (by omega) ?_
                (repeat' ((fail_if_success (with_reducible show wpAny _ _ (eval (Expr.BinOp _ Operator.Mult _ _) _) _ _ _)); (fail_if_success (with_reducible show wpAny _ _ (pyIter _) _ _ _)); (fail_if_success (with_reducible show wpAny _ _ (exec (Stmt.For _ _ _ _ _) _) _ _ _)); (fail_if_success (with_reducible show wpAny _ _ (eval (Expr.ListComp _ _ _ _) _) _ _ _)); (fail_if_success (with_reducible show wpAny _ _ (eval (Expr.BoolOp _ _ _) _) _ _ _)); (fail_if_success (with_reducible show wpAny _ _ (call (Value.builtin "list.append") _) _ _ _)); (fail_if_success (with_reducible show wpAny _ _ (subscriptTail _ _ (Value.ref _) (Value.int (-1) _)) _ _ _)); first | (((with_reducible show wpAny _ _ (subscriptTail _ _ (Value.ref _) (Value.int _ _)) _ _ _); (refine itemL (ilK (by k_asm) (by with_reducible assumption)) (by omega) (by omega) (by with_reducible assumption) ?_))) | (((with_reducible show wpAny _ _ (eval (Expr.Name _ _) (compEnvC _ _ _ _)) _ _ _); first | (refine' nameC_L ?mzF ?mzv ?mza ?mzb ?_; (case mzF => k_asm); (case mza => with_unfolding_all rfl); (case mzb => with_unfolding_all rfl); (case mzv => rfl)) | (refine' nameC_C (goK (by k_asm) (by with_reducible assumption)) (by with_reducible assumption) ?mzc ?mza ?mzb ?_; (case mza => with_unfolding_all rfl); (case mzb => with_unfolding_all rfl); (case mzc => with_unfolding_all rfl)))) | walk_at "mine list" | (first | ((with_reducible show wpAny _ _ (eval (Expr.Constant (Const.int _) _ _) _) _ _ _); refine wpAny_Constant_int ?_; (try dsimp only)) | ((with_reducible show wpAny _ _ (unaryOp _ _) _ _ _); walk1; (try dsimp only)) | ((with_reducible show wpAny _ _ (truthy _) _ _ _); walk1; (try dsimp only)) | ((with_reducible show wpAny _ _ (binaryOp _ (Value.int _ _) (Value.int _ _)) _ _ _); walk1; (try dsimp only))) | (first | ((with_reducible show wpAny _ _ (callWith _ (Value.builtin "list.append", _).fst _ _ _) _ _ _); refine callWith_method1 ?_) | ((with_reducible show wpAny _ _ (spliced (backTo _ (starEach (_ :: _) _))) _ _ _); refine spliced_more ?_)) | (k_unfold; (try dsimp only)) | walk1 | (dsimp only; walk1)))
                (with_reducible rename News _ _ _ _ => NE)
                rename_i T8 h8 F8 lT
                refine append_L (ts := us4) (n := k5) (rest := (ln, W.listOf (vs3 ++ [Value.ref b3]).toArray k4) :: (T8, pairO c tc fl) :: (fr2 ++ own ++ own2)) (by k_asm) NE ?_ ?_ (by omega) ?_
                · intro q hq
                  rcases List.mem_cons.mp hq with rfl | hq
                  · exact .tail _ (.tail _ (.head _))
                  · rcases List.mem_cons.mp hq with rfl | hq
                    · exact .tail _ (.head _)
                    · rcases List.mem_cons.mp hq with rfl | hq
                      · exact .head _
                      · exact .tail _ (.tail _ (.tail _ hq))
                · intro q hq
                  rcases List.mem_cons.mp hq with rfl | hq
                  · exact fun e => hbl e.symm
                  · rcases List.mem_cons.mp hq with rfl | hq
                    · exact Nat.ne_of_gt (lT _ (.tail _ (.head _)))
                    · rw [List.append_assoc] at hq
                      rcases List.mem_append.mp hq with hq | hq
                      · exact (hfr2 q hq).1
                      · exact (hown2 q hq).1
                · intro h9 F9 N9
                  dsimp only
                  clear NE
                  (repeat' ((fail_if_success (with_reducible show wpAny _ _ (eval (Expr.BinOp _ Operator.Mult _ _) _) _ _ _)); (fail_if_success (with_reducible show wpAny _ _ (pyIter _) _ _ _)); (fail_if_success (with_reducible show wpAny _ _ (exec (Stmt.For _ _ _ _ _) _) _ _ _)); (fail_if_success (with_reducible show wpAny _ _ (eval (Expr.ListComp _ _ _ _) _) _ _ _)); (fail_if_success (with_reducible show wpAny _ _ (eval (Expr.BoolOp _ _ _) _) _ _ _)); (fail_if_success (with_reducible show wpAny _ _ (call (Value.builtin "list.append") _) _ _ _)); (fail_if_success (with_reducible show wpAny _ _ (subscriptTail _ _ (Value.ref _) (Value.int (-1) _)) _ _ _)); first | (((with_reducible show wpAny _ _ (subscriptTail _ _ (Value.ref _) (Value.int _ _)) _ _ _); (refine itemL (ilK (by k_asm) (by with_reducible assumption)) (by omega) (by omega) (by with_reducible assumption) ?_))) | (((with_reducible show wpAny _ _ (eval (Expr.Name _ _) (compEnvC _ _ _ _)) _ _ _); first | (refine' nameC_L ?mzF ?mzv ?mza ?mzb ?_; (case mzF => k_asm); (case mza => with_unfolding_all rfl); (case mzb => with_unfolding_all rfl); (case mzv => rfl)) | (refine' nameC_C (goK (by k_asm) (by with_reducible assumption)) (by with_reducible assumption) ?mzc ?mza ?mzb ?_; (case mza => with_unfolding_all rfl); (case mzb => with_unfolding_all rfl); (case mzc => with_unfolding_all rfl)))) | walk_at "mine list" | (first | ((with_reducible show wpAny _ _ (eval (Expr.Constant (Const.int _) _ _) _) _ _ _); refine wpAny_Constant_int ?_; (try dsimp only)) | ((with_reducible show wpAny _ _ (unaryOp _ _) _ _ _); walk1; (try dsimp only)) | ((with_reducible show wpAny _ _ (truthy _) _ _ _); walk1; (try dsimp only)) | ((with_reducible show wpAny _ _ (binaryOp _ (Value.int _ _) (Value.int _ _)) _ _ _); walk1; (try dsimp only))) | (first | ((with_reducible show wpAny _ _ (callWith _ (Value.builtin "list.append", _).fst _ _ _) _ _ _); refine callWith_method1 ?_) | ((with_reducible show wpAny _ _ (spliced (backTo _ (starEach (_ :: _) _))) _ _ _); refine spliced_more ?_)) | (k_unfold; (try dsimp only)) | walk1 | (dsimp only; walk1)))
                  exact TE.names (.inl rfl) (by k_asm) (news₁ := ((ln, W.listOf (vs3 ++ [Value.ref b3]).toArray k4) :: (b3, W.listOf (us4 ++ [Value.ref T8]).toArray (k5 + 1)) :: (T8, pairO c tc fl) :: fr2) ++ own) (fun q hq => N9 q (by
                    rcases List.mem_cons.mp hq with rfl | hq
                    · exact .tail _ (.head _)
                    · rcases List.mem_cons.mp hq with rfl | hq
                      · exact .head _
                      · exact .tail _ (.tail _ hq))) (fun q hq => by
                    rcases List.mem_cons.mp hq with rfl | hq
                    · exact hI2l
                    · rcases List.mem_cons.mp hq with rfl | hq
                      · exact hI2b
                      · rcases List.mem_cons.mp hq with rfl | hq
                        · exact Nat.ne_of_gt (lT _ (List.mem_append_right _ hn3))
                        · exact hn1 q (.tail _ (.tail _ hq))) (by (repeat (first | exact fun _ _ => rfl | exact off_all | refine off_put (by decide) ?_ | refine off_sub (by kernel_rfl) ?_))) ⟨_, rfl, namesSt_put hfr2 hbl hkp2 hstI hpc3 hlast (fun q hq => Nat.ne_of_lt (lT q (List.mem_append_left _ (List.mem_append_left _ hq)))) (Nat.ne_of_gt (lT _ (List.mem_append_left _ (List.mem_append_right _ h3))))⟩
          · rintro m₂ news₂ h7 tk7 hm2 ⟨st, rfl, vs3, b3, us4, k4, k5, fr2, pieces, last, rfl, hfr2, hbl, hkp2, hstI, hpc3, hlast, hall⟩ F7 N7
            rw [List.take_of_length_le (by rw [toks_len]; exact Nat.le_refl _)] at hall
            rw [hall]
            (try dsimp only)
            (repeat' ((fail_if_success (with_reducible show wpAny _ _ (eval (Expr.BinOp _ Operator.Mult _ _) _) _ _ _)); (fail_if_success (with_reducible show wpAny _ _ (pyIter _) _ _ _)); (fail_if_success (with_reducible show wpAny _ _ (exec (Stmt.For _ _ _ _ _) _) _ _ _)); (fail_if_success (with_reducible show wpAny _ _ (eval (Expr.ListComp _ _ _ _) _) _ _ _)); (fail_if_success (with_reducible show wpAny _ _ (eval (Expr.BoolOp _ _ _) _) _ _ _)); (fail_if_success (with_reducible show wpAny _ _ (call (Value.builtin "list.append") _) _ _ _)); (fail_if_success (with_reducible show wpAny _ _ (subscriptTail _ _ (Value.ref _) (Value.int (-1) _)) _ _ _)); first | (((with_reducible show wpAny _ _ (subscriptTail _ _ (Value.ref _) (Value.int _ _)) _ _ _); (refine itemL (ilK (by k_asm) (by with_reducible assumption)) (by omega) (by omega) (by with_reducible assumption) ?_))) | (((with_reducible show wpAny _ _ (eval (Expr.Name _ _) (compEnvC _ _ _ _)) _ _ _); first | (refine' nameC_L ?mzF ?mzv ?mza ?mzb ?_; (case mzF => k_asm); (case mza => with_unfolding_all rfl); (case mzb => with_unfolding_all rfl); (case mzv => rfl)) | (refine' nameC_C (goK (by k_asm) (by with_reducible assumption)) (by with_reducible assumption) ?mzc ?mza ?mzb ?_; (case mza => with_unfolding_all rfl); (case mzb => with_unfolding_all rfl); (case mzc => with_unfolding_all rfl)))) | walk_at "mine list" | (first | ((with_reducible show wpAny _ _ (eval (Expr.Constant (Const.int _) _ _) _) _ _ _); refine wpAny_Constant_int ?_; (try dsimp only)) | ((with_reducible show wpAny _ _ (unaryOp _ _) _ _ _); walk1; (try dsimp only)) | ((with_reducible show wpAny _ _ (truthy _) _ _ _); walk1; (try dsimp only)) | ((with_reducible show wpAny _ _ (binaryOp _ (Value.int _ _) (Value.int _ _)) _ _ _); walk1; (try dsimp only))) | (first | ((with_reducible show wpAny _ _ (callWith _ (Value.builtin "list.append", _).fst _ _ _) _ _ _); refine callWith_method1 ?_) | ((with_reducible show wpAny _ _ (spliced (backTo _ (starEach (_ :: _) _))) _ _ _); refine spliced_more ?_)) | (k_unfold; (try dsimp only)) | walk1 | (dsimp only; walk1)))
            exact TE.names (.inl rfl) F7 N7 hstI (off_trans (by decide) hm2 (by (repeat (first | exact fun _ _ => rfl | exact off_all | refine off_put (by decide) ?_ | refine off_sub (by kernel_rfl) ?_)))) ⟨vs3 ++ [Value.ref b3], k4, (b3, W.listOf us4.toArray k5) :: fr2, rfl, (fun q hq => by
              rcases List.mem_cons.mp hq with rfl | hq
              · exact hbl
              · exact (hfr2 q hq).2), fun q hq => .tail _ (hkp2 q hq), namesSt_all (fun q hq => .tail _ hq) (.head _) hpc3 hlast⟩
      · rintro m₁ news₁ h tk' hm ⟨us3, k3, front, rfl, hfr, hkp, hac⟩ F2 N2
        rw [show (vs.drop (firstOf ps)).toArray.size = (ps.drop (firstOf ps)).length by rw [← hdr.1]; simp, List.take_length] at hac
        have htot := tot_acc (qs := ps.drop (firstOf ps)) hqs85
        have htc := tot_count (accN (ps.drop (firstOf ps)))
        have hns : nsOf ps = (accN (ps.drop (firstOf ps))).filter (fun p => !p.isEmpty) := (full_acc _).symm
        have hacl := hac.1
        rw [hns] at hR
        generalize accN (ps.drop (firstOf ps)) = acc at *
        refine let_ov [(Str.ofString "part", m₁ (Str.ofString "part")), (Str.ofString "i", m₁ (Str.ofString "i")), (Str.ofString "bare", m₁ (Str.ofString "bare"))] F2 (by simp) hm rfl ?_
        clear F2
        intro mAF2 F2
        clear hm hns
        (try dsimp only at F2 ⊢)
        (repeat' ((fail_if_success (with_reducible show wpAny _ _ (eval (Expr.BinOp _ Operator.Mult _ _) _) _ _ _)); (fail_if_success (with_reducible show wpAny _ _ (pyIter _) _ _ _)); (fail_if_success (with_reducible show wpAny _ _ (exec (Stmt.For _ _ _ _ _) _) _ _ _)); (fail_if_success (with_reducible show wpAny _ _ (eval (Expr.ListComp _ _ _ _) _) _ _ _)); (fail_if_success (with_reducible show wpAny _ _ (eval (Expr.BoolOp _ _ _) _) _ _ _)); (fail_if_success (with_reducible show wpAny _ _ (call (Value.builtin "list.append") _) _ _ _)); (fail_if_success (with_reducible show wpAny _ _ (subscriptTail _ _ (Value.ref _) (Value.int (-1) _)) _ _ _)); first | (((with_reducible show wpAny _ _ (subscriptTail _ _ (Value.ref _) (Value.int _ _)) _ _ _); (refine itemL (ilK (by k_asm) (by with_reducible assumption)) (by omega) (by omega) (by with_reducible assumption) ?_))) | (((with_reducible show wpAny _ _ (eval (Expr.Name _ _) (compEnvC _ _ _ _)) _ _ _); first | (refine' nameC_L ?mzF ?mzv ?mza ?mzb ?_; (case mzF => k_asm); (case mza => with_unfolding_all rfl); (case mzb => with_unfolding_all rfl); (case mzv => rfl)) | (refine' nameC_C (goK (by k_asm) (by with_reducible assumption)) (by with_reducible assumption) ?mzc ?mza ?mzb ?_; (case mza => with_unfolding_all rfl); (case mzb => with_unfolding_all rfl); (case mzc => with_unfolding_all rfl)))) | walk_at "mine list" | (first | ((with_reducible show wpAny _ _ (eval (Expr.Constant (Const.int _) _ _) _) _ _ _); refine wpAny_Constant_int ?_; (try dsimp only)) | ((with_reducible show wpAny _ _ (unaryOp _ _) _ _ _); walk1; (try dsimp only)) | ((with_reducible show wpAny _ _ (truthy _) _ _ _); walk1; (try dsimp only)) | ((with_reducible show wpAny _ _ (binaryOp _ (Value.int _ _) (Value.int _ _)) _ _ _); walk1; (try dsimp only))) | (first | ((with_reducible show wpAny _ _ (callWith _ (Value.builtin "list.append", _).fst _ _ _) _ _ _); refine callWith_method1 ?_) | ((with_reducible show wpAny _ _ (spliced (backTo _ (starEach (_ :: _) _))) _ _ _); refine spliced_more ?_)) | (k_unfold; (try dsimp only)) | walk1 | (dsimp only; walk1)))
        refine wpAny_mono (Q := fun v s' => Hold (∃ t tk', v = .str ⟨(rootL (leadOf ps)).toArray⟩ t ∧ s' = { s with heap := h, toks := tk' })) ?_ ?_ (fun _ _ e => e)
        · by_cases h3 : (leadOf ps) < 3
          · (repeat' (first | (((with_reducible show wpAny _ _ (subscriptTail _ _ (Value.ref _) (Value.int _ _)) _ _ _); (refine itemL (ilK (by k_asm) (by with_reducible assumption)) (by omega) (by omega) (by with_reducible assumption) ?_))) | (first | ((with_reducible show wpAny _ _ (eval (Expr.Constant (Const.int _) _ _) _) _ _ _); refine wpAny_Constant_int ?_; (try dsimp only)) | ((with_reducible show wpAny _ _ (unaryOp _ _) _ _ _); walk1; (try dsimp only)) | ((with_reducible show wpAny _ _ (truthy _) _ _ _); walk1; (try dsimp only)) | ((with_reducible show wpAny _ _ (binaryOp _ (Value.int _ _) (Value.int _ _)) _ _ _); walk1; (try dsimp only))) | (k_unfold; (try dsimp only)) | walk1 | (dsimp only; walk1)))
            exact ⟨_, _, congrArg (Value.str · _) (mul_root h3), rfl⟩
          · (repeat' (first | (((with_reducible show wpAny _ _ (subscriptTail _ _ (Value.ref _) (Value.int _ _)) _ _ _); (refine itemL (ilK (by k_asm) (by with_reducible assumption)) (by omega) (by omega) (by with_reducible assumption) ?_))) | (first | ((with_reducible show wpAny _ _ (eval (Expr.Constant (Const.int _) _ _) _) _ _ _); refine wpAny_Constant_int ?_; (try dsimp only)) | ((with_reducible show wpAny _ _ (unaryOp _ _) _ _ _); walk1; (try dsimp only)) | ((with_reducible show wpAny _ _ (truthy _) _ _ _); walk1; (try dsimp only)) | ((with_reducible show wpAny _ _ (binaryOp _ (Value.int _ _) (Value.int _ _)) _ _ _); walk1; (try dsimp only))) | (k_unfold; (try dsimp only)) | walk1 | (dsimp only; walk1)))
            exact ⟨_, _, congrArg (Value.str · _) (mul_root1 h3), rfl⟩
        · rintro v s' ⟨tr, tk3, rfl, rfl⟩
          dsimp only
          (repeat' ((fail_if_success (with_reducible show wpAny _ _ (eval (Expr.BinOp _ Operator.Mult _ _) _) _ _ _)); (fail_if_success (with_reducible show wpAny _ _ (pyIter _) _ _ _)); (fail_if_success (with_reducible show wpAny _ _ (exec (Stmt.For _ _ _ _ _) _) _ _ _)); (fail_if_success (with_reducible show wpAny _ _ (eval (Expr.ListComp _ _ _ _) _) _ _ _)); (fail_if_success (with_reducible show wpAny _ _ (eval (Expr.BoolOp _ _ _) _) _ _ _)); (fail_if_success (with_reducible show wpAny _ _ (call (Value.builtin "list.append") _) _ _ _)); (fail_if_success (with_reducible show wpAny _ _ (subscriptTail _ _ (Value.ref _) (Value.int (-1) _)) _ _ _)); first | (((with_reducible show wpAny _ _ (subscriptTail _ _ (Value.ref _) (Value.int _ _)) _ _ _); (refine itemL (ilK (by k_asm) (by with_reducible assumption)) (by omega) (by omega) (by with_reducible assumption) ?_))) | (((with_reducible show wpAny _ _ (eval (Expr.Name _ _) (compEnvC _ _ _ _)) _ _ _); first | (refine' nameC_L ?mzF ?mzv ?mza ?mzb ?_; (case mzF => k_asm); (case mza => with_unfolding_all rfl); (case mzb => with_unfolding_all rfl); (case mzv => rfl)) | (refine' nameC_C (goK (by k_asm) (by with_reducible assumption)) (by with_reducible assumption) ?mzc ?mza ?mzb ?_; (case mza => with_unfolding_all rfl); (case mzb => with_unfolding_all rfl); (case mzc => with_unfolding_all rfl)))) | walk_at "mine list" | (first | ((with_reducible show wpAny _ _ (eval (Expr.Constant (Const.int _) _ _) _) _ _ _); refine wpAny_Constant_int ?_; (try dsimp only)) | ((with_reducible show wpAny _ _ (unaryOp _ _) _ _ _); walk1; (try dsimp only)) | ((with_reducible show wpAny _ _ (truthy _) _ _ _); walk1; (try dsimp only)) | ((with_reducible show wpAny _ _ (binaryOp _ (Value.int _ _) (Value.int _ _)) _ _ _); walk1; (try dsimp only))) | (first | ((with_reducible show wpAny _ _ (callWith _ (Value.builtin "list.append", _).fst _ _ _) _ _ _); refine callWith_method1 ?_) | ((with_reducible show wpAny _ _ (spliced (backTo _ (starEach (_ :: _) _))) _ _ _); refine spliced_more ?_)) | (k_unfold; (try dsimp only)) | walk1 | (dsimp only; walk1)))
          refine' comp_list (cl := []) ?s1 ?s2 ?s3 ?s4 ?s5 ?s6 ?_
          (((case s1 => with_unfolding_all rfl); (case s2 => decide); (case s3 => with_unfolding_all rfl); (case s4 => decide); (case s5 => with_unfolding_all rfl); (case s6 => with_unfolding_all rfl)))
          (repeat' ((fail_if_success (with_reducible show wpAny _ _ (eval (Expr.BinOp _ Operator.Mult _ _) _) _ _ _)); (fail_if_success (with_reducible show wpAny _ _ (pyIter _) _ _ _)); (fail_if_success (with_reducible show wpAny _ _ (exec (Stmt.For _ _ _ _ _) _) _ _ _)); (fail_if_success (with_reducible show wpAny _ _ (eval (Expr.ListComp _ _ _ _) _) _ _ _)); (fail_if_success (with_reducible show wpAny _ _ (eval (Expr.BoolOp _ _ _) _) _ _ _)); (fail_if_success (with_reducible show wpAny _ _ (call (Value.builtin "list.append") _) _ _ _)); (fail_if_success (with_reducible show wpAny _ _ (subscriptTail _ _ (Value.ref _) (Value.int (-1) _)) _ _ _)); first | (((with_reducible show wpAny _ _ (subscriptTail _ _ (Value.ref _) (Value.int _ _)) _ _ _); (refine itemL (ilK (by k_asm) (by with_reducible assumption)) (by omega) (by omega) (by with_reducible assumption) ?_))) | (((with_reducible show wpAny _ _ (eval (Expr.Name _ _) (compEnvC _ _ _ _)) _ _ _); first | (refine' nameC_L ?mzF ?mzv ?mza ?mzb ?_; (case mzF => k_asm); (case mza => with_unfolding_all rfl); (case mzb => with_unfolding_all rfl); (case mzv => rfl)) | (refine' nameC_C (goK (by k_asm) (by with_reducible assumption)) (by with_reducible assumption) ?mzc ?mza ?mzb ?_; (case mza => with_unfolding_all rfl); (case mzb => with_unfolding_all rfl); (case mzc => with_unfolding_all rfl)))) | walk_at "mine list" | (first | ((with_reducible show wpAny _ _ (eval (Expr.Constant (Const.int _) _ _) _) _ _ _); refine wpAny_Constant_int ?_; (try dsimp only)) | ((with_reducible show wpAny _ _ (unaryOp _ _) _ _ _); walk1; (try dsimp only)) | ((with_reducible show wpAny _ _ (truthy _) _ _ _); walk1; (try dsimp only)) | ((with_reducible show wpAny _ _ (binaryOp _ (Value.int _ _) (Value.int _ _)) _ _ _); walk1; (try dsimp only))) | (first | ((with_reducible show wpAny _ _ (callWith _ (Value.builtin "list.append", _).fst _ _ _) _ _ _); refine callWith_method1 ?_) | ((with_reducible show wpAny _ _ (spliced (backTo _ (starEach (_ :: _) _))) _ _ _); refine spliced_more ?_)) | (k_unfold; (try dsimp only)) | walk1 | (dsimp only; walk1)))
          show ∃ _, _
          dsimp only
          refine ⟨ln, us3.toArray, fun i ys _ => AreM NameM front ys ((acc.take i).filter (fun p => !p.isEmpty)), rfl, News.isList N2 (.head _), by rw [List.size_toArray]; omega, ?_, AreM.nil, ?_, ?_⟩
          · intro i ys made hS
            rw [hS.1]
            exact Nat.le_trans (List.length_filter_le _ _) (by rw [List.length_take]; omega)
          · intro I C D i v m₁ ys k9 made9 oI h9 tk9 E' hv hS F9 N9 hmd hDI
            refine wpAny_tests_one ?_
            have hi : i < acc.length := by
              have := (Array.getElem?_eq_some_iff.mp hv).1
              rw [List.size_toArray, hacl] at this; exact this
            have hai := List.getElem?_eq_getElem hi
            obtain ⟨u, hu, b9, us9, k8, rfl, hbm9, hus9⟩ := hac.2 i _ hai
            have hvu : v = .ref b9 := by
              have e1 : us3[i]? = some v := by simpa using hv
              rw [hu] at e1
              exact (Option.some.inj e1).symm
            subst hvu
            generalize acc[i] = x at *
            have hB9 := News.isList N2 (.tail _ hbm9)
            dsimp only at F9 N9 ⊢
            by_cases hx : x = []
            · have hem : (!us9.toArray.isEmpty) = false := by
                have : us9 = [] := List.length_eq_zero_iff.mp (by rw [hus9.1, hx]; rfl)
                rw [this]; rfl
              (repeat' ((fail_if_success (with_reducible show wpAny _ _ (eval (Expr.BinOp _ Operator.Mult _ _) _) _ _ _)); (fail_if_success (with_reducible show wpAny _ _ (pyIter _) _ _ _)); (fail_if_success (with_reducible show wpAny _ _ (exec (Stmt.For _ _ _ _ _) _) _ _ _)); (fail_if_success (with_reducible show wpAny _ _ (eval (Expr.ListComp _ _ _ _) _) _ _ _)); (fail_if_success (with_reducible show wpAny _ _ (eval (Expr.BoolOp _ _ _) _) _ _ _)); (fail_if_success (with_reducible show wpAny _ _ (call (Value.builtin "list.append") _) _ _ _)); (fail_if_success (with_reducible show wpAny _ _ (subscriptTail _ _ (Value.ref _) (Value.int (-1) _)) _ _ _)); first | (((with_reducible show wpAny _ _ (subscriptTail _ _ (Value.ref _) (Value.int _ _)) _ _ _); (refine itemL (ilK (by k_asm) (by with_reducible assumption)) (by omega) (by omega) (by with_reducible assumption) ?_))) | (((with_reducible show wpAny _ _ (eval (Expr.Name _ _) (compEnvC _ _ _ _)) _ _ _); first | (refine' nameC_L ?mzF ?mzv ?mza ?mzb ?_; (case mzF => k_asm); (case mza => with_unfolding_all rfl); (case mzb => with_unfolding_all rfl); (case mzv => rfl)) | (refine' nameC_C (goK (by k_asm) (by with_reducible assumption)) (by with_reducible assumption) ?mzc ?mza ?mzb ?_; (case mza => with_unfolding_all rfl); (case mzb => with_unfolding_all rfl); (case mzc => with_unfolding_all rfl)))) | walk_at "mine list" | (first | ((with_reducible show wpAny _ _ (eval (Expr.Constant (Const.int _) _ _) _) _ _ _); refine wpAny_Constant_int ?_; (try dsimp only)) | ((with_reducible show wpAny _ _ (unaryOp _ _) _ _ _); walk1; (try dsimp only)) | ((with_reducible show wpAny _ _ (truthy _) _ _ _); walk1; (try dsimp only)) | ((with_reducible show wpAny _ _ (binaryOp _ (Value.int _ _) (Value.int _ _)) _ _ _); walk1; (try dsimp only))) | (first | ((with_reducible show wpAny _ _ (callWith _ (Value.builtin "list.append", _).fst _ _ _) _ _ _); refine callWith_method1 ?_) | ((with_reducible show wpAny _ _ (spliced (backTo _ (starEach (_ :: _) _))) _ _ _); refine spliced_more ?_)) | (k_unfold; (try dsimp only)) | walk1 | (dsimp only; walk1)))
              (with_reducible rename News _ _ _ _ => NE)
              exact CE.of (by k_asm) NE (.tail _ (.head _)) (.tail _ (.tail _ (.head _))) (fun q hq => .tail _ (.tail _ (.tail _ hq))) hmd (by show AreM _ _ _ _; rw [filt_no hai hx]; exact hS)
            · have hem : (!us9.toArray.isEmpty) = true := by
                cases us9 with
                | nil => exact absurd (List.length_eq_zero_iff.mp hus9.1.symm) hx
                | cons a l => rfl
              (repeat' ((fail_if_success (with_reducible show wpAny _ _ (eval (Expr.BinOp _ Operator.Mult _ _) _) _ _ _)); (fail_if_success (with_reducible show wpAny _ _ (pyIter _) _ _ _)); (fail_if_success (with_reducible show wpAny _ _ (exec (Stmt.For _ _ _ _ _) _) _ _ _)); (fail_if_success (with_reducible show wpAny _ _ (eval (Expr.ListComp _ _ _ _) _) _ _ _)); (fail_if_success (with_reducible show wpAny _ _ (eval (Expr.BoolOp _ _ _) _) _ _ _)); (fail_if_success (with_reducible show wpAny _ _ (call (Value.builtin "list.append") _) _ _ _)); (fail_if_success (with_reducible show wpAny _ _ (subscriptTail _ _ (Value.ref _) (Value.int (-1) _)) _ _ _)); first | (((with_reducible show wpAny _ _ (subscriptTail _ _ (Value.ref _) (Value.int _ _)) _ _ _); (refine itemL (ilK (by k_asm) (by with_reducible assumption)) (by omega) (by omega) (by with_reducible assumption) ?_))) | (((with_reducible show wpAny _ _ (eval (Expr.Name _ _) (compEnvC _ _ _ _)) _ _ _); first | (refine' nameC_L ?mzF ?mzv ?mza ?mzb ?_; (case mzF => k_asm); (case mza => with_unfolding_all rfl); (case mzb => with_unfolding_all rfl); (case mzv => rfl)) | (refine' nameC_C (goK (by k_asm) (by with_reducible assumption)) (by with_reducible assumption) ?mzc ?mza ?mzb ?_; (case mza => with_unfolding_all rfl); (case mzb => with_unfolding_all rfl); (case mzc => with_unfolding_all rfl)))) | walk_at "mine list" | (first | ((with_reducible show wpAny _ _ (eval (Expr.Constant (Const.int _) _ _) _) _ _ _); refine wpAny_Constant_int ?_; (try dsimp only)) | ((with_reducible show wpAny _ _ (unaryOp _ _) _ _ _); walk1; (try dsimp only)) | ((with_reducible show wpAny _ _ (truthy _) _ _ _); walk1; (try dsimp only)) | ((with_reducible show wpAny _ _ (binaryOp _ (Value.int _ _) (Value.int _ _)) _ _ _); walk1; (try dsimp only))) | (first | ((with_reducible show wpAny _ _ (callWith _ (Value.builtin "list.append", _).fst _ _ _) _ _ _); refine callWith_method1 ?_) | ((with_reducible show wpAny _ _ (spliced (backTo _ (starEach (_ :: _) _))) _ _ _); refine spliced_more ?_)) | (k_unfold; (try dsimp only)) | walk1 | (dsimp only; walk1)))
              (with_reducible rename News _ _ _ _ => NE)
              exact CE.of (by k_asm) NE (.tail _ (.head _)) (.tail _ (.tail _ (.head _))) (fun q hq => .tail _ (.tail _ (.tail _ hq))) hmd (by show AreM _ _ _ _; rw [filt_yes hai hx]; exact AreM.snoc hS ⟨b9, us9, k8, rfl, hbm9, hus9⟩)
          · intro D ys k9 made9 h9 tk9 hS hk hp
            have F9 := F2.grownK hk
            have N9 := news_more F2 N2 hk hp
            rw [List.size_toArray, hacl, List.take_length] at hS
            clear hk hp
            (try dsimp only at F9 N9 ⊢)
            (repeat' ((fail_if_success (with_reducible show wpAny _ _ (eval (Expr.BinOp _ Operator.Mult _ _) _) _ _ _)); (fail_if_success (with_reducible show wpAny _ _ (pyIter _) _ _ _)); (fail_if_success (with_reducible show wpAny _ _ (exec (Stmt.For _ _ _ _ _) _) _ _ _)); (fail_if_success (with_reducible show wpAny _ _ (eval (Expr.ListComp _ _ _ _) _) _ _ _)); (fail_if_success (with_reducible show wpAny _ _ (eval (Expr.BoolOp _ _ _) _) _ _ _)); (fail_if_success (with_reducible show wpAny _ _ (call (Value.builtin "list.append") _) _ _ _)); (fail_if_success (with_reducible show wpAny _ _ (subscriptTail _ _ (Value.ref _) (Value.int (-1) _)) _ _ _)); first | (((with_reducible show wpAny _ _ (subscriptTail _ _ (Value.ref _) (Value.int _ _)) _ _ _); (refine itemL (ilK (by k_asm) (by with_reducible assumption)) (by omega) (by omega) (by with_reducible assumption) ?_))) | (((with_reducible show wpAny _ _ (eval (Expr.Name _ _) (compEnvC _ _ _ _)) _ _ _); first | (refine' nameC_L ?mzF ?mzv ?mza ?mzb ?_; (case mzF => k_asm); (case mza => with_unfolding_all rfl); (case mzb => with_unfolding_all rfl); (case mzv => rfl)) | (refine' nameC_C (goK (by k_asm) (by with_reducible assumption)) (by with_reducible assumption) ?mzc ?mza ?mzb ?_; (case mza => with_unfolding_all rfl); (case mzb => with_unfolding_all rfl); (case mzc => with_unfolding_all rfl)))) | walk_at "mine list" | (first | ((with_reducible show wpAny _ _ (eval (Expr.Constant (Const.int _) _ _) _) _ _ _); refine wpAny_Constant_int ?_; (try dsimp only)) | ((with_reducible show wpAny _ _ (unaryOp _ _) _ _ _); walk1; (try dsimp only)) | ((with_reducible show wpAny _ _ (truthy _) _ _ _); walk1; (try dsimp only)) | ((with_reducible show wpAny _ _ (binaryOp _ (Value.int _ _) (Value.int _ _)) _ _ _); walk1; (try dsimp only))) | (first | ((with_reducible show wpAny _ _ (callWith _ (Value.builtin "list.append", _).fst _ _ _) _ _ _); refine callWith_method1 ?_) | ((with_reducible show wpAny _ _ (spliced (backTo _ (starEach (_ :: _) _))) _ _ _); refine spliced_more ?_)) | (k_unfold; (try dsimp only)) | walk1 | (dsimp only; walk1)))
            (with_reducible rename News _ _ _ _ => NE)
            exact hR _ _ _ _ _ (by k_asm) NE ⟨_, _, tr, D, rfl, .head _, rfl, D, ys, k9, rfl, .tail _ (List.mem_append_right _ (.head _)), hS.mono fun u x hu => NameM.mono (fun q hq => .tail _ (List.mem_append_left _ (.tail _ hq))) hu⟩
end Mine
end

section
open PySem PySem.W PyProof.Rows PySem.Calls PyProof
set_option maxRecDepth 100000
set_option maxHeartbeats 0
namespace Mine
section
variable {prog : Program} {w : World} {A : Around} {E : Value → Shared → Prop} {s : Shared} {env : Env}
/-- a comprehension over a list, kept under a name of the frame -/
theorem comp_listA {elt iter : PySem.Expr} {x : Str} {px : Pos} {ifs : List PySem.Expr} {scope : Scope} {cl : List (Str × Addr)} {y : Str} {py pos spos : Pos} {Q : Flow → Shared → Prop}
    (hsw : swapsWith (.ListComp elt [⟨.Name x px, iter, ifs, 0⟩] scope pos) (some (.Name y py)) spos.line env = pure true) (hy : env.kindOf y = some .local) (hp : (env.scope.kind == .class || (env.scope.kind == .module && env.locals != env.globals)) = false)
    (hclos : closureFor scope env = pure cl) (hcell : ∀ y ∈ scope.names, y.2 ≠ .cell) (hkind : scope.kind = .function)
    (hnames : ∀ y ∈ scope.names, y.2 = .local → scope.names.lookup y.1 = some .local) (hx : scope.names.lookup x = some .local) (hh : A.handled = none)
    (h : wpAny (model prog w) A (eval iter env) (fun xv s₁ => Hold (∃ (ax : Addr) (items : Array Value) (S : Nat → List Value → List (Addr × Obj) → Prop) (hb : Heap) (mL : Str → Option Value) (newsL : List (Addr × Obj)), Fr hb env.locals s₁.heap mL ∧ News hb env.locals s₁.heap newsL ∧ xv = .ref ax ∧ s₁.heap.IsList ax items ∧ items.size ≤ 10000 ∧ (∀ i ys made, S i ys made → ys.length ≤ i) ∧ S 0 [] [] ∧
      (∀ (I C D : Addr) (i : Nat) (v : Value) (m₁ : Str → Option Value) (ys : List Value) (k : Nat) (made : List (Addr × Obj)) (oI : Obj) (h : Heap) (tk : Nat) (E' : Value → Shared → Prop), items[i]? = some v → S i ys made → Fr s₁.heap C h (fun y => if y = x then some v else m₁ y) → News s₁.heap C h ((D, W.listOf ys.toArray k) :: (I, oI) :: made) → (∀ p ∈ made, p.1 ≠ D ∧ p.1 ≠ I) → D ≠ I →
        wpAny (model prog w) A (forIn ifs true fun c r => if r = true then do let ok ← isTrue c (compEnvC scope cl C env) (eval c (compEnvC scope cl C env)); pure (ForInStep.yield ok) else pure (ForInStep.yield r)) (fun ok s₃ =>
          if ok = true then wpAny (model prog w) A (eval elt (compEnvC scope cl C env)) (fun y s₄ => CE s₁.heap C D I oI ys k (S (i + 1)) { s₁ with heap := h, toks := tk } (ys ++ [y]) s₄) E' s₃
          else CE s₁.heap C D I oI ys k (S (i + 1)) { s₁ with heap := h, toks := tk } ys s₃) E' { s₁ with heap := h, toks := tk }) ∧
      (∀ D ys k made h tk, S items.size ys made → Fr hb env.locals h (fun z => if z = y then some (.ref D) else mL z) → News hb env.locals h (newsL ++ (D, W.listOf ys.toArray k) :: made) → Q .next { s₁ with heap := h, toks := tk }))) E s)
    (hs : ∀ x, foldedSetIterable iter env x = pure x := by intro _; rfl) :
    wpAny (model prog w) A (exec (.Assign [.Name y py] (.ListComp elt [⟨.Name x px, iter, ifs, 0⟩] scope pos) spos) env) Q E s := by
  refine comp_walkA hsw hy hp hclos hcell hkind hnames hx (wpAny_mono h (fun xv s₁ h₁ => ?_) fun _ _ e => e) hs
  obtain ⟨ax, items, S, hb, mL, newsL, FL, NL, rfl, hl, hlen, hys, h0, turn, done⟩ := h₁
  obtain ⟨ol, hol, _⟩ := id hl
  have hne : ax ≠ s₁.heap.objs.size := Nat.ne_of_lt (Heap.lt_size hol)
  refine wpAny_pyIter_list hl ?_
  refine ⟨s₁.heap.objs.size, _, _, _, _, s₁.heap, S, hb, mL, newsL, FL, NL, rfl, Walks.list hh s₁.heap.objs.size ax hne items, ?_, ?_, objs_none _, hlen, hys, ⟨⟨_, Heap.get?_push_size _ rfl, rfl, rfl⟩, hl.at fun o e => Heap.get?_push_of_some _ e⟩, h0, fun b o e => Heap.get?_push_of_some _ e, ?_, ?_, ?_⟩
  · rintro i h ⟨⟨o, ho, _⟩, _⟩; exact ⟨o, ho⟩
  · intro b hb
    rcases List.mem_cons.mp hb with rfl | hb
    · exact .inl rfl
    · exact .inr ⟨ol, by rw [List.mem_singleton.mp hb]; exact hol⟩
  · show s₁.heap.objs.size ≤ (s₁.heap.push _).objs.size
    rw [Heap.size_push]; exact Nat.le_succ _
  · intro C D i v m₁ ys k made oI h tk E' hi hP hS F N hm hD
    exact turn _ C D i v m₁ ys k made oI h tk E' hP hS F N hm hD
  · intro D ys k made h tk hS F N
    exact done D ys k made h tk hS F N
/-- a comprehension over a text's signs -/
theorem comp_str {elt iter : PySem.Expr} {x : Str} {px : Pos} {scope : Scope} {cl : List (Str × Addr)} {pos : Pos} {Q : Value → Shared → Prop}
    (hclos : closureFor scope env = pure cl) (hcell : ∀ y ∈ scope.names, y.2 ≠ .cell) (hkind : scope.kind = .function)
    (hnames : ∀ y ∈ scope.names, y.2 = .local → scope.names.lookup y.1 = some .local) (hx : scope.names.lookup x = some .local) (hh : A.handled = none)
    (h : wpAny (model prog w) A (eval iter env) (fun xv s₁ => Hold (∃ (z : Str) (tz : Tok) (S : Nat → List Value → List (Addr × Obj) → Prop), xv = .str z tz ∧ z.length ≤ 10000 ∧ (∀ i ys made, S i ys made → ys.length ≤ i) ∧ S 0 [] [] ∧
      (∀ (I C D : Addr) (i c : Nat) (t : Tok) (m₁ : Str → Option Value) (ys : List Value) (k : Nat) (made : List (Addr × Obj)) (oI : Obj) (h : Heap) (tk : Nat) (E' : Value → Shared → Prop), (cs z)[i]? = some c → S i ys made → Fr s₁.heap C h (fun y => if y = x then some (.str ⟨#[c]⟩ t) else m₁ y) → News s₁.heap C h ((D, W.listOf ys.toArray k) :: (I, oI) :: made) → (∀ p ∈ made, p.1 ≠ D ∧ p.1 ≠ I) → D ≠ I →
        wpAny (model prog w) A (eval elt (compEnvC scope cl C env)) (fun y s₄ => CE s₁.heap C D I oI ys k (S (i + 1)) { s₁ with heap := h, toks := tk } (ys ++ [y]) s₄) E' { s₁ with heap := h, toks := tk }) ∧
      (∀ D ys k made h tk, S z.length ys made → (∀ b o, s₁.heap.get? b = some o → h.get? b = some o) → (∀ p ∈ (D, W.listOf ys.toArray k) :: made, h.get? p.1 = some p.2 ∧ s₁.heap.get? p.1 = none) → Q (.ref D) { s₁ with heap := h, toks := tk }))) E s)
    (hs : ∀ x, foldedSetIterable iter env x = pure x := by intro _; rfl) :
    wpAny (model prog w) A (eval (.ListComp elt [⟨.Name x px, iter, [], 0⟩] scope pos) env) Q E s := by
  refine comp_walk hclos hcell hkind hnames hx (wpAny_mono h (fun xv s₁ h₁ => ?_) fun _ _ e => e) hs
  obtain ⟨z, tz, S, rfl, hlen, hys, h0, turn, done⟩ := h₁
  cases ha : z.cps.all (· < 128)
  · refine wpAny_pyIter_wide ha ?_
    refine ⟨s₁.heap.objs.size, _, _, _, _, s₁.heap, S, rfl, Walks.strWide hh _ z tz, (fun i h st => let ⟨o, ho, _⟩ := st; ⟨o, ho⟩), ?_, objs_none _, hlen, hys, ⟨_, Heap.get?_push_size _ rfl, rfl, rfl⟩, h0, fun b o e => Heap.get?_push_of_some _ e, ?_, ?_, ?_⟩
    · intro b hb
      exact .inl (List.mem_singleton.mp hb)
    · show s₁.heap.objs.size ≤ (s₁.heap.push _).objs.size
      rw [Heap.size_push]; exact Nat.le_succ _
    · rintro C D i v m₁ ys k made oI h tk E' hi ⟨c, t, hc, rfl⟩ hS F N hm hD
      refine wpAny_tests_nil ?_
      refine W.ite_pos rfl ?_
      exact turn _ C D i c t m₁ ys k made oI h tk E' (by simpa using hc) hS F N hm hD
    · intro D ys k made h tk hS hk hp
      exact done D ys k made h tk hS hk hp
  · refine wpAny_pyIter_ascii ha ?_
    refine ⟨s₁.heap.objs.size, _, _, _, _, s₁.heap, S, rfl, Walks.strAscii hh _ z tz, (fun i h st => let ⟨o, ho, _⟩ := st; ⟨o, ho⟩), ?_, objs_none _, hlen, hys, ⟨_, Heap.get?_push_size _ rfl, rfl, rfl⟩, h0, fun b o e => Heap.get?_push_of_some _ e, ?_, ?_, ?_⟩
    · intro b hb
      exact .inl (List.mem_singleton.mp hb)
    · show s₁.heap.objs.size ≤ (s₁.heap.push _).objs.size
      rw [Heap.size_push]; exact Nat.le_succ _
    · rintro C D i v m₁ ys k made oI h tk E' hi ⟨c, t, hc, rfl⟩ hS F N hm hD
      refine wpAny_tests_nil ?_
      refine W.ite_pos rfl ?_
      exact turn _ C D i c t m₁ ys k made oI h tk E' (by simpa using hc) hS F N hm hD
    · intro D ys k made h tk hS hk hp
      exact done D ys k made h tk hS hk hp
end
end Mine
end

section
open PySem PySem.W PyProof.Rows PySem.Calls PyProof
set_option maxRecDepth 100000
set_option maxHeartbeats 0
namespace Mine
theorem encLine_cs (y : Str) : cs (encLine y) = encL (cs y) := by
  unfold encLine encL
  show cs (match (cs y).getLast? with | some 32 => _ | some 9 => _ | _ => _) = _
  split <;> simp_all
theorem bodyF_cs (x : Str) (h : ∀ c ∈ cs x, c < 256 ∧ c ≠ 13) : cs (bodyF x) = wr e2 (toksOf (cs x)) := by
  unfold bodyF
  by_cases h0 : x.length = 0
  · rw [if_pos h0]
    have : cs x = [] := cs_nil.mpr h0
    rw [this]; rfl
  · rw [if_neg h0]
    have hne : cs x ≠ [] := fun q => h0 (cs_nil.mp q)
    have hb := lb_btab (l := cs x) h
    have h13 : ¬ (cs (bodyT x)).getLast? = some 13 := by
      intro q
      rw [bodyT_cs] at q
      obtain ⟨c, hc, hm⟩ := List.mem_flatMap.mp (List.mem_of_getLast? q)
      have h1 := h c hc
      have := btab_chars h1.1 hm
      omega
    rw [join_glueS (s := 10) (by decide), List.map_append, List.map_map, ← body_ok _ hne, bodyL]
    have e1 : (Txt.lines (bodyT x)).map (cs ∘ encLine) = (linesL ((cs x).flatMap btab)).map encL := by
      rw [← bodyT_cs, ← lines_list (bodyT x) (by rw [bodyT_cs]; exact hb), List.map_map]
      apply List.map_congr_left
      intro a _
      exact encLine_cs a
    rw [e1]
    congr 2
    by_cases h10 : (cs (bodyT x)).getLast? = some 10
    · rw [if_pos (.inl h10), if_pos (by rw [← bodyT_cs]; exact h10)]
      simp [cs_emp]
    · rw [if_neg (by rintro (q | q); exact h10 q; exact h13 q), if_neg (by rw [← bodyT_cs]; exact h10)]
      rfl
/-- header_encode's text without the signs around it -/
theorem head_slice {ns : List Nat} {x : Str} (hx : x = if ns.length = 0 then Str.ofString "" else Str.ofString "=?q?q?" ++ (⟨(trF hT ns).toArray⟩ : Str) ++ Str.ofString "?=") : Txt.slice x (some 6) (some (-2)) = ⟨(ns.flatMap htab).toArray⟩ := by
  apply cs_inj.mp
  have hl := cs_len x
  by_cases h0 : ns.length = 0
  · rw [if_pos h0] at hx
    have hn : ns = [] := List.length_eq_zero_iff.mp h0
    rw [hx, hn]; decide
  · rw [if_neg h0] at hx
    have e1 : cs (Str.ofString "=?q?q?") = [61, 63, 113, 63, 113, 63] := by decide
    have e2 : cs (Str.ofString "?=") = [63, 61] := by decide
    have hcs : cs x = [61, 63, 113, 63, 113, 63] ++ ns.flatMap htab ++ [63, 61] := by
      rw [hx, cs_app, cs_app, e1, e2]; rfl
    rw [slice_cs, hcs]
    have hlen : x.length = (ns.flatMap htab).length + 8 := by rw [← hl, hcs]; simp
    have ea : clipN (some 6) 0 x.length = 6 := by unfold clipN; simp only []; split <;> omega
    have eb : clipN (some (-2)) x.length x.length = (ns.flatMap htab).length + 6 := by unfold clipN; simp only []; split <;> omega
    rw [ea, eb, show (ns.flatMap htab).length + 6 - 6 = (ns.flatMap htab).length by omega]
    show (ns.flatMap htab ++ [63, 61]).take _ = _
    rw [List.take_left]
theorem byteArr_nat {p : List Nat} (h : ∀ c ∈ p, c < 256) : (byteArr (p.map fun n : Nat => (n : Int))).toList.map (·.toNat) = p := by
  unfold byteArr
  rw [List.map_map, List.map_map]
  show p.map _ = p
  conv => rhs; rw [← List.map_id p]
  apply List.map_congr_left
  intro c hc
  show (((c : Int).toNat).toUInt8).toNat = c
  rw [Int.toNat_natCast]
  exact Nat.mod_eq_of_lt (h c hc)
theorem head_text {p : List Nat} (h : ∀ c ∈ p, c < 256) {x : Str} (hx : x = if (byteArr (p.map fun n : Nat => (n : Int))).size = 0 then Str.ofString "" else Str.ofString "=?q?q?" ++ (⟨(trF hT ((byteArr (p.map fun n : Nat => (n : Int))).toList.map (·.toNat))).toArray⟩ : Str) ++ Str.ofString "?=") : Txt.slice x (some 6) (some (-2)) = ⟨(p.flatMap htab).toArray⟩ := by
  refine head_slice (ns := p) ?_
  rw [hx, byteArr_nat h, byteArr_size, List.length_map]
theorem bareEnd_le (n : Nat) (ns : List (List Tk)) : bareEnd ns ≤ (pathT n ns).length := by
  have h := bares_path n ns
  unfold bareEnd
  rw [← h]
  exact bares_le _
theorem law_cut {ps : List (List Nat)} (_P : PF ps) : bareEnd (stOf ps) ≤ (toldL ps).length := by
  rw [toldL, textP, ← wordOf_wr, wordOf, List.length_map]
  exact bareEnd_le _ _
theorem ones_join (p : List Nat) : Txt.join (Str.ofString "") (p.map fun c => (⟨#[c]⟩ : Str)) = ⟨p.toArray⟩ := by
  have e : Str.ofString "" = ⟨#[]⟩ := by decide
  rw [e, join_nil]
  congr 2
  induction p with
  | nil => rfl
  | cons t l ih => rw [List.map_cons, List.flatMap_cons, ih]; rfl
theorem ones_len : ∀ p : List Nat, ((p.map fun c => (⟨#[c]⟩ : Str)).map (·.length)).sum = p.length
  | [] => rfl
  | t :: l => by
    have := ones_len l
    simp only [List.map_cons, List.sum_cons, List.length_cons, this]
    show 1 + l.length = _
    omega
theorem root_len0 {root : Str} {n : Nat} (h : cs root = rootL n) : (root.length != 0) = (n != 0) := by
  rw [← cs_len, h]; exact rootL_len n
theorem root_len {root : Str} {n : Nat} (h : cs root = rootL n) : root.length ≤ 10 := by
  rw [← cs_len, h]; unfold rootL; split; simp; split <;> simp
theorem told_eq {root : Str} {ps : List (List Nat)} (h : cs root = rootL (leadOf ps)) : textL (cs root) (stOf ps) = toldL ps := by rw [h]; rfl
theorem kept_eq {root : Str} {ps : List (List Nat)} (h : cs root = rootL (leadOf ps)) : textL (cs root) (nsOf ps) = keptL ps := by rw [h]; rfl
theorem strs_cons {vs : List Value} {x : Str} {xs : List Str} (h : StrsAre vs (x :: xs)) : ∃ t us, vs = .str x t :: us ∧ StrsAre us xs := by
  cases h with
  | cons _ t h => exact ⟨t, _, rfl, h⟩
theorem map_open {ps : List (List Nat)} (h : ps ≠ []) (f : List Nat → Str) : ∃ x xs, ps.map f = x :: xs := by
  cases ps with
  | nil => exact absurd rfl h
  | cons p ps => exact ⟨f p, ps.map f, rfl⟩
theorem map_bound {ps : List (List Nat)} (P : PF ps) {f : List Nat → Str} (hf : ∀ p ∈ ps, (f p).length ≤ 3 * p.length) {x : Str} {xs : List Str} (hx : ps.map f = x :: xs) : x.length + (xs.map (·.length)).sum + xs.length ≤ 400 := by
  have h1 : ∀ l : List (List Nat), (∀ p ∈ l, (f p).length ≤ 3 * p.length) → ((l.map f).map (·.length)).sum + (l.map f).length ≤ 3 * ptot l := by
    intro l
    induction l with
    | nil => intro _; exact Nat.le_refl _
    | cons p l ih =>
      intro h
      have ih := ih fun q hq => h q (.tail _ hq)
      have hp := h p (.head _)
      have e : ptot (p :: l) = p.length + 1 + ptot l := by simp [ptot]
      simp only [List.map_cons, List.sum_cons, List.length_cons] at ih ⊢
      rw [e]; omega
  have h2 := h1 ps hf
  rw [hx] at h2
  have h3 := P.sum
  simp only [List.map_cons, List.sum_cons, List.length_cons] at h2
  omega
theorem join_bound {x : Str} {xs : List Str} (h : x.length + (xs.map (·.length)).sum + xs.length ≤ 400) : (joinF x xs).length ≤ 1000 := Nat.le_trans (joinF_len xs x) (by omega)
theorem raw_cs {ps : List (List Nat)} {x : Str} {xs : List Str} (hx : (ps.map fun p => (⟨p.toArray⟩ : Str)) = x :: xs) : (x :: xs).map cs = ps := by
  rw [← hx, List.map_map]
  conv => rhs; rw [← List.map_id ps]
  rfl
theorem body_len3 {p : List Nat} (h : ∀ c ∈ p, c < 256 ∧ c ≠ 13) : (bodyF ⟨p.toArray⟩).length ≤ 3 * p.length := by
  rw [← cs_len, bodyF_cs _ (by show ∀ c ∈ p, _; exact h)]
  refine Nat.le_trans (wr_le e2_le _) ?_
  show 3 * (toksOf p).length ≤ _
  rw [toks_len]; exact Nat.le_refl _
theorem body_map {ps : List (List Nat)} (P : PF ps) {x : Str} {xs : List Str} (hx : (ps.map fun p => bodyF ⟨p.toArray⟩) = x :: xs) : (x :: xs).map cs = ps.map fun p => wr e2 (toksOf p) := by
  rw [← hx, List.map_map]
  apply List.map_congr_left
  intro p hp
  exact bodyF_cs ⟨p.toArray⟩ (by show ∀ c ∈ p, _; exact P.ok p hp)
theorem head_len3 (p : List Nat) : ((⟨(p.flatMap htab).toArray⟩ : Str)).length ≤ 3 * p.length := by
  rw [← cs_len]
  exact wr_le (e := htab) (fun a => e3_le (a, false)) p
theorem head_map {ps : List (List Nat)} {x : Str} {xs : List Str} (hx : (ps.map fun p => (⟨(p.flatMap htab).toArray⟩ : Str)) = x :: xs) : (x :: xs).map cs = ps.map fun p => p.flatMap htab := by
  rw [← hx, List.map_map]; rfl
theorem dec_cut {told : Str} {ps : List (List Nat)} (P : PF ps) (htc : cs told = toldL ps) : ((⟨((toldL ps).take ((toldL ps).length - ((stOf ps).getLast?.map bares).getD 0)).toArray⟩ : Str) != Txt.slice told none (some (((told.length : Nat) : Int) - ((bareEnd (stOf ps) : Nat) : Int)))) = false := by
  have h1 := law_cut P
  have h2 : told.length = (toldL ps).length := by rw [← cs_len, htc]
  have e : ((told.length : Nat) : Int) - ((bareEnd (stOf ps) : Nat) : Int) = ((told.length - bareEnd (stOf ps) : Nat) : Int) := by omega
  rw [bne_eq_false_iff_eq, e]
  apply cs_inj.mp
  rw [slice_upto, htc, h2]
  rfl
theorem henc_len {p : List Nat} (h : ∀ c ∈ p, c < 256) (hl : p.length ≤ 85) : (if (byteArr (p.map fun n : Nat => (n : Int))).size = 0 then Str.ofString "" else Str.ofString "=?q?q?" ++ (⟨(trF hT ((byteArr (p.map fun n : Nat => (n : Int))).toList.map (·.toNat))).toArray⟩ : Str) ++ Str.ofString "?=").length ≤ 400 := by
  rw [byteArr_nat h]
  split
  · decide
  · rw [← cs_len, cs_app, cs_app]
    have e1 : (cs (Str.ofString "=?q?q?")).length = 6 := by decide
    have e2 : (cs (Str.ofString "?=")).length = 2 := by decide
    have e3 : (cs (⟨(trF hT p).toArray⟩ : Str)).length ≤ 3 * p.length := wr_le (e := htab) (fun a => e3_le (a, false)) p
    rw [List.length_append, List.length_append, e1, e2]
    omega
theorem wjoin (p : List Nat) : Txt.join (Str.ofString "") (p.map fun c => (⟨(htab c).toArray⟩ : Str)) = ⟨(p.flatMap htab).toArray⟩ := by
  have e : Str.ofString "" = ⟨#[]⟩ := by decide
  rw [e, join_nil]
  congr 2
  induction p with
  | nil => rfl
  | cons t l ih => rw [List.map_cons, List.flatMap_cons, ih]; rfl
theorem wsum (p : List Nat) : ((p.map fun c => (⟨(htab c).toArray⟩ : Str)).map (·.length)).sum ≤ 3 * p.length := by
  have := sum_le 3 (p.map fun c => (⟨(htab c).toArray⟩ : Str)) (fun a ha => by
    obtain ⟨c, _, rfl⟩ := List.mem_map.mp ha
    rw [← cs_len]
    exact e3_le (c, false))
  rw [List.length_map] at this
  exact this
end Mine
end

section
open PySem PySem.W PyProof.Rows PySem.Calls PyProof
set_option maxRecDepth 100000
set_option maxHeartbeats 0
namespace Mine
theorem kfillM8 : Challenge.rw_pd0176_01.name = Challenge.rw_pd0176_01.name ∨ ∀ P, MineHd.K P = MineHd.K P := by
  k_fill
  exact .inl rfl
local macro_rules | `(tactic| walk_at "call builtin:str.join") => `(tactic| (refine join_listW (by with_reducible assumption) (by with_reducible assumption) (by decide) (by with_reducible assumption) ?_; intro t' k'; (try dsimp only)))
theorem law_fn (w : World) (a : Addr) (vs : List Value) (ks : List Int) (hks : IntsAre vs ks) (hlen : ks.length ≤ 63) : Fn w 600 265 [.ref a] (fun h => h.IsList a vs.toArray) (fun _ v => v = .bool true) := by
  w_on
  refine' enter_fn [(Str.ofString "script", .ref a)] ?k6 ?k7 ?k8 ?k9 ?kB ?c2 ?c3 ?c4 ?c5 ?_
  (((case k6 => k_is); (case k7 => k_is); (case k8 => decide); (case k9 => first | (intro _ _; exact BindsTo.of_eq rfl) | (intro _ X9; exact binds_K X9 rfl (by k_is) rfl rfl rfl)); (case c5 => decide); (case kB => exact locs rfl); (case c2 => exact rfl); (case c3 => exact rfl); (case c4 => exact rfl)))
  intro s h₁ L tk mean mg mb Q X T hA F N hR
  have hA1 := ilK F hA
  (repeat' ((fail_if_success (with_reducible show wpAny _ _ (eval (Expr.ListComp _ _ _ _) _) _ _ _)); (fail_if_success (with_reducible show wpAny _ _ (exec (Stmt.Assign [_] (Expr.ListComp _ _ _ _) _) _) _ _ _)); (fail_if_success (with_reducible show wpAny _ _ (call (Value.ref _) _) _ _ _)); (fail_if_success (with_reducible show wpAny _ _ (call (Value.type "bytes") _) _ _ _)); first | (((with_reducible show wpAny _ _ (eval (Expr.Name _ _) (compEnvC _ _ _ _)) _ _ _); first | (refine' nameC_L ?mzF ?mzv ?mza ?mzb ?_; (case mzF => k_asm); (case mza => with_unfolding_all rfl); (case mzb => with_unfolding_all rfl); (case mzv => rfl)) | (refine' nameC_K ?mzF ?mzX ?mzT ?mze ?mza ?mzb ?mzc ?_; (case mzF => k_asm); (case mzX => k_asm); (case mzT => k_asm); (case mza => with_unfolding_all rfl); (case mzb => with_unfolding_all rfl); (case mzc => with_unfolding_all rfl); (case mze => k_is)) | (refine' nameC_B ?mzF ?mzX ?mzT ?mze ?mzv ?mzn ?mza ?mzb ?mzc ?mzd ?_; (case mzF => k_asm); (case mzX => k_asm); (case mzT => k_asm); (case mza => with_unfolding_all rfl); (case mzb => with_unfolding_all rfl); (case mzc => with_unfolding_all rfl); (case mzd => with_unfolding_all rfl); (case mze => k_is); (case mzv => boot_fast); (case mzn => decide)))) | (k_unfold; (try dsimp only)) | walk1 | (dsimp only; walk1)))
  refine' use_fnM (parts_spec w a vs ks hks hlen) ?F ?N ?X ?T rfl ?d rfl ?u ?pre ?_
  walk_at "mine use"
  case pre => exact hA1
  intro v1 h1 tk1 made1 F1 N1 hk1 hv1
  obtain ⟨ap, pvs, kp, rfl, hmp, harp⟩ := hv1
  have P : PF (partsOf ([0, 5, 6, 1, 3] ++ ks.take 16)) := by
    have h := parts_facts (ks.take 16) (by rw [List.length_take]; omega)
    exact ⟨h.1, h.2.1, h.2.2⟩
  generalize partsOf ([0, 5, 6, 1, 3] ++ ks.take 16) = ps at *
  have hpvl := harp.1
  have hpl := P.len
  clear N F hk1 hA1
  (try dsimp only)
  (repeat' ((fail_if_success (with_reducible show wpAny _ _ (eval (Expr.ListComp _ _ _ _) _) _ _ _)); (fail_if_success (with_reducible show wpAny _ _ (exec (Stmt.Assign [_] (Expr.ListComp _ _ _ _) _) _) _ _ _)); (fail_if_success (with_reducible show wpAny _ _ (call (Value.ref _) _) _ _ _)); (fail_if_success (with_reducible show wpAny _ _ (call (Value.type "bytes") _) _ _ _)); first | (((with_reducible show wpAny _ _ (eval (Expr.Name _ _) (compEnvC _ _ _ _)) _ _ _); first | (refine' nameC_L ?mzF ?mzv ?mza ?mzb ?_; (case mzF => k_asm); (case mza => with_unfolding_all rfl); (case mzb => with_unfolding_all rfl); (case mzv => rfl)) | (refine' nameC_K ?mzF ?mzX ?mzT ?mze ?mza ?mzb ?mzc ?_; (case mzF => k_asm); (case mzX => k_asm); (case mzT => k_asm); (case mza => with_unfolding_all rfl); (case mzb => with_unfolding_all rfl); (case mzc => with_unfolding_all rfl); (case mze => k_is)) | (refine' nameC_B ?mzF ?mzX ?mzT ?mze ?mzv ?mzn ?mza ?mzb ?mzc ?mzd ?_; (case mzF => k_asm); (case mzX => k_asm); (case mzT => k_asm); (case mza => with_unfolding_all rfl); (case mzb => with_unfolding_all rfl); (case mzc => with_unfolding_all rfl); (case mzd => with_unfolding_all rfl); (case mze => k_is); (case mzv => boot_fast); (case mzn => decide)))) | (k_unfold; (try dsimp only)) | walk1 | (dsimp only; walk1)))
  (with_reducible rename News _ _ _ _ => N2)
  (with_reducible rename Fr _ _ _ _ => F2)
  refine' comp_listA (cl := []) ?a1 ?a2 ?a3 ?s1 ?s2 ?s3 ?s4 ?s5 ?s6 ?_
  case a1 => with_unfolding_all rfl
  case a2 => with_unfolding_all rfl
  case a3 => with_unfolding_all rfl
  (((case s1 => with_unfolding_all rfl); (case s2 => decide); (case s3 => with_unfolding_all rfl); (case s4 => decide); (case s5 => with_unfolding_all rfl); (case s6 => with_unfolding_all rfl)))
  (repeat' ((fail_if_success (with_reducible show wpAny _ _ (eval (Expr.ListComp _ _ _ _) _) _ _ _)); (fail_if_success (with_reducible show wpAny _ _ (exec (Stmt.Assign [_] (Expr.ListComp _ _ _ _) _) _) _ _ _)); (fail_if_success (with_reducible show wpAny _ _ (call (Value.ref _) _) _ _ _)); (fail_if_success (with_reducible show wpAny _ _ (call (Value.type "bytes") _) _ _ _)); first | (((with_reducible show wpAny _ _ (eval (Expr.Name _ _) (compEnvC _ _ _ _)) _ _ _); first | (refine' nameC_L ?mzF ?mzv ?mza ?mzb ?_; (case mzF => k_asm); (case mza => with_unfolding_all rfl); (case mzb => with_unfolding_all rfl); (case mzv => rfl)) | (refine' nameC_K ?mzF ?mzX ?mzT ?mze ?mza ?mzb ?mzc ?_; (case mzF => k_asm); (case mzX => k_asm); (case mzT => k_asm); (case mza => with_unfolding_all rfl); (case mzb => with_unfolding_all rfl); (case mzc => with_unfolding_all rfl); (case mze => k_is)) | (refine' nameC_B ?mzF ?mzX ?mzT ?mze ?mzv ?mzn ?mza ?mzb ?mzc ?mzd ?_; (case mzF => k_asm); (case mzX => k_asm); (case mzT => k_asm); (case mza => with_unfolding_all rfl); (case mzb => with_unfolding_all rfl); (case mzc => with_unfolding_all rfl); (case mzd => with_unfolding_all rfl); (case mze => k_is); (case mzv => boot_fast); (case mzn => decide)))) | (k_unfold; (try dsimp only)) | walk1 | (dsimp only; walk1)))
  show ∃ _, _
  dsimp only
  refine ⟨ap, pvs.toArray, fun i ys _ => StrsAre ys ((ps.take i).map fun p => ⟨p.toArray⟩), _, _, _, F2, N2, rfl, News.isList N2 hmp, by rw [List.size_toArray]; omega, ?_, .nil, ?_, ?_⟩
  · intro i ys made hS
    rw [hS.length, List.length_map, List.length_take]; omega
  · intro I C D i v m₁ ys k made' oI h tk' E' hv hS F3 N3 hmd hDI
    refine wpAny_tests_nil ?_
    refine W.ite_pos rfl ?_
    dsimp only at F3 N3 ⊢
    have X2 := X.keeps F2.keep
    have T2 := T.keeps F2.keep
    have hi : i < ps.length := by
      have := (Array.getElem?_eq_some_iff.mp hv).1
      rw [List.size_toArray, hpvl] at this; exact this
    obtain ⟨u, hu, b, us, k2, rfl, hbm, hus⟩ := harp.2 i ps[i] (List.getElem?_eq_getElem hi)
    have hvu : v = .ref b := by
      have e1 : pvs[i]? = some v := by simpa using hv
      rw [hu] at e1
      exact (Option.some.inj e1).symm
    subst hvu
    have hB := News.isList N2 hbm
    have hp85 := P.mem (List.getElem_mem hi)
    have hpo := P.ok ps[i] (List.getElem_mem hi)
    have htk := map_take_succ (fun p : List Nat => (⟨p.toArray⟩ : Str)) (List.getElem?_eq_getElem hi)
    rw [htk]
    generalize ps[i] = p at *
    generalize ((ps.take i).map fun p => (⟨p.toArray⟩ : Str)) = acc at *
    have hul := hus.1
    clear htk hu hv
    (repeat' ((fail_if_success (with_reducible show wpAny _ _ (eval (Expr.ListComp _ _ _ _) _) _ _ _)); (fail_if_success (with_reducible show wpAny _ _ (exec (Stmt.Assign [_] (Expr.ListComp _ _ _ _) _) _) _ _ _)); (fail_if_success (with_reducible show wpAny _ _ (call (Value.ref _) _) _ _ _)); (fail_if_success (with_reducible show wpAny _ _ (call (Value.type "bytes") _) _ _ _)); first | (((with_reducible show wpAny _ _ (eval (Expr.Name _ _) (compEnvC _ _ _ _)) _ _ _); first | (refine' nameC_L ?mzF ?mzv ?mza ?mzb ?_; (case mzF => k_asm); (case mza => with_unfolding_all rfl); (case mzb => with_unfolding_all rfl); (case mzv => rfl)) | (refine' nameC_K ?mzF ?mzX ?mzT ?mze ?mza ?mzb ?mzc ?_; (case mzF => k_asm); (case mzX => k_asm); (case mzT => k_asm); (case mza => with_unfolding_all rfl); (case mzb => with_unfolding_all rfl); (case mzc => with_unfolding_all rfl); (case mze => k_is)) | (refine' nameC_B ?mzF ?mzX ?mzT ?mze ?mzv ?mzn ?mza ?mzb ?mzc ?mzd ?_; (case mzF => k_asm); (case mzX => k_asm); (case mzT => k_asm); (case mza => with_unfolding_all rfl); (case mzb => with_unfolding_all rfl); (case mzc => with_unfolding_all rfl); (case mzd => with_unfolding_all rfl); (case mze => k_is); (case mzv => boot_fast); (case mzn => decide)))) | (k_unfold; (try dsimp only)) | walk1 | (dsimp only; walk1)))
    refine' comp_list (cl := []) ?s1 ?s2 ?s3 ?s4 ?s5 ?s6 ?_
    (((case s1 => with_unfolding_all rfl); (case s2 => decide); (case s3 => with_unfolding_all rfl); (case s4 => decide); (case s5 => with_unfolding_all rfl); (case s6 => with_unfolding_all rfl)))
    (repeat' ((fail_if_success (with_reducible show wpAny _ _ (eval (Expr.ListComp _ _ _ _) _) _ _ _)); (fail_if_success (with_reducible show wpAny _ _ (exec (Stmt.Assign [_] (Expr.ListComp _ _ _ _) _) _) _ _ _)); (fail_if_success (with_reducible show wpAny _ _ (call (Value.ref _) _) _ _ _)); (fail_if_success (with_reducible show wpAny _ _ (call (Value.type "bytes") _) _ _ _)); first | (((with_reducible show wpAny _ _ (eval (Expr.Name _ _) (compEnvC _ _ _ _)) _ _ _); first | (refine' nameC_L ?mzF ?mzv ?mza ?mzb ?_; (case mzF => k_asm); (case mza => with_unfolding_all rfl); (case mzb => with_unfolding_all rfl); (case mzv => rfl)) | (refine' nameC_K ?mzF ?mzX ?mzT ?mze ?mza ?mzb ?mzc ?_; (case mzF => k_asm); (case mzX => k_asm); (case mzT => k_asm); (case mza => with_unfolding_all rfl); (case mzb => with_unfolding_all rfl); (case mzc => with_unfolding_all rfl); (case mze => k_is)) | (refine' nameC_B ?mzF ?mzX ?mzT ?mze ?mzv ?mzn ?mza ?mzb ?mzc ?mzd ?_; (case mzF => k_asm); (case mzX => k_asm); (case mzT => k_asm); (case mza => with_unfolding_all rfl); (case mzb => with_unfolding_all rfl); (case mzc => with_unfolding_all rfl); (case mzd => with_unfolding_all rfl); (case mze => k_is); (case mzv => boot_fast); (case mzn => decide)))) | (k_unfold; (try dsimp only)) | walk1 | (dsimp only; walk1)))
    show ∃ _, _
    dsimp only
    refine ⟨b, us.toArray, fun i ys _ => StrsAre ys ((p.take i).map fun c => ⟨#[c]⟩), rfl, ilK F3 hB, by rw [List.size_toArray]; omega, ?_, .nil, ?_, ?_⟩
    · intro i ys made hS
      rw [hS.length, List.length_map, List.length_take]; omega
    · intro I3 C3 D3 i3 v3 m3 ys3 k3 made3 oI3 h3 tk3 E3 hv3 hS3 F4 N4 hmd3 hDI3
      refine wpAny_tests_nil ?_
      refine W.ite_pos rfl ?_
      have hi3 : i3 < p.length := by
        have := (Array.getElem?_eq_some_iff.mp hv3).1
        rw [List.size_toArray, hul] at this; exact this
      obtain ⟨u, hu, t3, rfl⟩ := hus.2 i3 _ (List.getElem?_eq_getElem hi3)
      have hvu : v3 = .int (p[i3] : Nat) t3 := by
        have e1 : us[i3]? = some v3 := by simpa using hv3
        rw [hu] at e1
        exact (Option.some.inj e1).symm
      subst hvu
      have h256 := (hpo _ (List.getElem_mem hi3)).1
      have hmt := map_take_succ (fun c : Nat => (⟨#[c]⟩ : Str)) (List.getElem?_eq_getElem hi3)
      generalize p[i3] = c at *
      have X3 := X2.keeps F3.keep
      have T3 := T2.keeps F3.keep
      clear hu hv3
      dsimp only at F4 N4 ⊢
      (repeat' ((fail_if_success (with_reducible show wpAny _ _ (eval (Expr.ListComp _ _ _ _) _) _ _ _)); (fail_if_success (with_reducible show wpAny _ _ (exec (Stmt.Assign [_] (Expr.ListComp _ _ _ _) _) _) _ _ _)); (fail_if_success (with_reducible show wpAny _ _ (call (Value.ref _) _) _ _ _)); (fail_if_success (with_reducible show wpAny _ _ (call (Value.type "bytes") _) _ _ _)); first | (((with_reducible show wpAny _ _ (eval (Expr.Name _ _) (compEnvC _ _ _ _)) _ _ _); first | (refine' nameC_L ?mzF ?mzv ?mza ?mzb ?_; (case mzF => k_asm); (case mza => with_unfolding_all rfl); (case mzb => with_unfolding_all rfl); (case mzv => rfl)) | (refine' nameC_K ?mzF ?mzX ?mzT ?mze ?mza ?mzb ?mzc ?_; (case mzF => k_asm); (case mzX => k_asm); (case mzT => k_asm); (case mza => with_unfolding_all rfl); (case mzb => with_unfolding_all rfl); (case mzc => with_unfolding_all rfl); (case mze => k_is)) | (refine' nameC_B ?mzF ?mzX ?mzT ?mze ?mzv ?mzn ?mza ?mzb ?mzc ?mzd ?_; (case mzF => k_asm); (case mzX => k_asm); (case mzT => k_asm); (case mza => with_unfolding_all rfl); (case mzb => with_unfolding_all rfl); (case mzc => with_unfolding_all rfl); (case mzd => with_unfolding_all rfl); (case mze => k_is); (case mzv => boot_fast); (case mzn => decide)))) | (k_unfold; (try dsimp only)) | walk1 | (dsimp only; walk1)))
      exact CE.of F4 N4 (.head _) (.tail _ (.head _)) (fun p hp => .tail _ (.tail _ hp)) hmd3 (by show StrsAre _ _; rw [hmt]; exact strsAre_snocE (by rw [Int.toNat_natCast]) hS3)
    · intro D3 ys3 k3 made3 h3 tk3 hS3 hk3 hp3
      (try dsimp only at hk3 hp3 ⊢)
      have F4 := F3.grownK hk3
      have N4 := news_more F3 N3 hk3 hp3
      rw [List.size_toArray, hul, List.take_length] at hS3
      have hD3 := ilM (hp3 _ (.head _)).1
      have hw3 : ((p.map fun c => (⟨#[c]⟩ : Str)).map (·.length)).sum + (p.map fun c => (⟨#[c]⟩ : Str)).length ≤ 1048576 := by
        rw [ones_len, List.length_map]; omega
      (repeat' ((fail_if_success (with_reducible show wpAny _ _ (eval (Expr.ListComp _ _ _ _) _) _ _ _)); (fail_if_success (with_reducible show wpAny _ _ (exec (Stmt.Assign [_] (Expr.ListComp _ _ _ _) _) _) _ _ _)); (fail_if_success (with_reducible show wpAny _ _ (call (Value.ref _) _) _ _ _)); (fail_if_success (with_reducible show wpAny _ _ (call (Value.type "bytes") _) _ _ _)); first | (((with_reducible show wpAny _ _ (eval (Expr.Name _ _) (compEnvC _ _ _ _)) _ _ _); first | (refine' nameC_L ?mzF ?mzv ?mza ?mzb ?_; (case mzF => k_asm); (case mza => with_unfolding_all rfl); (case mzb => with_unfolding_all rfl); (case mzv => rfl)) | (refine' nameC_K ?mzF ?mzX ?mzT ?mze ?mza ?mzb ?mzc ?_; (case mzF => k_asm); (case mzX => k_asm); (case mzT => k_asm); (case mza => with_unfolding_all rfl); (case mzb => with_unfolding_all rfl); (case mzc => with_unfolding_all rfl); (case mze => k_is)) | (refine' nameC_B ?mzF ?mzX ?mzT ?mze ?mzv ?mzn ?mza ?mzb ?mzc ?mzd ?_; (case mzF => k_asm); (case mzX => k_asm); (case mzT => k_asm); (case mza => with_unfolding_all rfl); (case mzb => with_unfolding_all rfl); (case mzc => with_unfolding_all rfl); (case mzd => with_unfolding_all rfl); (case mze => k_is); (case mzv => boot_fast); (case mzn => decide)))) | (k_unfold; (try dsimp only)) | walk1 | (dsimp only; walk1)))
      exact CE.of F4 N4 (by simp) (by simp) (fun p hp => by simp [hp]) hmd (strsAre_snocE (ones_join p) hS)
  · intro D ys k made' h tk' hS F3 N3
    rw [List.size_toArray, hpvl, List.take_length] at hS
    have F4 : Fr s.heap L h _ := F3
    have N4 : News s.heap L h (made1 ++ (D, W.listOf ys.toArray k) :: made') := N3
    clear F3 N3 F2 N2; (try clear F1); (try clear N1)
    (try dsimp only at F4)
    (try dsimp only)
    (repeat' ((fail_if_success (with_reducible show wpAny _ _ (eval (Expr.ListComp _ _ _ _) _) _ _ _)); (fail_if_success (with_reducible show wpAny _ _ (exec (Stmt.Assign [_] (Expr.ListComp _ _ _ _) _) _) _ _ _)); (fail_if_success (with_reducible show wpAny _ _ (call (Value.ref _) _) _ _ _)); (fail_if_success (with_reducible show wpAny _ _ (call (Value.type "bytes") _) _ _ _)); first | (((with_reducible show wpAny _ _ (eval (Expr.Name _ _) (compEnvC _ _ _ _)) _ _ _); first | (refine' nameC_L ?mzF ?mzv ?mza ?mzb ?_; (case mzF => k_asm); (case mza => with_unfolding_all rfl); (case mzb => with_unfolding_all rfl); (case mzv => rfl)) | (refine' nameC_K ?mzF ?mzX ?mzT ?mze ?mza ?mzb ?mzc ?_; (case mzF => k_asm); (case mzX => k_asm); (case mzT => k_asm); (case mza => with_unfolding_all rfl); (case mzb => with_unfolding_all rfl); (case mzc => with_unfolding_all rfl); (case mze => k_is)) | (refine' nameC_B ?mzF ?mzX ?mzT ?mze ?mzv ?mzn ?mza ?mzb ?mzc ?mzd ?_; (case mzF => k_asm); (case mzX => k_asm); (case mzT => k_asm); (case mza => with_unfolding_all rfl); (case mzb => with_unfolding_all rfl); (case mzc => with_unfolding_all rfl); (case mzd => with_unfolding_all rfl); (case mze => k_is); (case mzv => boot_fast); (case mzn => decide)))) | (k_unfold; (try dsimp only)) | walk1 | (dsimp only; walk1)))
    (with_reducible rename News _ _ _ _ => NE)
    refine' use_fnM (names_spec w ap ps made1 ⟨ap, pvs, kp, rfl, hmp, harp⟩ P.ne P.len (fun p hp => P.mem hp)) ?F ?N ?X ?T rfl ?d rfl ?u ?pre ?_
    walk_at "mine use"
    case pre => exact fun q hq => (NE q (List.mem_append_left _ hq)).1
    intro v2 h2 tk2 made2 F5 N5 hk2 hv2
    obtain ⟨ct, root, tr, nl, rfl, hct, hrt, hnm⟩ := hv2
    have N6 : News s.heap L h2 ((ct, { cls := .type "tuple", data := .seq #[.str root tr, .ref nl] }) :: (D, W.listOf ys.toArray k) :: (made1 ++ made2)) := fun q hq => by
      rcases List.mem_cons.mp hq with rfl | hq
      · exact N5 _ (List.mem_append_right _ hct)
      · rcases List.mem_cons.mp hq with rfl | hq
        · exact N5 _ (List.mem_append_left _ (List.mem_append_right _ (.head _)))
        · rcases List.mem_append.mp hq with hq | hq
          · exact N5 _ (List.mem_append_left _ (List.mem_append_left _ hq))
          · exact N5 _ (List.mem_append_right _ hq)
    clear N5 NE hk2 hct; (try clear N4); (try clear F4)
    have hr10 := root_len hrt
    have hr0 := root_len0 hrt
    (try dsimp only)
    (repeat' ((fail_if_success (with_reducible show wpAny _ _ (eval (Expr.ListComp _ _ _ _) _) _ _ _)); (fail_if_success (with_reducible show wpAny _ _ (exec (Stmt.Assign [_] (Expr.ListComp _ _ _ _) _) _) _ _ _)); (fail_if_success (with_reducible show wpAny _ _ (call (Value.ref _) _) _ _ _)); (fail_if_success (with_reducible show wpAny _ _ (call (Value.type "bytes") _) _ _ _)); first | (((with_reducible show wpAny _ _ (eval (Expr.Name _ _) (compEnvC _ _ _ _)) _ _ _); first | (refine' nameC_L ?mzF ?mzv ?mza ?mzb ?_; (case mzF => k_asm); (case mza => with_unfolding_all rfl); (case mzb => with_unfolding_all rfl); (case mzv => rfl)) | (refine' nameC_K ?mzF ?mzX ?mzT ?mze ?mza ?mzb ?mzc ?_; (case mzF => k_asm); (case mzX => k_asm); (case mzT => k_asm); (case mza => with_unfolding_all rfl); (case mzb => with_unfolding_all rfl); (case mzc => with_unfolding_all rfl); (case mze => k_is)) | (refine' nameC_B ?mzF ?mzX ?mzT ?mze ?mzv ?mzn ?mza ?mzb ?mzc ?mzd ?_; (case mzF => k_asm); (case mzX => k_asm); (case mzT => k_asm); (case mza => with_unfolding_all rfl); (case mzb => with_unfolding_all rfl); (case mzc => with_unfolding_all rfl); (case mzd => with_unfolding_all rfl); (case mze => k_is); (case mzv => boot_fast); (case mzn => decide)))) | (k_unfold; (try dsimp only)) | walk1 | (dsimp only; walk1)))
    (with_reducible rename News _ _ _ _ => NE)
    refine' use_fnM (straight_spec w root tr nl (nsOf ps) made2 hnm hr10 (Nat.le_trans P.nsLen (by decide)) (fun l hl => Nat.le_trans (P.nsMem hl) (by decide)) (fun l hl t ht => (P.nsOk l hl t ht).1)) ?F ?N ?X ?T rfl ?d rfl ?u ?pre ?_
    walk_at "mine use"
    case pre => exact fun q hq => (NE q (.tail _ (.tail _ (List.mem_append_right _ hq)))).1
    intro v3 h3 tk3 made3 F7 N7 hk3 hv3
    rw [hr0] at hv3
    have hv3' : NamesM (made2 ++ made3) v3 (stOf ps) := hv3
    clear hv3
    obtain ⟨sl, svs, ksl, rfl, hslm, hsla⟩ := id hv3'
    have N8 : News s.heap L h3 ((D, W.listOf ys.toArray k) :: (made1 ++ (made2 ++ made3))) := fun q hq => by
      rcases List.mem_cons.mp hq with rfl | hq
      · exact N7 _ (List.mem_append_left _ (.tail _ (.head _)))
      · rcases List.mem_append.mp hq with hq | hq
        · exact N7 _ (List.mem_append_left _ (.tail _ (.tail _ (List.mem_append_left _ hq))))
        · rcases List.mem_append.mp hq with hq | hq
          · exact N7 _ (List.mem_append_left _ (.tail _ (.tail _ (List.mem_append_right _ hq))))
          · exact N7 _ (List.mem_append_right _ hq)
    have hnm3 : NamesM (made2 ++ made3) (.ref nl) (nsOf ps) := NamesM.mono (fun q hq => List.mem_append_left _ hq) hnm
    clear N7 NE hk3 hslm hsla; (try clear N6); (try clear F5)
    (try dsimp only)
    (repeat' ((fail_if_success (with_reducible show wpAny _ _ (eval (Expr.ListComp _ _ _ _) _) _ _ _)); (fail_if_success (with_reducible show wpAny _ _ (exec (Stmt.Assign [_] (Expr.ListComp _ _ _ _) _) _) _ _ _)); (fail_if_success (with_reducible show wpAny _ _ (call (Value.ref _) _) _ _ _)); (fail_if_success (with_reducible show wpAny _ _ (call (Value.type "bytes") _) _ _ _)); first | (((with_reducible show wpAny _ _ (eval (Expr.Name _ _) (compEnvC _ _ _ _)) _ _ _); first | (refine' nameC_L ?mzF ?mzv ?mza ?mzb ?_; (case mzF => k_asm); (case mza => with_unfolding_all rfl); (case mzb => with_unfolding_all rfl); (case mzv => rfl)) | (refine' nameC_K ?mzF ?mzX ?mzT ?mze ?mza ?mzb ?mzc ?_; (case mzF => k_asm); (case mzX => k_asm); (case mzT => k_asm); (case mza => with_unfolding_all rfl); (case mzb => with_unfolding_all rfl); (case mzc => with_unfolding_all rfl); (case mze => k_is)) | (refine' nameC_B ?mzF ?mzX ?mzT ?mze ?mzv ?mzn ?mza ?mzb ?mzc ?mzd ?_; (case mzF => k_asm); (case mzX => k_asm); (case mzT => k_asm); (case mza => with_unfolding_all rfl); (case mzb => with_unfolding_all rfl); (case mzc => with_unfolding_all rfl); (case mzd => with_unfolding_all rfl); (case mze => k_is); (case mzv => boot_fast); (case mzn => decide)))) | (k_unfold; (try dsimp only)) | walk1 | (dsimp only; walk1)))
    (with_reducible rename News _ _ _ _ => NE)
    refine' use_fn (text_spec w root tr sl (stOf ps) (made2 ++ made3) hv3' hr10 (Nat.le_trans P.stLen (by decide)) (fun l hl => Nat.le_trans (P.stMem hl) (by decide)) (fun l hl t ht => (P.stOk l hl t ht).1)) ?F ?N ?X ?T rfl ?d rfl ?u ?pre ?_
    walk_at "mine use"
    case pre => exact fun q hq => (NE q (.tail _ (List.mem_append_right _ hq))).1
    rintro v4 h4 tk4 F9 N9 hk4 ⟨tt, rfl⟩
    rw [told_eq hrt]
    obtain ⟨told, htold⟩ : ∃ told : Str, (⟨(toldL ps).toArray⟩ : Str) = told := ⟨_, rfl⟩
    rw [htold]
    have htc : cs told = toldL ps := by rw [← htold]
    have htl : told.length ≤ 87 := by rw [← cs_len, htc]; exact P.told_len
    clear NE hk4; (try clear N8); (try clear F7)
    (try dsimp only)
    (repeat' ((fail_if_success (with_reducible show wpAny _ _ (eval (Expr.ListComp _ _ _ _) _) _ _ _)); (fail_if_success (with_reducible show wpAny _ _ (exec (Stmt.Assign [_] (Expr.ListComp _ _ _ _) _) _) _ _ _)); (fail_if_success (with_reducible show wpAny _ _ (call (Value.ref _) _) _ _ _)); (fail_if_success (with_reducible show wpAny _ _ (call (Value.type "bytes") _) _ _ _)); first | (((with_reducible show wpAny _ _ (eval (Expr.Name _ _) (compEnvC _ _ _ _)) _ _ _); first | (refine' nameC_L ?mzF ?mzv ?mza ?mzb ?_; (case mzF => k_asm); (case mza => with_unfolding_all rfl); (case mzb => with_unfolding_all rfl); (case mzv => rfl)) | (refine' nameC_K ?mzF ?mzX ?mzT ?mze ?mza ?mzb ?mzc ?_; (case mzF => k_asm); (case mzX => k_asm); (case mzT => k_asm); (case mza => with_unfolding_all rfl); (case mzb => with_unfolding_all rfl); (case mzc => with_unfolding_all rfl); (case mze => k_is)) | (refine' nameC_B ?mzF ?mzX ?mzT ?mze ?mzv ?mzn ?mza ?mzb ?mzc ?mzd ?_; (case mzF => k_asm); (case mzX => k_asm); (case mzT => k_asm); (case mza => with_unfolding_all rfl); (case mzb => with_unfolding_all rfl); (case mzc => with_unfolding_all rfl); (case mzd => with_unfolding_all rfl); (case mze => k_is); (case mzv => boot_fast); (case mzn => decide)))) | (k_unfold; (try dsimp only)) | walk1 | (dsimp only; walk1)))
    (with_reducible rename News _ _ _ _ => NE)
    (with_reducible rename Fr _ _ _ _ => FE)
    obtain ⟨x0, xs0, hx0⟩ := map_open P.ne fun p => (⟨p.toArray⟩ : Str)
    have hS0 := hS
    rw [hx0] at hS0
    obtain ⟨t0, ys0, hys0, hS1⟩ := strs_cons hS0
    have hjb := map_bound P (f := fun p => (⟨p.toArray⟩ : Str)) (fun p _ => by show p.toArray.size ≤ _; rw [List.size_toArray]; omega) hx0
    have hraw : normF (joinF x0 xs0) = told := cs_inj.mp ((law_raw P (raw_cs hx0)).trans htc.symm)
    refine star_seq FE NE (.head _) rfl rfl (.inl rfl) (ws := .str x0 t0 :: ys0) (by show ys.toArray.toList = _; rw [hys0]) (szS (by rw [List.size_toArray, hS.length, List.length_map]; omega)) ?_
    intro h5 F10 N10
    refine ⟨X.keeps F10.keep, ?_⟩
    clear FE NE
    dsimp only [List.nil_append]
    refine' use_fn (join_spec w x0 t0 ys0 xs0 hS1 (by omega)) ?F ?N ?X ?T rfl ?d rfl ?u True.intro ?_
    walk_at "mine use"
    rintro v5 h6 tk6 F11 N11 hk5 ⟨tj, rfl⟩
    clear F10 N10 hk5
    (try dsimp only)
    (repeat' ((fail_if_success (with_reducible show wpAny _ _ (eval (Expr.ListComp _ _ _ _) _) _ _ _)); (fail_if_success (with_reducible show wpAny _ _ (exec (Stmt.Assign [_] (Expr.ListComp _ _ _ _) _) _) _ _ _)); (fail_if_success (with_reducible show wpAny _ _ (call (Value.ref _) _) _ _ _)); (fail_if_success (with_reducible show wpAny _ _ (call (Value.type "bytes") _) _ _ _)); first | (((with_reducible show wpAny _ _ (eval (Expr.Name _ _) (compEnvC _ _ _ _)) _ _ _); first | (refine' nameC_L ?mzF ?mzv ?mza ?mzb ?_; (case mzF => k_asm); (case mza => with_unfolding_all rfl); (case mzb => with_unfolding_all rfl); (case mzv => rfl)) | (refine' nameC_K ?mzF ?mzX ?mzT ?mze ?mza ?mzb ?mzc ?_; (case mzF => k_asm); (case mzX => k_asm); (case mzT => k_asm); (case mza => with_unfolding_all rfl); (case mzb => with_unfolding_all rfl); (case mzc => with_unfolding_all rfl); (case mze => k_is)) | (refine' nameC_B ?mzF ?mzX ?mzT ?mze ?mzv ?mzn ?mza ?mzb ?mzc ?mzd ?_; (case mzF => k_asm); (case mzX => k_asm); (case mzT => k_asm); (case mza => with_unfolding_all rfl); (case mzb => with_unfolding_all rfl); (case mzc => with_unfolding_all rfl); (case mzd => with_unfolding_all rfl); (case mze => k_is); (case mzv => boot_fast); (case mzn => decide)))) | (k_unfold; (try dsimp only)) | walk1 | (dsimp only; walk1)))
    refine' use_fn (normpath_spec w (joinF x0 xs0) tj (join_bound hjb)) ?F ?N ?X ?T rfl ?d rfl ?u True.intro ?_
    walk_at "mine use"
    rintro v6 h7 tk7 F12 N12 hk6 ⟨tn, rfl⟩
    rw [hraw]
    have hbf : (told != told) = false := by simp
    clear F11 N11 hk6
    (try dsimp only)
    (repeat' ((fail_if_success (with_reducible show wpAny _ _ (eval (Expr.ListComp _ _ _ _) _) _ _ _)); (fail_if_success (with_reducible show wpAny _ _ (exec (Stmt.Assign [_] (Expr.ListComp _ _ _ _) _) _) _ _ _)); (fail_if_success (with_reducible show wpAny _ _ (call (Value.ref _) _) _ _ _)); (fail_if_success (with_reducible show wpAny _ _ (call (Value.type "bytes") _) _ _ _)); first | (((with_reducible show wpAny _ _ (eval (Expr.Name _ _) (compEnvC _ _ _ _)) _ _ _); first | (refine' nameC_L ?mzF ?mzv ?mza ?mzb ?_; (case mzF => k_asm); (case mza => with_unfolding_all rfl); (case mzb => with_unfolding_all rfl); (case mzv => rfl)) | (refine' nameC_K ?mzF ?mzX ?mzT ?mze ?mza ?mzb ?mzc ?_; (case mzF => k_asm); (case mzX => k_asm); (case mzT => k_asm); (case mza => with_unfolding_all rfl); (case mzb => with_unfolding_all rfl); (case mzc => with_unfolding_all rfl); (case mze => k_is)) | (refine' nameC_B ?mzF ?mzX ?mzT ?mze ?mzv ?mzn ?mza ?mzb ?mzc ?mzd ?_; (case mzF => k_asm); (case mzX => k_asm); (case mzT => k_asm); (case mza => with_unfolding_all rfl); (case mzb => with_unfolding_all rfl); (case mzc => with_unfolding_all rfl); (case mzd => with_unfolding_all rfl); (case mze => k_is); (case mzv => boot_fast); (case mzn => decide)))) | (k_unfold; (try dsimp only)) | walk1 | (dsimp only; walk1)))
    (with_reducible rename News _ _ _ _ => NE)
    (with_reducible rename Fr _ _ _ _ => FE)
    refine' comp_list (cl := []) ?s1 ?s2 ?s3 ?s4 ?s5 ?s6 ?_
    (((case s1 => with_unfolding_all rfl); (case s2 => decide); (case s3 => with_unfolding_all rfl); (case s4 => decide); (case s5 => with_unfolding_all rfl); (case s6 => with_unfolding_all rfl)))
    (repeat' ((fail_if_success (with_reducible show wpAny _ _ (eval (Expr.ListComp _ _ _ _) _) _ _ _)); (fail_if_success (with_reducible show wpAny _ _ (exec (Stmt.Assign [_] (Expr.ListComp _ _ _ _) _) _) _ _ _)); (fail_if_success (with_reducible show wpAny _ _ (call (Value.ref _) _) _ _ _)); (fail_if_success (with_reducible show wpAny _ _ (call (Value.type "bytes") _) _ _ _)); first | (((with_reducible show wpAny _ _ (eval (Expr.Name _ _) (compEnvC _ _ _ _)) _ _ _); first | (refine' nameC_L ?mzF ?mzv ?mza ?mzb ?_; (case mzF => k_asm); (case mza => with_unfolding_all rfl); (case mzb => with_unfolding_all rfl); (case mzv => rfl)) | (refine' nameC_K ?mzF ?mzX ?mzT ?mze ?mza ?mzb ?mzc ?_; (case mzF => k_asm); (case mzX => k_asm); (case mzT => k_asm); (case mza => with_unfolding_all rfl); (case mzb => with_unfolding_all rfl); (case mzc => with_unfolding_all rfl); (case mze => k_is)) | (refine' nameC_B ?mzF ?mzX ?mzT ?mze ?mzv ?mzn ?mza ?mzb ?mzc ?mzd ?_; (case mzF => k_asm); (case mzX => k_asm); (case mzT => k_asm); (case mza => with_unfolding_all rfl); (case mzb => with_unfolding_all rfl); (case mzc => with_unfolding_all rfl); (case mzd => with_unfolding_all rfl); (case mze => k_is); (case mzv => boot_fast); (case mzn => decide)))) | (k_unfold; (try dsimp only)) | walk1 | (dsimp only; walk1)))
    show ∃ _, _
    dsimp only
    refine ⟨D, ys.toArray, fun i zs _ => StrsAre zs ((ps.take i).map fun p => bodyF ⟨p.toArray⟩), rfl, News.isList NE (.head _), by rw [List.size_toArray, hS.length, List.length_map]; omega, ?_, .nil, ?_, ?_⟩
    · intro i ys made hS
      rw [hS.length, List.length_map, List.length_take]; omega
    · intro I C D9 i v m₁ zs k9 made9 oI h9 tk9 E' hv hSz F9 N9 hmd hDI
      refine wpAny_tests_nil ?_
      refine W.ite_pos rfl ?_
      have X2 := X.keeps FE.keep
      have T2 := T.keeps FE.keep
      have hi : i < ps.length := by
        have := (Array.getElem?_eq_some_iff.mp hv).1
        rw [List.size_toArray, hS.length, List.length_map] at this; exact this
      obtain ⟨tx, htx⟩ := hS.get i ⟨ps[i].toArray⟩ (by rw [List.getElem?_map, List.getElem?_eq_getElem hi]; rfl)
      have hvu : v = .str ⟨ps[i].toArray⟩ tx := by
        have e1 : ys[i]? = some v := by simpa using hv
        rw [htx] at e1
        exact (Option.some.inj e1).symm
      subst hvu
      have hp85 := P.mem (List.getElem_mem hi)
      have hpo := P.ok ps[i] (List.getElem_mem hi)
      have hmt := map_take_succ (fun p : List Nat => bodyF ⟨p.toArray⟩) (List.getElem?_eq_getElem hi)
      generalize ps[i] = p at *
      clear htx hv
      dsimp only at F9 N9 ⊢
      (repeat' ((fail_if_success (with_reducible show wpAny _ _ (eval (Expr.ListComp _ _ _ _) _) _ _ _)); (fail_if_success (with_reducible show wpAny _ _ (exec (Stmt.Assign [_] (Expr.ListComp _ _ _ _) _) _) _ _ _)); (fail_if_success (with_reducible show wpAny _ _ (call (Value.ref _) _) _ _ _)); (fail_if_success (with_reducible show wpAny _ _ (call (Value.type "bytes") _) _ _ _)); first | (((with_reducible show wpAny _ _ (eval (Expr.Name _ _) (compEnvC _ _ _ _)) _ _ _); first | (refine' nameC_L ?mzF ?mzv ?mza ?mzb ?_; (case mzF => k_asm); (case mza => with_unfolding_all rfl); (case mzb => with_unfolding_all rfl); (case mzv => rfl)) | (refine' nameC_K ?mzF ?mzX ?mzT ?mze ?mza ?mzb ?mzc ?_; (case mzF => k_asm); (case mzX => k_asm); (case mzT => k_asm); (case mza => with_unfolding_all rfl); (case mzb => with_unfolding_all rfl); (case mzc => with_unfolding_all rfl); (case mze => k_is)) | (refine' nameC_B ?mzF ?mzX ?mzT ?mze ?mzv ?mzn ?mza ?mzb ?mzc ?mzd ?_; (case mzF => k_asm); (case mzX => k_asm); (case mzT => k_asm); (case mza => with_unfolding_all rfl); (case mzb => with_unfolding_all rfl); (case mzc => with_unfolding_all rfl); (case mzd => with_unfolding_all rfl); (case mze => k_is); (case mzv => boot_fast); (case mzn => decide)))) | (k_unfold; (try dsimp only)) | walk1 | (dsimp only; walk1)))
      refine' use_fn (benc_spec w ⟨p.toArray⟩ tx _ (by show p.toArray.size ≤ _; rw [List.size_toArray]; omega) (fun c hc => (hpo c (by simpa using hc)).1)) ?F ?N ?X ?T rfl ?d rfl ?u True.intro ?_
      walk_at "mine use"
      rintro v7 h10 tk10 F13 N13 hk7 ⟨tb, rfl⟩
      dsimp only
      (repeat' ((fail_if_success (with_reducible show wpAny _ _ (eval (Expr.ListComp _ _ _ _) _) _ _ _)); (fail_if_success (with_reducible show wpAny _ _ (exec (Stmt.Assign [_] (Expr.ListComp _ _ _ _) _) _) _ _ _)); (fail_if_success (with_reducible show wpAny _ _ (call (Value.ref _) _) _ _ _)); (fail_if_success (with_reducible show wpAny _ _ (call (Value.type "bytes") _) _ _ _)); first | (((with_reducible show wpAny _ _ (eval (Expr.Name _ _) (compEnvC _ _ _ _)) _ _ _); first | (refine' nameC_L ?mzF ?mzv ?mza ?mzb ?_; (case mzF => k_asm); (case mza => with_unfolding_all rfl); (case mzb => with_unfolding_all rfl); (case mzv => rfl)) | (refine' nameC_K ?mzF ?mzX ?mzT ?mze ?mza ?mzb ?mzc ?_; (case mzF => k_asm); (case mzX => k_asm); (case mzT => k_asm); (case mza => with_unfolding_all rfl); (case mzb => with_unfolding_all rfl); (case mzc => with_unfolding_all rfl); (case mze => k_is)) | (refine' nameC_B ?mzF ?mzX ?mzT ?mze ?mzv ?mzn ?mza ?mzb ?mzc ?mzd ?_; (case mzF => k_asm); (case mzX => k_asm); (case mzT => k_asm); (case mza => with_unfolding_all rfl); (case mzb => with_unfolding_all rfl); (case mzc => with_unfolding_all rfl); (case mzd => with_unfolding_all rfl); (case mze => k_is); (case mzv => boot_fast); (case mzn => decide)))) | (k_unfold; (try dsimp only)) | walk1 | (dsimp only; walk1)))
      exact CE.of F13 N13 (.head _) (.tail _ (.head _)) (fun p hp => .tail _ (.tail _ hp)) hmd (by show StrsAre _ _; rw [hmt]; exact strsAre_snocE rfl hSz)
    · intro D9 zs k9 made9 h9 tk9 hSz hk hp
      rw [List.size_toArray, hS.length, List.length_map, List.take_length] at hSz
      have F13 := FE.grownK hk
      have N13 : News s.heap L h9 ((D9, W.listOf zs.toArray k9) :: (D, W.listOf ys.toArray k) :: (made1 ++ (made2 ++ made3))) := fun q hq => by
        have h := news_more FE NE hk hp
        rcases List.mem_cons.mp hq with rfl | hq
        · exact h _ (List.mem_append_right _ (.head _))
        · exact h _ (List.mem_append_left _ hq)
      clear hk hp FE NE
      obtain ⟨x1, xs1, hx1⟩ := map_open P.ne fun p => bodyF ⟨p.toArray⟩
      have hSz0 := hSz
      rw [hx1] at hSz0
      obtain ⟨t1, zs0, hzs0, hSz1⟩ := strs_cons hSz0
      have hjb1 := map_bound P (f := fun p => bodyF ⟨p.toArray⟩) (fun p hp => body_len3 (P.ok p hp)) hx1
      have hbody := law_body P (body_map P hx1)
      (try dsimp only at F13)
      (try dsimp only)
      (repeat' ((fail_if_success (with_reducible show wpAny _ _ (eval (Expr.ListComp _ _ _ _) _) _ _ _)); (fail_if_success (with_reducible show wpAny _ _ (exec (Stmt.Assign [_] (Expr.ListComp _ _ _ _) _) _) _ _ _)); (fail_if_success (with_reducible show wpAny _ _ (call (Value.ref _) _) _ _ _)); (fail_if_success (with_reducible show wpAny _ _ (call (Value.type "bytes") _) _ _ _)); first | (((with_reducible show wpAny _ _ (eval (Expr.Name _ _) (compEnvC _ _ _ _)) _ _ _); first | (refine' nameC_L ?mzF ?mzv ?mza ?mzb ?_; (case mzF => k_asm); (case mza => with_unfolding_all rfl); (case mzb => with_unfolding_all rfl); (case mzv => rfl)) | (refine' nameC_K ?mzF ?mzX ?mzT ?mze ?mza ?mzb ?mzc ?_; (case mzF => k_asm); (case mzX => k_asm); (case mzT => k_asm); (case mza => with_unfolding_all rfl); (case mzb => with_unfolding_all rfl); (case mzc => with_unfolding_all rfl); (case mze => k_is)) | (refine' nameC_B ?mzF ?mzX ?mzT ?mze ?mzv ?mzn ?mza ?mzb ?mzc ?mzd ?_; (case mzF => k_asm); (case mzX => k_asm); (case mzT => k_asm); (case mza => with_unfolding_all rfl); (case mzb => with_unfolding_all rfl); (case mzc => with_unfolding_all rfl); (case mzd => with_unfolding_all rfl); (case mze => k_is); (case mzv => boot_fast); (case mzn => decide)))) | (k_unfold; (try dsimp only)) | walk1 | (dsimp only; walk1)))
      refine star_seq F13 N13 (.head _) rfl rfl (.inl rfl) (ws := .str x1 t1 :: zs0) (by show zs.toArray.toList = _; rw [hzs0]) (szS (by rw [List.size_toArray, hSz.length, List.length_map]; omega)) ?_
      intro h11 F14 N14
      refine ⟨X.keeps F14.keep, ?_⟩
      clear F13 N13
      dsimp only [List.nil_append]
      refine' use_fn (join_spec w x1 t1 zs0 xs1 hSz1 (by omega)) ?F ?N ?X ?T rfl ?d rfl ?u True.intro ?_
      walk_at "mine use"
      rintro v8 h12 tk12 F15 N15 hk8 ⟨tj1, rfl⟩
      clear F14 N14 hk8
      (try dsimp only)
      (repeat' ((fail_if_success (with_reducible show wpAny _ _ (eval (Expr.ListComp _ _ _ _) _) _ _ _)); (fail_if_success (with_reducible show wpAny _ _ (exec (Stmt.Assign [_] (Expr.ListComp _ _ _ _) _) _) _ _ _)); (fail_if_success (with_reducible show wpAny _ _ (call (Value.ref _) _) _ _ _)); (fail_if_success (with_reducible show wpAny _ _ (call (Value.type "bytes") _) _ _ _)); first | (((with_reducible show wpAny _ _ (eval (Expr.Name _ _) (compEnvC _ _ _ _)) _ _ _); first | (refine' nameC_L ?mzF ?mzv ?mza ?mzb ?_; (case mzF => k_asm); (case mza => with_unfolding_all rfl); (case mzb => with_unfolding_all rfl); (case mzv => rfl)) | (refine' nameC_K ?mzF ?mzX ?mzT ?mze ?mza ?mzb ?mzc ?_; (case mzF => k_asm); (case mzX => k_asm); (case mzT => k_asm); (case mza => with_unfolding_all rfl); (case mzb => with_unfolding_all rfl); (case mzc => with_unfolding_all rfl); (case mze => k_is)) | (refine' nameC_B ?mzF ?mzX ?mzT ?mze ?mzv ?mzn ?mza ?mzb ?mzc ?mzd ?_; (case mzF => k_asm); (case mzX => k_asm); (case mzT => k_asm); (case mza => with_unfolding_all rfl); (case mzb => with_unfolding_all rfl); (case mzc => with_unfolding_all rfl); (case mzd => with_unfolding_all rfl); (case mze => k_is); (case mzv => boot_fast); (case mzn => decide)))) | (k_unfold; (try dsimp only)) | walk1 | (dsimp only; walk1)))
      refine' use_fn (normpath_spec w (joinF x1 xs1) tj1 (join_bound hjb1)) ?F ?N ?X ?T rfl ?d rfl ?u True.intro ?_
      walk_at "mine use"
      rintro v9 h13 tk13 F16 N16 hk9 ⟨tn1, rfl⟩
      generalize normF (joinF x1 xs1) = sent at *
      have hsl : sent.length ≤ 600 := by rw [← cs_len, hbody]; exact Nat.le_trans P.sent_len (by decide)
      clear F15 N15 hk9
      (try dsimp only)
      (repeat' ((fail_if_success (with_reducible show wpAny _ _ (eval (Expr.ListComp _ _ _ _) _) _ _ _)); (fail_if_success (with_reducible show wpAny _ _ (exec (Stmt.Assign [_] (Expr.ListComp _ _ _ _) _) _) _ _ _)); (fail_if_success (with_reducible show wpAny _ _ (call (Value.ref _) _) _ _ _)); (fail_if_success (with_reducible show wpAny _ _ (call (Value.type "bytes") _) _ _ _)); first | (((with_reducible show wpAny _ _ (eval (Expr.Name _ _) (compEnvC _ _ _ _)) _ _ _); first | (refine' nameC_L ?mzF ?mzv ?mza ?mzb ?_; (case mzF => k_asm); (case mza => with_unfolding_all rfl); (case mzb => with_unfolding_all rfl); (case mzv => rfl)) | (refine' nameC_K ?mzF ?mzX ?mzT ?mze ?mza ?mzb ?mzc ?_; (case mzF => k_asm); (case mzX => k_asm); (case mzT => k_asm); (case mza => with_unfolding_all rfl); (case mzb => with_unfolding_all rfl); (case mzc => with_unfolding_all rfl); (case mze => k_is)) | (refine' nameC_B ?mzF ?mzX ?mzT ?mze ?mzv ?mzn ?mza ?mzb ?mzc ?mzd ?_; (case mzF => k_asm); (case mzX => k_asm); (case mzT => k_asm); (case mza => with_unfolding_all rfl); (case mzb => with_unfolding_all rfl); (case mzc => with_unfolding_all rfl); (case mzd => with_unfolding_all rfl); (case mze => k_is); (case mzv => boot_fast); (case mzn => decide)))) | (k_unfold; (try dsimp only)) | walk1 | (dsimp only; walk1)))
      refine' use_fn (dec_spec w sent _ (pathT (leadOf ps) (stOf ps)) (path_ne _ _) (ok_path P.stOk) (calm_path P.stCalm) hbody hsl) ?F ?N ?X ?T rfl ?d rfl ?u True.intro ?_
      walk_at "mine use"
      rintro v10 h14 tk14 F17 N17 hk10 ⟨td, rfl⟩
      rw [law_dec P]
      (try clear F16); (try clear N16); clear hk10
      (try dsimp only)
      (repeat' ((fail_if_success (with_reducible show wpAny _ _ (eval (Expr.ListComp _ _ _ _) _) _ _ _)); (fail_if_success (with_reducible show wpAny _ _ (exec (Stmt.Assign [_] (Expr.ListComp _ _ _ _) _) _) _ _ _)); (fail_if_success (with_reducible show wpAny _ _ (call (Value.ref _) _) _ _ _)); (fail_if_success (with_reducible show wpAny _ _ (call (Value.type "bytes") _) _ _ _)); first | (((with_reducible show wpAny _ _ (eval (Expr.Name _ _) (compEnvC _ _ _ _)) _ _ _); first | (refine' nameC_L ?mzF ?mzv ?mza ?mzb ?_; (case mzF => k_asm); (case mza => with_unfolding_all rfl); (case mzb => with_unfolding_all rfl); (case mzv => rfl)) | (refine' nameC_K ?mzF ?mzX ?mzT ?mze ?mza ?mzb ?mzc ?_; (case mzF => k_asm); (case mzX => k_asm); (case mzT => k_asm); (case mza => with_unfolding_all rfl); (case mzb => with_unfolding_all rfl); (case mzc => with_unfolding_all rfl); (case mze => k_is)) | (refine' nameC_B ?mzF ?mzX ?mzT ?mze ?mzv ?mzn ?mza ?mzb ?mzc ?mzd ?_; (case mzF => k_asm); (case mzX => k_asm); (case mzT => k_asm); (case mza => with_unfolding_all rfl); (case mzb => with_unfolding_all rfl); (case mzc => with_unfolding_all rfl); (case mzd => with_unfolding_all rfl); (case mze => k_is); (case mzv => boot_fast); (case mzn => decide)))) | (k_unfold; (try dsimp only)) | walk1 | (dsimp only; walk1)))
      (with_reducible rename News _ _ _ _ => NE)
      refine' use_fn (bend_spec w sl (stOf ps) (Nat.le_trans P.stLen (by decide)) (fun l hl => Nat.le_trans (P.stMem hl) (by decide))) ?F ?N ?X ?T rfl ?d rfl ?u ?pre ?_
      walk_at "mine use"
      case pre => exact ⟨made2 ++ made3, fun q hq => (NE q (.tail _ (.tail _ (List.mem_append_right _ hq)))).1, hv3'⟩
      rintro v11 h15 tk15 F18 N18 hk11 ⟨tb2, rfl⟩
      have hbq := dec_cut P htc
      clear NE hk11
      (try dsimp only)
      (repeat' ((fail_if_success (with_reducible show wpAny _ _ (eval (Expr.ListComp _ _ _ _) _) _ _ _)); (fail_if_success (with_reducible show wpAny _ _ (exec (Stmt.Assign [_] (Expr.ListComp _ _ _ _) _) _) _ _ _)); (fail_if_success (with_reducible show wpAny _ _ (call (Value.ref _) _) _ _ _)); (fail_if_success (with_reducible show wpAny _ _ (call (Value.type "bytes") _) _ _ _)); first | (((with_reducible show wpAny _ _ (eval (Expr.Name _ _) (compEnvC _ _ _ _)) _ _ _); first | (refine' nameC_L ?mzF ?mzv ?mza ?mzb ?_; (case mzF => k_asm); (case mza => with_unfolding_all rfl); (case mzb => with_unfolding_all rfl); (case mzv => rfl)) | (refine' nameC_K ?mzF ?mzX ?mzT ?mze ?mza ?mzb ?mzc ?_; (case mzF => k_asm); (case mzX => k_asm); (case mzT => k_asm); (case mza => with_unfolding_all rfl); (case mzb => with_unfolding_all rfl); (case mzc => with_unfolding_all rfl); (case mze => k_is)) | (refine' nameC_B ?mzF ?mzX ?mzT ?mze ?mzv ?mzn ?mza ?mzb ?mzc ?mzd ?_; (case mzF => k_asm); (case mzX => k_asm); (case mzT => k_asm); (case mza => with_unfolding_all rfl); (case mzb => with_unfolding_all rfl); (case mzc => with_unfolding_all rfl); (case mzd => with_unfolding_all rfl); (case mze => k_is); (case mzv => boot_fast); (case mzn => decide)))) | (k_unfold; (try dsimp only)) | walk1 | (dsimp only; walk1)))
      (with_reducible rename News _ _ _ _ => NE)
      (with_reducible rename Fr _ _ _ _ => FE)
      refine' comp_list (cl := []) ?s1 ?s2 ?s3 ?s4 ?s5 ?s6 ?_
      (((case s1 => with_unfolding_all rfl); (case s2 => decide); (case s3 => with_unfolding_all rfl); (case s4 => decide); (case s5 => with_unfolding_all rfl); (case s6 => with_unfolding_all rfl)))
      (repeat' ((fail_if_success (with_reducible show wpAny _ _ (eval (Expr.ListComp _ _ _ _) _) _ _ _)); (fail_if_success (with_reducible show wpAny _ _ (exec (Stmt.Assign [_] (Expr.ListComp _ _ _ _) _) _) _ _ _)); (fail_if_success (with_reducible show wpAny _ _ (call (Value.ref _) _) _ _ _)); (fail_if_success (with_reducible show wpAny _ _ (call (Value.type "bytes") _) _ _ _)); first | (((with_reducible show wpAny _ _ (eval (Expr.Name _ _) (compEnvC _ _ _ _)) _ _ _); first | (refine' nameC_L ?mzF ?mzv ?mza ?mzb ?_; (case mzF => k_asm); (case mza => with_unfolding_all rfl); (case mzb => with_unfolding_all rfl); (case mzv => rfl)) | (refine' nameC_K ?mzF ?mzX ?mzT ?mze ?mza ?mzb ?mzc ?_; (case mzF => k_asm); (case mzX => k_asm); (case mzT => k_asm); (case mza => with_unfolding_all rfl); (case mzb => with_unfolding_all rfl); (case mzc => with_unfolding_all rfl); (case mze => k_is)) | (refine' nameC_B ?mzF ?mzX ?mzT ?mze ?mzv ?mzn ?mza ?mzb ?mzc ?mzd ?_; (case mzF => k_asm); (case mzX => k_asm); (case mzT => k_asm); (case mza => with_unfolding_all rfl); (case mzb => with_unfolding_all rfl); (case mzc => with_unfolding_all rfl); (case mzd => with_unfolding_all rfl); (case mze => k_is); (case mzv => boot_fast); (case mzn => decide)))) | (k_unfold; (try dsimp only)) | walk1 | (dsimp only; walk1)))
      show ∃ _, _
      dsimp only
      have hmp1 := NE _ (.tail _ (.tail _ (List.mem_append_left _ hmp)))
      refine ⟨ap, pvs.toArray, fun i zs _ => StrsAre zs ((ps.take i).map fun p => ⟨(p.flatMap htab).toArray⟩), rfl, ilM hmp1.1, by rw [List.size_toArray]; omega, ?_, .nil, ?_, ?_⟩
      · intro i ys made hS
        rw [hS.length, List.length_map, List.length_take]; omega
      · intro I C D8 i v m₁ zs k8 made8 oI h8 tk8 E' hv hSz F19 N19 hmd hDI
        refine wpAny_tests_nil ?_
        refine W.ite_pos rfl ?_
        have X2 := X.keeps FE.keep
        have T2 := T.keeps FE.keep
        have hi : i < ps.length := by
          have := (Array.getElem?_eq_some_iff.mp hv).1
          rw [List.size_toArray, hpvl] at this; exact this
        obtain ⟨u, hu, b, us, k2, rfl, hbm, hus⟩ := harp.2 i ps[i] (List.getElem?_eq_getElem hi)
        have hvu : v = .ref b := by
          have e1 : pvs[i]? = some v := by simpa using hv
          rw [hu] at e1
          exact (Option.some.inj e1).symm
        subst hvu
        have hB := ilM (NE _ (.tail _ (.tail _ (List.mem_append_left _ hbm)))).1
        have hp85 := P.mem (List.getElem_mem hi)
        have hpo := P.ok ps[i] (List.getElem_mem hi)
        have hmt := map_take_succ (fun p : List Nat => (⟨(p.flatMap htab).toArray⟩ : Str)) (List.getElem?_eq_getElem hi)
        have hus2 := ints_of_nat hus
        have hul := hus.1
        generalize ps[i] = p at *
        have h256 : ∀ c ∈ p, c < 256 := fun c hc => (hpo c hc).1
        clear hu hv
        dsimp only at F19 N19 hB ⊢
        (repeat' ((fail_if_success (with_reducible show wpAny _ _ (eval (Expr.ListComp _ _ _ _) _) _ _ _)); (fail_if_success (with_reducible show wpAny _ _ (exec (Stmt.Assign [_] (Expr.ListComp _ _ _ _) _) _) _ _ _)); (fail_if_success (with_reducible show wpAny _ _ (call (Value.ref _) _) _ _ _)); (fail_if_success (with_reducible show wpAny _ _ (call (Value.type "bytes") _) _ _ _)); first | (((with_reducible show wpAny _ _ (eval (Expr.Name _ _) (compEnvC _ _ _ _)) _ _ _); first | (refine' nameC_L ?mzF ?mzv ?mza ?mzb ?_; (case mzF => k_asm); (case mza => with_unfolding_all rfl); (case mzb => with_unfolding_all rfl); (case mzv => rfl)) | (refine' nameC_K ?mzF ?mzX ?mzT ?mze ?mza ?mzb ?mzc ?_; (case mzF => k_asm); (case mzX => k_asm); (case mzT => k_asm); (case mza => with_unfolding_all rfl); (case mzb => with_unfolding_all rfl); (case mzc => with_unfolding_all rfl); (case mze => k_is)) | (refine' nameC_B ?mzF ?mzX ?mzT ?mze ?mzv ?mzn ?mza ?mzb ?mzc ?mzd ?_; (case mzF => k_asm); (case mzX => k_asm); (case mzT => k_asm); (case mza => with_unfolding_all rfl); (case mzb => with_unfolding_all rfl); (case mzc => with_unfolding_all rfl); (case mzd => with_unfolding_all rfl); (case mze => k_is); (case mzv => boot_fast); (case mzn => decide)))) | (k_unfold; (try dsimp only)) | walk1 | (dsimp only; walk1)))
        refine call_bytes_ints (ilK F19 hB) hus2 (fun n hn => by obtain ⟨c, hc, rfl⟩ := List.mem_map.mp hn; have := h256 c hc; omega) (szS (by omega)) rfl ?_
        intro h20 t20 k20 hk20
        have F20 := F19.grownK hk20
        have N20 := N19.keeps hk20
        clear hk20 F19 N19
        dsimp only at F20 N20 ⊢
        (repeat' ((fail_if_success (with_reducible show wpAny _ _ (eval (Expr.ListComp _ _ _ _) _) _ _ _)); (fail_if_success (with_reducible show wpAny _ _ (exec (Stmt.Assign [_] (Expr.ListComp _ _ _ _) _) _) _ _ _)); (fail_if_success (with_reducible show wpAny _ _ (call (Value.ref _) _) _ _ _)); (fail_if_success (with_reducible show wpAny _ _ (call (Value.type "bytes") _) _ _ _)); first | (((with_reducible show wpAny _ _ (eval (Expr.Name _ _) (compEnvC _ _ _ _)) _ _ _); first | (refine' nameC_L ?mzF ?mzv ?mza ?mzb ?_; (case mzF => k_asm); (case mza => with_unfolding_all rfl); (case mzb => with_unfolding_all rfl); (case mzv => rfl)) | (refine' nameC_K ?mzF ?mzX ?mzT ?mze ?mza ?mzb ?mzc ?_; (case mzF => k_asm); (case mzX => k_asm); (case mzT => k_asm); (case mza => with_unfolding_all rfl); (case mzb => with_unfolding_all rfl); (case mzc => with_unfolding_all rfl); (case mze => k_is)) | (refine' nameC_B ?mzF ?mzX ?mzT ?mze ?mzv ?mzn ?mza ?mzb ?mzc ?mzd ?_; (case mzF => k_asm); (case mzX => k_asm); (case mzT => k_asm); (case mza => with_unfolding_all rfl); (case mzb => with_unfolding_all rfl); (case mzc => with_unfolding_all rfl); (case mzd => with_unfolding_all rfl); (case mze => k_is); (case mzv => boot_fast); (case mzn => decide)))) | (k_unfold; (try dsimp only)) | walk1 | (dsimp only; walk1)))
        refine' use_fn (henc_spec w (byteArr (p.map fun n : Nat => (n : Int))) t20 _ (by rw [byteArr_size, List.length_map]; omega)) ?F ?N ?X ?T rfl ?d rfl ?u True.intro ?_
        walk_at "mine use"
        rintro v21 h21 tk21 F21 N21 hk21 ⟨t21, rfl⟩
        have hxl := henc_len h256 hp85
        have hxs := head_text h256 rfl
        generalize (if (byteArr (p.map fun n : Nat => (n : Int))).size = 0 then Str.ofString "" else Str.ofString "=?q?q?" ++ (⟨(trF hT ((byteArr (p.map fun n : Nat => (n : Int))).toList.map (·.toNat))).toArray⟩ : Str) ++ Str.ofString "?=") = x at *
        clear hk21 F20 N20
        (try dsimp only)
        (repeat' ((fail_if_success (with_reducible show wpAny _ _ (eval (Expr.ListComp _ _ _ _) _) _ _ _)); (fail_if_success (with_reducible show wpAny _ _ (exec (Stmt.Assign [_] (Expr.ListComp _ _ _ _) _) _) _ _ _)); (fail_if_success (with_reducible show wpAny _ _ (call (Value.ref _) _) _ _ _)); (fail_if_success (with_reducible show wpAny _ _ (call (Value.type "bytes") _) _ _ _)); first | (((with_reducible show wpAny _ _ (eval (Expr.Name _ _) (compEnvC _ _ _ _)) _ _ _); first | (refine' nameC_L ?mzF ?mzv ?mza ?mzb ?_; (case mzF => k_asm); (case mza => with_unfolding_all rfl); (case mzb => with_unfolding_all rfl); (case mzv => rfl)) | (refine' nameC_K ?mzF ?mzX ?mzT ?mze ?mza ?mzb ?mzc ?_; (case mzF => k_asm); (case mzX => k_asm); (case mzT => k_asm); (case mza => with_unfolding_all rfl); (case mzb => with_unfolding_all rfl); (case mzc => with_unfolding_all rfl); (case mze => k_is)) | (refine' nameC_B ?mzF ?mzX ?mzT ?mze ?mzv ?mzn ?mza ?mzb ?mzc ?mzd ?_; (case mzF => k_asm); (case mzX => k_asm); (case mzT => k_asm); (case mza => with_unfolding_all rfl); (case mzb => with_unfolding_all rfl); (case mzc => with_unfolding_all rfl); (case mzd => with_unfolding_all rfl); (case mze => k_is); (case mzv => boot_fast); (case mzn => decide)))) | (k_unfold; (try dsimp only)) | walk1 | (dsimp only; walk1)))
        (with_reducible rename News _ _ _ _ => NQ9)
        exact CE.of (by k_asm) NQ9 (.head _) (.tail _ (.head _)) (fun q hq => .tail _ (.tail _ hq)) hmd (by show StrsAre _ _; rw [hmt]; exact strsAre_snocE hxs hSz)
      · intro D8 zs8 k8 made8 h8 tk8 hSz8 hk hp
        rw [List.size_toArray, hpvl, List.take_length] at hSz8
        have F22 := FE.grownK hk
        have N22 : News s.heap L h8 ((D8, W.listOf zs8.toArray k8) :: (made1 ++ (made2 ++ made3))) := fun q hq => by
          have h := news_more FE NE hk hp
          rcases List.mem_cons.mp hq with rfl | hq
          · exact h _ (List.mem_append_right _ (.head _))
          · exact h _ (List.mem_append_left _ (.tail _ (.tail _ hq)))
        clear hk hp FE NE hmp1
        obtain ⟨x2, xs2, hx2⟩ := map_open P.ne fun p => (⟨(p.flatMap htab).toArray⟩ : Str)
        have hSz2 := hSz8
        rw [hx2] at hSz2
        obtain ⟨t2, zs2, hzs2, hSz3⟩ := strs_cons hSz2
        have hjb2 := map_bound P (f := fun p => (⟨(p.flatMap htab).toArray⟩ : Str)) (fun p _ => head_len3 p) hx2
        have hwd := law_head P (head_map hx2)
        (try dsimp only at F22)
        (try dsimp only)
        refine star_seq F22 N22 (.head _) rfl rfl (.inl rfl) (ws := .str x2 t2 :: zs2) (by show zs8.toArray.toList = _; rw [hzs2]) (szS (by rw [List.size_toArray, hSz8.length, List.length_map]; omega)) ?_
        intro h23 F23 N23
        refine ⟨X.keeps F23.keep, ?_⟩
        clear F22 N22
        dsimp only [List.nil_append]
        refine' use_fn (join_spec w x2 t2 zs2 xs2 hSz3 (by omega)) ?F ?N ?X ?T rfl ?d rfl ?u True.intro ?_
        walk_at "mine use"
        rintro v24 h24 tk24 F24 N24 hk24 ⟨tj2, rfl⟩
        clear F23 N23 hk24
        (try dsimp only)
        (repeat' ((fail_if_success (with_reducible show wpAny _ _ (eval (Expr.ListComp _ _ _ _) _) _ _ _)); (fail_if_success (with_reducible show wpAny _ _ (exec (Stmt.Assign [_] (Expr.ListComp _ _ _ _) _) _) _ _ _)); (fail_if_success (with_reducible show wpAny _ _ (call (Value.ref _) _) _ _ _)); (fail_if_success (with_reducible show wpAny _ _ (call (Value.type "bytes") _) _ _ _)); first | (((with_reducible show wpAny _ _ (eval (Expr.Name _ _) (compEnvC _ _ _ _)) _ _ _); first | (refine' nameC_L ?mzF ?mzv ?mza ?mzb ?_; (case mzF => k_asm); (case mza => with_unfolding_all rfl); (case mzb => with_unfolding_all rfl); (case mzv => rfl)) | (refine' nameC_K ?mzF ?mzX ?mzT ?mze ?mza ?mzb ?mzc ?_; (case mzF => k_asm); (case mzX => k_asm); (case mzT => k_asm); (case mza => with_unfolding_all rfl); (case mzb => with_unfolding_all rfl); (case mzc => with_unfolding_all rfl); (case mze => k_is)) | (refine' nameC_B ?mzF ?mzX ?mzT ?mze ?mzv ?mzn ?mza ?mzb ?mzc ?mzd ?_; (case mzF => k_asm); (case mzX => k_asm); (case mzT => k_asm); (case mza => with_unfolding_all rfl); (case mzb => with_unfolding_all rfl); (case mzc => with_unfolding_all rfl); (case mzd => with_unfolding_all rfl); (case mze => k_is); (case mzv => boot_fast); (case mzn => decide)))) | (k_unfold; (try dsimp only)) | walk1 | (dsimp only; walk1)))
        refine' use_fn (normpath_spec w (joinF x2 xs2) tj2 (join_bound hjb2)) ?F ?N ?X ?T rfl ?d rfl ?u True.intro ?_
        walk_at "mine use"
        rintro v25 h25 tk25 F25 N25 hk25 ⟨tn2, rfl⟩
        generalize normF (joinF x2 xs2) = worded at *
        have hwl : worded.length ≤ 600 := by rw [← cs_len, hwd]; exact Nat.le_trans P.worded_len (by decide)
        clear F24 N24 hk25
        (try dsimp only)
        (repeat' ((fail_if_success (with_reducible show wpAny _ _ (eval (Expr.ListComp _ _ _ _) _) _ _ _)); (fail_if_success (with_reducible show wpAny _ _ (exec (Stmt.Assign [_] (Expr.ListComp _ _ _ _) _) _) _ _ _)); (fail_if_success (with_reducible show wpAny _ _ (call (Value.ref _) _) _ _ _)); (fail_if_success (with_reducible show wpAny _ _ (call (Value.type "bytes") _) _ _ _)); first | (((with_reducible show wpAny _ _ (eval (Expr.Name _ _) (compEnvC _ _ _ _)) _ _ _); first | (refine' nameC_L ?mzF ?mzv ?mza ?mzb ?_; (case mzF => k_asm); (case mza => with_unfolding_all rfl); (case mzb => with_unfolding_all rfl); (case mzv => rfl)) | (refine' nameC_K ?mzF ?mzX ?mzT ?mze ?mza ?mzb ?mzc ?_; (case mzF => k_asm); (case mzX => k_asm); (case mzT => k_asm); (case mza => with_unfolding_all rfl); (case mzb => with_unfolding_all rfl); (case mzc => with_unfolding_all rfl); (case mze => k_is)) | (refine' nameC_B ?mzF ?mzX ?mzT ?mze ?mzv ?mzn ?mza ?mzb ?mzc ?mzd ?_; (case mzF => k_asm); (case mzX => k_asm); (case mzT => k_asm); (case mza => with_unfolding_all rfl); (case mzb => with_unfolding_all rfl); (case mzc => with_unfolding_all rfl); (case mzd => with_unfolding_all rfl); (case mze => k_is); (case mzv => boot_fast); (case mzn => decide)))) | (k_unfold; (try dsimp only)) | walk1 | (dsimp only; walk1)))
        (with_reducible rename News _ _ _ _ => NE)
        refine' use_fn (text_spec w root tr nl (nsOf ps) (made2 ++ made3) hnm3 hr10 (Nat.le_trans P.nsLen (by decide)) (fun l hl => Nat.le_trans (P.nsMem hl) (by decide)) (fun l hl t ht => (P.nsOk l hl t ht).1)) ?F ?N ?X ?T rfl ?d rfl ?u ?pre ?_
        walk_at "mine use"
        case pre => exact fun q hq => (NE q (.tail _ (List.mem_append_right _ hq))).1
        rintro v26 h26 tk26 F26 N26 hk26 ⟨tk9, rfl⟩
        rw [kept_eq hrt]
        obtain ⟨kept, hkept⟩ : ∃ kept : Str, (⟨(keptL ps).toArray⟩ : Str) = kept := ⟨_, rfl⟩
        rw [hkept]
        have hkc : cs kept = keptL ps := by rw [← hkept]
        have hkl : kept.length ≤ 87 := by rw [← cs_len, hkc]; exact P.kept_len
        have hkl2 : (keptL ps).length ≤ 87 := P.kept_len
        clear NE hk26; (try clear F25); (try clear N25)
        (try dsimp only)
        (repeat' ((fail_if_success (with_reducible show wpAny _ _ (eval (Expr.ListComp _ _ _ _) _) _ _ _)); (fail_if_success (with_reducible show wpAny _ _ (exec (Stmt.Assign [_] (Expr.ListComp _ _ _ _) _) _) _ _ _)); (fail_if_success (with_reducible show wpAny _ _ (call (Value.ref _) _) _ _ _)); (fail_if_success (with_reducible show wpAny _ _ (call (Value.type "bytes") _) _ _ _)); first | (((with_reducible show wpAny _ _ (eval (Expr.Name _ _) (compEnvC _ _ _ _)) _ _ _); first | (refine' nameC_L ?mzF ?mzv ?mza ?mzb ?_; (case mzF => k_asm); (case mza => with_unfolding_all rfl); (case mzb => with_unfolding_all rfl); (case mzv => rfl)) | (refine' nameC_K ?mzF ?mzX ?mzT ?mze ?mza ?mzb ?mzc ?_; (case mzF => k_asm); (case mzX => k_asm); (case mzT => k_asm); (case mza => with_unfolding_all rfl); (case mzb => with_unfolding_all rfl); (case mzc => with_unfolding_all rfl); (case mze => k_is)) | (refine' nameC_B ?mzF ?mzX ?mzT ?mze ?mzv ?mzn ?mza ?mzb ?mzc ?mzd ?_; (case mzF => k_asm); (case mzX => k_asm); (case mzT => k_asm); (case mza => with_unfolding_all rfl); (case mzb => with_unfolding_all rfl); (case mzc => with_unfolding_all rfl); (case mzd => with_unfolding_all rfl); (case mze => k_is); (case mzv => boot_fast); (case mzn => decide)))) | (k_unfold; (try dsimp only)) | walk1 | (dsimp only; walk1)))
        (with_reducible rename News _ _ _ _ => NE)
        (with_reducible rename Fr _ _ _ _ => FE)
        refine' comp_str (cl := []) ?s1 ?s2 ?s3 ?s4 ?s5 ?s6 ?_
        (((case s1 => with_unfolding_all rfl); (case s2 => decide); (case s3 => with_unfolding_all rfl); (case s4 => decide); (case s5 => with_unfolding_all rfl); (case s6 => with_unfolding_all rfl)))
        (repeat' ((fail_if_success (with_reducible show wpAny _ _ (eval (Expr.ListComp _ _ _ _) _) _ _ _)); (fail_if_success (with_reducible show wpAny _ _ (exec (Stmt.Assign [_] (Expr.ListComp _ _ _ _) _) _) _ _ _)); (fail_if_success (with_reducible show wpAny _ _ (call (Value.ref _) _) _ _ _)); (fail_if_success (with_reducible show wpAny _ _ (call (Value.type "bytes") _) _ _ _)); first | (((with_reducible show wpAny _ _ (eval (Expr.Name _ _) (compEnvC _ _ _ _)) _ _ _); first | (refine' nameC_L ?mzF ?mzv ?mza ?mzb ?_; (case mzF => k_asm); (case mza => with_unfolding_all rfl); (case mzb => with_unfolding_all rfl); (case mzv => rfl)) | (refine' nameC_K ?mzF ?mzX ?mzT ?mze ?mza ?mzb ?mzc ?_; (case mzF => k_asm); (case mzX => k_asm); (case mzT => k_asm); (case mza => with_unfolding_all rfl); (case mzb => with_unfolding_all rfl); (case mzc => with_unfolding_all rfl); (case mze => k_is)) | (refine' nameC_B ?mzF ?mzX ?mzT ?mze ?mzv ?mzn ?mza ?mzb ?mzc ?mzd ?_; (case mzF => k_asm); (case mzX => k_asm); (case mzT => k_asm); (case mza => with_unfolding_all rfl); (case mzb => with_unfolding_all rfl); (case mzc => with_unfolding_all rfl); (case mzd => with_unfolding_all rfl); (case mze => k_is); (case mzv => boot_fast); (case mzn => decide)))) | (k_unfold; (try dsimp only)) | walk1 | (dsimp only; walk1)))
        show ∃ _, _
        dsimp only
        refine ⟨kept, _, fun i zs _ => StrsAre zs (((keptL ps).take i).map fun c => ⟨(htab c).toArray⟩), rfl, by omega, ?_, .nil, ?_, ?_⟩
        · intro i ys made hS
          rw [hS.length, List.length_map, List.length_take]; omega
        · intro I C D7 i c t m₁ zs k7 made7 oI h7 tk7 E' hc hSz F27 N27 hmd hDI
          rw [hkc] at hc
          have X2 := X.keeps FE.keep
          have T2 := T.keeps FE.keep
          have h256 := P.kept_ok c (List.mem_of_getElem? hc)
          have hmt := map_take_succ (fun c : Nat => (⟨(htab c).toArray⟩ : Str)) hc
          clear hc
          dsimp only at F27 N27 ⊢
          (repeat' ((fail_if_success (with_reducible show wpAny _ _ (eval (Expr.ListComp _ _ _ _) _) _ _ _)); (fail_if_success (with_reducible show wpAny _ _ (exec (Stmt.Assign [_] (Expr.ListComp _ _ _ _) _) _) _ _ _)); (fail_if_success (with_reducible show wpAny _ _ (call (Value.ref _) _) _ _ _)); (fail_if_success (with_reducible show wpAny _ _ (call (Value.type "bytes") _) _ _ _)); first | (((with_reducible show wpAny _ _ (eval (Expr.Name _ _) (compEnvC _ _ _ _)) _ _ _); first | (refine' nameC_L ?mzF ?mzv ?mza ?mzb ?_; (case mzF => k_asm); (case mza => with_unfolding_all rfl); (case mzb => with_unfolding_all rfl); (case mzv => rfl)) | (refine' nameC_K ?mzF ?mzX ?mzT ?mze ?mza ?mzb ?mzc ?_; (case mzF => k_asm); (case mzX => k_asm); (case mzT => k_asm); (case mza => with_unfolding_all rfl); (case mzb => with_unfolding_all rfl); (case mzc => with_unfolding_all rfl); (case mze => k_is)) | (refine' nameC_B ?mzF ?mzX ?mzT ?mze ?mzv ?mzn ?mza ?mzb ?mzc ?mzd ?_; (case mzF => k_asm); (case mzX => k_asm); (case mzT => k_asm); (case mza => with_unfolding_all rfl); (case mzb => with_unfolding_all rfl); (case mzc => with_unfolding_all rfl); (case mzd => with_unfolding_all rfl); (case mze => k_is); (case mzv => boot_fast); (case mzn => decide)))) | (k_unfold; (try dsimp only)) | walk1 | (dsimp only; walk1)))
          refine' use_fn (worded_spec w c h256 t) ?F ?N ?X ?T rfl ?d rfl ?u True.intro ?_
          walk_at "mine use"
          rintro v28 h28 tk28 F28 N28 hk28 ⟨t28, rfl⟩
          dsimp only
          (repeat' ((fail_if_success (with_reducible show wpAny _ _ (eval (Expr.ListComp _ _ _ _) _) _ _ _)); (fail_if_success (with_reducible show wpAny _ _ (exec (Stmt.Assign [_] (Expr.ListComp _ _ _ _) _) _) _ _ _)); (fail_if_success (with_reducible show wpAny _ _ (call (Value.ref _) _) _ _ _)); (fail_if_success (with_reducible show wpAny _ _ (call (Value.type "bytes") _) _ _ _)); first | (((with_reducible show wpAny _ _ (eval (Expr.Name _ _) (compEnvC _ _ _ _)) _ _ _); first | (refine' nameC_L ?mzF ?mzv ?mza ?mzb ?_; (case mzF => k_asm); (case mza => with_unfolding_all rfl); (case mzb => with_unfolding_all rfl); (case mzv => rfl)) | (refine' nameC_K ?mzF ?mzX ?mzT ?mze ?mza ?mzb ?mzc ?_; (case mzF => k_asm); (case mzX => k_asm); (case mzT => k_asm); (case mza => with_unfolding_all rfl); (case mzb => with_unfolding_all rfl); (case mzc => with_unfolding_all rfl); (case mze => k_is)) | (refine' nameC_B ?mzF ?mzX ?mzT ?mze ?mzv ?mzn ?mza ?mzb ?mzc ?mzd ?_; (case mzF => k_asm); (case mzX => k_asm); (case mzT => k_asm); (case mza => with_unfolding_all rfl); (case mzb => with_unfolding_all rfl); (case mzc => with_unfolding_all rfl); (case mzd => with_unfolding_all rfl); (case mze => k_is); (case mzv => boot_fast); (case mzn => decide)))) | (k_unfold; (try dsimp only)) | walk1 | (dsimp only; walk1)))
          exact CE.of F28 N28 (.head _) (.tail _ (.head _)) (fun p hp => .tail _ (.tail _ hp)) hmd (by show StrsAre _ _; rw [hmt]; exact strsAre_snocE rfl hSz)
        · intro D7 zs7 k7 made7 h7 tk7 hSz7 hk hp
          have hkl3 : kept.length = (keptL ps).length := by rw [← cs_len, hkc]
          rw [hkl3, List.take_length] at hSz7
          have F29 := FE.grownK hk
          have N29 : News s.heap L h7 ((D7, W.listOf zs7.toArray k7) :: (made1 ++ (made2 ++ made3))) := fun q hq => by
            have h := news_more FE NE hk hp
            rcases List.mem_cons.mp hq with rfl | hq
            · exact h _ (List.mem_append_right _ (.head _))
            · exact h _ (List.mem_append_left _ (.tail _ hq))
          have hD7 := News.isList N29 (.head _)
          have hw7 : (((keptL ps).map fun c => (⟨(htab c).toArray⟩ : Str)).map (·.length)).sum + ((keptL ps).map fun c => (⟨(htab c).toArray⟩ : Str)).length ≤ 1048576 := by
            have := wsum (keptL ps)
            rw [List.length_map]; omega
          have hwj : (worded != Txt.join (Str.ofString "") ((keptL ps).map fun c => (⟨(htab c).toArray⟩ : Str))) = false := by
            rw [wjoin, bne_eq_false_iff_eq]
            exact cs_inj.mp hwd
          clear hk hp FE NE
          (try dsimp only at F29)
          (try dsimp only)
          (repeat' ((fail_if_success (with_reducible show wpAny _ _ (eval (Expr.ListComp _ _ _ _) _) _ _ _)); (fail_if_success (with_reducible show wpAny _ _ (exec (Stmt.Assign [_] (Expr.ListComp _ _ _ _) _) _) _ _ _)); (fail_if_success (with_reducible show wpAny _ _ (call (Value.ref _) _) _ _ _)); (fail_if_success (with_reducible show wpAny _ _ (call (Value.type "bytes") _) _ _ _)); first | (((with_reducible show wpAny _ _ (eval (Expr.Name _ _) (compEnvC _ _ _ _)) _ _ _); first | (refine' nameC_L ?mzF ?mzv ?mza ?mzb ?_; (case mzF => k_asm); (case mza => with_unfolding_all rfl); (case mzb => with_unfolding_all rfl); (case mzv => rfl)) | (refine' nameC_K ?mzF ?mzX ?mzT ?mze ?mza ?mzb ?mzc ?_; (case mzF => k_asm); (case mzX => k_asm); (case mzT => k_asm); (case mza => with_unfolding_all rfl); (case mzb => with_unfolding_all rfl); (case mzc => with_unfolding_all rfl); (case mze => k_is)) | (refine' nameC_B ?mzF ?mzX ?mzT ?mze ?mzv ?mzn ?mza ?mzb ?mzc ?mzd ?_; (case mzF => k_asm); (case mzX => k_asm); (case mzT => k_asm); (case mza => with_unfolding_all rfl); (case mzb => with_unfolding_all rfl); (case mzc => with_unfolding_all rfl); (case mzd => with_unfolding_all rfl); (case mze => k_is); (case mzv => boot_fast); (case mzn => decide)))) | (k_unfold; (try dsimp only)) | walk1 | (dsimp only; walk1)))
          refine' use_fn (hdec_spec w worded _ (keptL ps) hwd P.kept_ok P.kept_ne hwl) ?F ?N ?X ?T rfl ?d rfl ?u True.intro ?_
          walk_at "mine use"
          rintro v30 h30 tk30 F30 N30 hk30 ⟨t30, rfl⟩
          rw [hkept]
          dsimp only
          (repeat' ((fail_if_success (with_reducible show wpAny _ _ (eval (Expr.ListComp _ _ _ _) _) _ _ _)); (fail_if_success (with_reducible show wpAny _ _ (exec (Stmt.Assign [_] (Expr.ListComp _ _ _ _) _) _) _ _ _)); (fail_if_success (with_reducible show wpAny _ _ (call (Value.ref _) _) _ _ _)); (fail_if_success (with_reducible show wpAny _ _ (call (Value.type "bytes") _) _ _ _)); first | (((with_reducible show wpAny _ _ (eval (Expr.Name _ _) (compEnvC _ _ _ _)) _ _ _); first | (refine' nameC_L ?mzF ?mzv ?mza ?mzb ?_; (case mzF => k_asm); (case mza => with_unfolding_all rfl); (case mzb => with_unfolding_all rfl); (case mzv => rfl)) | (refine' nameC_K ?mzF ?mzX ?mzT ?mze ?mza ?mzb ?mzc ?_; (case mzF => k_asm); (case mzX => k_asm); (case mzT => k_asm); (case mza => with_unfolding_all rfl); (case mzb => with_unfolding_all rfl); (case mzc => with_unfolding_all rfl); (case mze => k_is)) | (refine' nameC_B ?mzF ?mzX ?mzT ?mze ?mzv ?mzn ?mza ?mzb ?mzc ?mzd ?_; (case mzF => k_asm); (case mzX => k_asm); (case mzT => k_asm); (case mza => with_unfolding_all rfl); (case mzb => with_unfolding_all rfl); (case mzc => with_unfolding_all rfl); (case mzd => with_unfolding_all rfl); (case mze => k_is); (case mzv => boot_fast); (case mzn => decide)))) | (k_unfold; (try dsimp only)) | walk1 | (dsimp only; walk1)))
          exact hR _ _ _ _ _ (by k_asm) (by k_asm) (congrArg Value.bool (beq_self_eq_true kept))
end Mine
end

section
open PySem PySem.W PyProof.Rows PySem.Calls PyProof
set_option maxRecDepth 100000
set_option maxHeartbeats 0
theorem Mine.kfillM9 : PySem.Challenge.rw_pd0176_01.name = PySem.Challenge.rw_pd0176_01.name ∨ ∀ P, MineHd.K P = MineHd.K P := by
  k_fill
  exact .inl rfl
theorem PySem.Challenge.cw_pd0176_01_holds : PySem.Challenge.rw_pd0176_01.Holds := by
  w_on
  refine holds_law MineHd.said fun said => ?_
  refine holds_open (q := MineHd.VV) (loose := MineHd.LK) (Xt := MineHd.XT) (XP := XL MineHd.VV MineHd.LV) (Yf := Hook.obs MineHd.HO) (Ya := Hook.val MineHd.HO) (YP := Hook.says MineHd.HO) (N := 37378) MineHd.left (Hook.of MineHd.HO) (Hook.keeps MineHd.HO) (fun s e => xl_of s (Bool.and_eq_true_iff.mp e).1) XL.keeps (by rfl) (by rfl) (by rfl) (fun s e => recFacts_of (Bool.and_eq_true_iff.mp e).2) (by rfl) (by first | assumption | decide +kernel) (by decide +kernel) ⟨rfl, rfl, rfl, rfl, rfl, by decide +kernel⟩ ?hw ?hc
  case hw => w_witness2
  case hc =>
    intro w s₀ s₁ mg mb G Y fa o pm cd doc dV kV ho hd hcd hD hmg hg args vals as hpre hlay hrd hwl hlo
    have KX := kIn_of Y
    have X := (Ground.X G).1
    refine Ground.open G ?_
    intro T B D TE TW
    clear hd hcd hD ho doc dV kV cd pm o X B D TE TW
    have e9 : mg (Str.ofString "law") = some (.ref fa) := hmg
    clear hmg
    have e8 := mg_of KX T.g (n := Str.ofString "law") (v := .ref 265) (by k_is)
    rw [e9] at e8
    injection e8 with e8
    injection e8 with e8
    subst e8
    clear e9
    wrow_args hpre hlay hrd hwl hlo
    (with_reducible rename IntsAre _ _ => hI)
    (with_reducible rename Heap.IsList _ _ _ => hL)
    (with_reducible rename ¬ (_ < _) => hc)
    refine wpAny_call (Mine.codeAny_weak (Mine.law_fn w _ _ _ hI (by omega) s₁ _ mg mb _ KX T hL ?_) rfl (Nat.le_of_ble_eq_true rfl) rfl rfl (Nat.le_of_ble_eq_true rfl))
    rintro v h' tk' hk rfl
    refine GoodW.toG ⟨.inl ⟨_, _, _, rfl, raisesW_false ?_, .bool true, ?_, unshared_nil⟩, hk, rfl, hg⟩
    · wrow_none_raised
    · wrow_post
end

end

