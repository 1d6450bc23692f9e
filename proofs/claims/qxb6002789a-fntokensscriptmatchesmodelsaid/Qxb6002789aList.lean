import Derived.Laws.World
/-! A doubly linked list, as a plain list of numbers: who comes next, who came before. No Go in sight. -/
namespace Go.Proofs.Qxb6002789a.Lk

/-- Who comes behind x. -/
def nxt : List Nat → Nat → Option Nat
  | [], _ => none
  | a :: l, x => if a = x then l.head? else nxt l x
/-- Who comes ahead of x. -/
def prv (l : List Nat) (x : Nat) : Option Nat := nxt l.reverse x

theorem nxt_cons (a : Nat) (l : List Nat) (x : Nat) : nxt (a :: l) x = if a = x then l.head? else nxt l x := rfl

theorem nxt_out : ∀ (l : List Nat) (x : Nat), x ∉ l → nxt l x = none
  | [], _, _ => rfl
  | a :: l, x, h => by
    simp only [List.mem_cons, not_or] at h
    rw [nxt_cons, if_neg (fun e => h.1 e.symm), nxt_out l x h.2]

theorem prv_out (l : List Nat) (x : Nat) (h : x ∉ l) : prv l x = none := nxt_out _ _ (by simpa using h)

theorem nxt_mem : ∀ (l : List Nat) (x y : Nat), nxt l x = some y → x ∈ l ∧ y ∈ l
  | [], _, _, h => by cases h
  | a :: l, x, y, h => by
    rw [nxt_cons] at h
    split at h
    · rename_i e
      subst e
      exact ⟨by simp, List.mem_cons_of_mem _ (List.mem_of_head? h)⟩
    · obtain ⟨h1, h2⟩ := nxt_mem l x y h
      exact ⟨List.mem_cons_of_mem _ h1, List.mem_cons_of_mem _ h2⟩

theorem prv_mem (l : List Nat) (x y : Nat) (h : prv l x = some y) : x ∈ l ∧ y ∈ l := by
  have := nxt_mem _ _ _ h
  simpa using this

theorem nxt_ne : ∀ (l : List Nat) (_ : l.Nodup) (x : Nat), nxt l x ≠ some x
  | [], _, _, h => by cases h
  | a :: l, hn, x, h => by
    rw [List.nodup_cons] at hn
    rw [nxt_cons] at h
    split at h
    · rename_i e
      subst e
      exact hn.1 (List.mem_of_head? h)
    · exact nxt_ne l hn.2 x h

theorem nodup_rev {l : List Nat} (h : l.Nodup) : l.reverse.Nodup := (List.reverse_perm l).nodup_iff.2 h

theorem prv_ne (l : List Nat) (h : l.Nodup) (x : Nat) : prv l x ≠ some x := nxt_ne _ (nodup_rev h) x

/-- A new last one. -/
theorem nxt_snoc : ∀ (l : List Nat) (_ : l.Nodup) (b x : Nat), b ∉ l → x ≠ b → nxt (l ++ [b]) x = if l.getLast? = some x then some b else nxt l x
  | [], _, b, x, _, hx => by simp [nxt]
  | a :: l, hn, b, x, hb, hx => by
    rw [List.nodup_cons] at hn
    simp only [List.mem_cons, not_or] at hb
    rw [List.cons_append, nxt_cons, nxt_cons, nxt_snoc l hn.2 b x hb.2 hx]
    by_cases e : a = x
    · subst e
      rw [if_pos rfl, if_pos rfl]
      cases l with
      | nil => simp
      | cons c l =>
        have : ¬ (a :: c :: l).getLast? = some a := by
          intro h
          rw [List.getLast?_cons_cons] at h
          exact hn.1 (List.mem_of_getLast? h)
        rw [if_neg this]
        rfl
    · rw [if_neg e, if_neg e]
      cases l with
      | nil => simp [e]
      | cons c l => rw [List.getLast?_cons_cons]

theorem nxt_snoc_self (l : List Nat) (b : Nat) (h : b ∉ l) : nxt (l ++ [b]) b = none := by
  induction l with
  | nil => simp [nxt]
  | cons a l ih =>
    simp only [List.mem_cons, not_or] at h
    rw [List.cons_append, nxt_cons, if_neg (fun e => h.1 e.symm), ih h.2]

theorem prv_snoc (l : List Nat) (b x : Nat) : prv (l ++ [b]) x = if b = x then l.getLast? else prv l x := by
  unfold prv
  rw [List.reverse_append]
  show nxt (b :: l.reverse) x = _
  rw [nxt_cons, List.head?_reverse]

/-- One taken out. -/
def del (l : List Nat) (b : Nat) : List Nat := l.filter (fun x => decide (x ≠ b))

theorem del_cons (a : Nat) (l : List Nat) (b : Nat) : del (a :: l) b = if a = b then del l b else a :: del l b := by
  unfold del
  by_cases h : a = b <;> simp [h]
theorem del_out (l : List Nat) (b : Nat) (h : b ∉ l) : del l b = l := by
  unfold del
  rw [List.filter_eq_self]
  intro x hx
  have : x ≠ b := fun e => h (e ▸ hx)
  simpa using this
theorem del_mem {l : List Nat} {b x : Nat} : x ∈ del l b ↔ x ∈ l ∧ x ≠ b := by unfold del; simp
theorem del_nodup {l : List Nat} (h : l.Nodup) (b : Nat) : (del l b).Nodup := List.Pairwise.filter _ h
theorem del_reverse (l : List Nat) (b : Nat) : (del l b).reverse = del l.reverse b := by unfold del; rw [List.filter_reverse]
theorem del_length : ∀ (l : List Nat) (_ : l.Nodup) (b : Nat), b ∈ l → (del l b).length + 1 = l.length
  | [], _, _, h => by cases h
  | a :: l, hn, b, h => by
    rw [List.nodup_cons] at hn
    rw [del_cons]
    by_cases e : a = b
    · subst e; rw [if_pos rfl, del_out l a hn.1]; rfl
    · rw [if_neg e]
      have : b ∈ l := by
        rcases List.mem_cons.1 h with h | h
        · exact absurd h.symm e
        · exact h
      simp [del_length l hn.2 b this]

/-- Whoever stands ahead of the one taken out gets his next. -/
theorem nxt_del : ∀ (l : List Nat) (_ : l.Nodup) (b x : Nat), x ≠ b → nxt (del l b) x = if nxt l x = some b then nxt l b else nxt l x
  | [], _, b, x, _ => by simp [del, nxt]
  | a :: l, hn, b, x, hx => by
    rw [List.nodup_cons] at hn
    rw [del_cons]
    by_cases e : a = b
    · subst e
      rw [if_pos rfl, del_out l a hn.1, nxt_cons, if_neg (fun e => hx (Eq.symm e)), nxt_cons, if_pos rfl]
      have : nxt l x ≠ some a := fun h => hn.1 (nxt_mem l x a h).2
      rw [if_neg this]
    · rw [if_neg e, nxt_cons, nxt_cons]
      by_cases e' : a = x
      · subst e'
        rw [if_pos rfl, if_pos rfl]
        cases l with
        | nil => simp [del]
        | cons c l =>
          rw [del_cons]
          by_cases h : c = b
          · subst h
            rw [List.nodup_cons] at hn
            rw [if_pos rfl, del_out l c hn.2.1]
            simp [nxt_cons, e]
          · rw [if_neg h]
            simp [h]
      · rw [if_neg e', if_neg e', nxt_del l hn.2 b x hx, nxt_cons, if_neg e]

/-- Next and before are each other's converse. -/
theorem nxt_append (l m : List Nat) (x : Nat) (h : x ∉ l) : nxt (l ++ m) x = nxt m x := by
  induction l with
  | nil => rfl
  | cons a l ih =>
    simp only [List.mem_cons, not_or] at h
    rw [List.cons_append, nxt_cons, if_neg (fun e => h.1 e.symm), ih h.2]

theorem nxt_split (l m : List Nat) (x : Nat) (h : x ∉ l) : nxt (l ++ x :: m) x = m.head? := by
  rw [nxt_append l _ x h, nxt_cons, if_pos rfl]
theorem prv_split (l m : List Nat) (x : Nat) (h : x ∉ m) : prv (l ++ x :: m) x = l.getLast? := by
  unfold prv
  rw [List.reverse_append, List.reverse_cons, List.append_assoc]
  rw [nxt_append _ _ x (by simpa using h)]
  show nxt (x :: l.reverse) x = _
  rw [nxt_cons, if_pos rfl, List.head?_reverse]

theorem prv_of_nxt {l : List Nat} (hn : l.Nodup) {x y : Nat} (h : nxt l x = some y) : prv l y = some x := by
  obtain ⟨hx, _⟩ := nxt_mem l x y h
  obtain ⟨as, bs, rfl⟩ := List.append_of_mem hx
  have hxa : x ∉ as := by
    intro hh
    have := (List.nodup_append.1 hn).2.2 x hh x (by simp)
    exact this rfl
  rw [nxt_split as bs x hxa] at h
  cases bs with
  | nil => cases h
  | cons c cs =>
    simp at h
    subst h
    have e : as ++ x :: c :: cs = (as ++ [x]) ++ c :: cs := by simp
    rw [e]
    rw [prv_split _ _ c]
    · simp
    · have h2 := (List.nodup_append.1 hn).2.1
      rw [List.nodup_cons, List.nodup_cons] at h2
      exact h2.2.1

theorem nxt_of_prv {l : List Nat} (hn : l.Nodup) {x y : Nat} (h : prv l y = some x) : nxt l x = some y := by
  have := prv_of_nxt (nodup_rev hn) h
  unfold prv at this
  rwa [List.reverse_reverse] at this

theorem prv_del (l : List Nat) (hn : l.Nodup) (b x : Nat) (hx : x ≠ b) : prv (del l b) x = if prv l x = some b then prv l b else prv l x := by
  unfold prv
  rw [del_reverse]
  exact nxt_del _ (nodup_rev hn) b x hx

theorem prv_none {l : List Nat} (hn : l.Nodup) {b : Nat} (hb : b ∈ l) (h : prv l b = none) : ∃ m, l = b :: m := by
  obtain ⟨as, bs, rfl⟩ := List.append_of_mem hb
  have h2 := (List.nodup_append.1 hn).2.1
  rw [List.nodup_cons] at h2
  rw [prv_split as bs b h2.1] at h
  simp at h
  subst h
  exact ⟨bs, rfl⟩

theorem head_del (l : List Nat) (hn : l.Nodup) (b : Nat) (hb : b ∈ l) : (del l b).head? = match prv l b with | none => nxt l b | some _ => l.head? := by
  cases h : prv l b with
  | none =>
    obtain ⟨m, rfl⟩ := prv_none hn hb h
    rw [List.nodup_cons] at hn
    rw [del_cons, if_pos rfl, del_out m b hn.1, nxt_cons, if_pos rfl]
  | some p =>
    cases l with
    | nil => cases hb
    | cons a l =>
      rw [del_cons]
      by_cases e : a = b
      · subst e
        rw [List.nodup_cons] at hn
        have : prv (a :: l) a = none := by
          have := prv_split [] l a hn.1
          simpa using this
        rw [this] at h
        cases h
      · rw [if_neg e]
        rfl

theorem last_del (l : List Nat) (hn : l.Nodup) (b : Nat) (hb : b ∈ l) : (del l b).getLast? = match nxt l b with | none => prv l b | some _ => l.getLast? := by
  have h := head_del l.reverse (nodup_rev hn) b (by simpa using hb)
  rw [← del_reverse, List.head?_reverse, List.head?_reverse] at h
  rw [h]
  unfold prv
  rw [List.reverse_reverse]

end Go.Proofs.Qxb6002789a.Lk
