import Derived.Test.Qxb6002789aUnlink
import Derived.Maps.OwnSet
namespace Go.Proofs.Qxb6002789a.Tok
open Go.RowKit Go.Deep Go.ChangeShapes Lk
open Go.Maps (Keyed string_keyed)

/-! ### The map of the known resources -/
/-- How an element of the map reads: a pointer to an entry, as its block's number; nil as false. -/
def ptrElem : Value → Option (DataW Unit × List MemPlace)
  | .pointer none => some (.lit (.bool false), [])
  | .pointer (some ⟨b, 0, none⟩) => some (.lit (.int .u64 b), [])
  | _ => none
theorem ptrElem_nil : ptrElem (.pointer none) = some (.lit (.bool false), []) := rfl
theorem ptrElem_some (b : Nat) : ptrElem (.pointer (some ⟨b, 0, none⟩)) = some (.lit (.int .u64 b), []) := rfl
theorem ptrElem_inv {v : Value} {b : Nat} {ps : List MemPlace} (h : ptrElem v = some (.lit (.int .u64 b), ps)) : v = .pointer (some ⟨b, 0, none⟩) := by
  unfold ptrElem at h
  split at h
  · simp at h
  · rename_i b'
    simp at h
    obtain ⟨h, _⟩ := h
    have e : b' = b := by omega
    subst e
    rfl
  · cases h
theorem ptrElem_inv_nil {v : Value} {ps : List MemPlace} (h : ptrElem v = some (.lit (.bool false), ps)) : v = .pointer none := by
  unfold ptrElem at h
  split at h
  · rfl
  · simp at h
  · cases h

theorem law : Keyed Try.prog 9 := string_keyed Try.underlying9
theorem zeroE (w : World) : (zeroValue 34).run Try.prog w = .ok (.pointer none) w := by kernel_rfl
/-- The key that a name reads as. -/
def key (s : ByteArray) : Lit := .string s.data.toList
theorem key_inj {s t : ByteArray} (h : key s = key t) : s = t := by
  unfold key at h
  exact Go.WideShapes.bytes_inj (by simpa using h)

/-- The map, nil or not, holds just the entries bs, each at its name. -/
def MapIs (w : World) (mv : Value) (bs : List Nat) (nm : Nat → ByteArray) : Prop :=
  (mv = .map none ∧ bs = []) ∨
  ∃ M n D, mv = .map (some M) ∧ w.ownsMap Try.prog 9 ptrElem M n D ∧ n ≤ bs.length ∧
    (∀ x ∈ bs, Maps.has D (key (nm x)) = true ∧ D.atKey (key (nm x)) (.lit (.bool false)) = .lit (.int .u64 x)) ∧
    (∀ s, (∀ x ∈ bs, nm x ≠ s) → Maps.has D (key s) = false)

/-! ### The whole state -/
structure St (base : Nat) (w : World) (T : Nat) (fg : Int) (bs : List Nat) (nm : Nat → ByteArray) (fl : List Nat) : Prop where
  tok : ∃ mv, Blk w T (tokc mv fl.head? fl.getLast? fl.length fg) 44 ∧ MapIs w mv bs nm ∧ ∀ M, mv = .map (some M) → base ≤ M
  ents : Ents w bs (fun x => ent (nm x) fg (decide (x ∈ fl)) (prv fl x) (nxt fl x))
  nodup : fl.Nodup
  sub : ∀ x ∈ fl, x ∈ bs
  apart : ∀ x ∈ bs, ∀ y ∈ bs, nm x = nm y → x = y
  len : bs.length ≤ 100000
  flen : fl.length ≤ bs.length
  low : base ≤ T ∧ ∀ x ∈ bs, base ≤ x
  short : ∀ x ∈ bs, (nm x).size ≤ maxLen

/-- What a call upon the Tokens leaves alone: all below base; all rows but those of Tokens and of entries. -/
structure Kp (base : Nat) (w w' : World) : Prop where
  os : w'.os = w.os
  tape : w'.tape = w.tape
  output : w'.output = w.output
  size : w.heap.size ≤ w'.heap.size
  block : ∀ k, k < w.heap.size → (k < base ∨ ∃ c t f, w.heap[k]? = some (.cells c t f) ∧ t ≠ 44 ∧ t ≠ 53) → w'.heap[k]? = w.heap[k]?

theorem Kp.refl (base : Nat) (w : World) : Kp base w w := ⟨rfl, rfl, rfl, Nat.le_refl _, fun _ _ _ => rfl⟩
theorem Kp.trans {base : Nat} {a b c : World} (h : Kp base a b) (k : Kp base b c) : Kp base a c := by
  refine ⟨k.os.trans h.os, k.tape.trans h.tape, k.output.trans h.output, Nat.le_trans h.size k.size, fun i hi hc => ?_⟩
  have e := h.block i hi hc
  refine (k.block i (Nat.lt_of_lt_of_le hi h.size) ?_).trans e
  rcases hc with hc | ⟨c, t, f, h1, h2⟩
  · exact .inl hc
  · exact .inr ⟨c, t, f, e.trans h1, h2⟩
theorem Kp.of_fr {base : Nat} {S : Nat → Prop} {w w' : World} (h : Fr S w w') (hS : ∀ k, S k → base ≤ k ∧ ((∃ c, w.heap[k]? = some (.cells c 44 (0, 0))) ∨ (∃ c, w.heap[k]? = some (.cells c 53 (0, 0))) ∨ ∃ e n, w.heap[k]? = some (.map e n))) : Kp base w w' := by
  refine ⟨h.os, h.tape, h.output, h.size, fun k hk hc => h.block k hk (fun hs => ?_)⟩
  obtain ⟨h1, h2⟩ := hS k hs
  rcases hc with hc | ⟨c, t, f, h3, h4, h5⟩
  · omega
  · rcases h2 with ⟨c', h2⟩ | ⟨c', h2⟩ | ⟨e', n', h2⟩ <;> rw [h3] at h2 <;> simp at h2
    · exact h4 h2.2.1
    · exact h5 h2.2.1
theorem Kp.below {base : Nat} {w w' : World} (h : Kp base w w') (hb : base ≤ w.heap.size) : Below base w w' :=
  ⟨h.os, h.tape, h.output, h.size, fun k hk => h.block k (Nat.lt_of_lt_of_le hk hb) (.inl hk)⟩

theorem MapIs.same {w w' : World} {mv : Value} {bs : List Nat} {nm : Nat → ByteArray} (h : MapIs w mv bs nm) (e : ∀ M, mv = .map (some M) → w'.heap[M]? = w.heap[M]?) : MapIs w' mv bs nm := by
  rcases h with h | ⟨M, n, D, rfl, ⟨es, clock, hb, r⟩, h2⟩
  · exact .inl h
  · exact .inr ⟨M, n, D, rfl, ⟨es, clock, (e M rfl).trans hb, r⟩, h2⟩
theorem MapIs.map {w : World} {M : Nat} {bs : List Nat} {nm : Nat → ByteArray} (h : MapIs w (.map (some M)) bs nm) : ∃ e n, w.heap[M]? = some (.map e n) := by
  rcases h with ⟨h, _⟩ | ⟨M', n, D, h, ⟨es, clock, hb, r⟩, h2⟩
  · cases h
  · simp at h
    subst h
    exact ⟨_, _, hb⟩

/-- The blocks of the state. -/
def Own (T : Nat) (bs : List Nat) (k : Nat) : Prop := k = T ∨ k ∈ bs

theorem own_kp {base : Nat} {w w' : World} {T : Nat} {bs : List Nat} {cs : Array Value} {f : Nat → Array Value} (hT : Blk w T cs 44) (hE : Ents w bs f) (hl : base ≤ T ∧ ∀ x ∈ bs, base ≤ x) (h : Fr (Own T bs) w w') : Kp base w w' := by
  refine Kp.of_fr h (fun k hk => ?_)
  rcases hk with rfl | hk
  · exact ⟨hl.1, .inl ⟨_, hT⟩⟩
  · exact ⟨hl.2 k hk, .inr (.inl ⟨_, hE k hk⟩)⟩
theorem own_map {w w' : World} {T : Nat} {bs : List Nat} {cs : Array Value} {f : Nat → Array Value} {mv : Value} {nm : Nat → ByteArray} (hT : Blk w T cs 44) (hE : Ents w bs f) (hM : MapIs w mv bs nm) (h : Fr (Own T bs) w w') : MapIs w' mv bs nm := by
  refine hM.same (fun M e => ?_)
  subst e
  obtain ⟨es, n, hm⟩ := hM.map
  refine h.block M (lt_of_block hm) ?_
  intro hk
  rcases hk with rfl | hk
  · unfold Blk at hT; rw [hT] at hm; simp at hm
  · have := hE M hk; unfold Blk at this; rw [this] at hm; simp at hm

theorem link_del (fl : List Nat) (hn : fl.Nodup) (b x : Nat) (hx : x ≠ b) :
    prv (del fl b) x = (if nxt fl b = some x then prv fl b else prv fl x) ∧ nxt (del fl b) x = (if prv fl b = some x then nxt fl b else nxt fl x) := by
  rw [prv_del fl hn b x hx, nxt_del fl hn b x hx]
  constructor
  · by_cases h : nxt fl b = some x
    · rw [if_pos h, if_pos (prv_of_nxt hn h)]
    · rw [if_neg h, if_neg (fun h' => h (nxt_of_prv hn h'))]
  · by_cases h : prv fl b = some x
    · rw [if_pos h, if_pos (nxt_of_prv hn h)]
    · rw [if_neg h, if_neg (fun h' => h (prv_of_nxt hn h'))]

/-- What an unlinked state's entry is. -/
theorem ent_del (fl : List Nat) (hn : fl.Nodup) (b x : Nat) (nm : ByteArray) (fg : Int) :
    ent nm fg (decide (x ∈ del fl b)) (prv (del fl b) x) (nxt (del fl b) x) =
      ent nm fg (if x = b then false else decide (x ∈ fl)) (if x = b then none else if nxt fl b = some x then prv fl b else prv fl x) (if x = b then none else if prv fl b = some x then nxt fl b else nxt fl x) := by
  by_cases h : x = b
  · subst h
    have hm : x ∉ del fl x := by rw [del_mem]; simp
    rw [prv_out _ _ hm, nxt_out _ _ hm]
    simp [hm]
  · rw [(link_del fl hn b x h).1, (link_del fl hn b x h).2]
    simp [h, del_mem]

set_option maxHeartbeats 1000000 in
/-- unlink takes a free entry out. -/
theorem unlink_st (base T : Nat) (fg : Int) (bs : List Nat) (nm : Nat → ByteArray) (fl : List Nat) (b : Nat) (w : World) (h : St base w T fg bs nm fl) (hb : b ∈ fl) :
    Calls Try.prog 29 #[.pointer (some ⟨T, 0, none⟩), .pointer (some ⟨b, 0, none⟩)] w fun e w' => e = .returned (.tuple #[]) ∧ St base w' T fg bs nm (del fl b) ∧ Kp base w w' := by
  obtain ⟨⟨mv, hT, hM, hMb⟩, hE, hn, hsub, hap, hlen, hfl, hlow, hsh⟩ := h
  have hbb := hsub b hb
  have hTb : T ∉ bs := tok_not hT hE
  have hB : Blk w b (ent (nm b) fg (decide (b ∈ fl)) (prv fl b) (nxt fl b)) 53 := hE b hbb
  have hc1 : (1 : Int) ≤ (fl.length : Int) := by have := List.length_pos_of_mem hb; omega
  have hc2 : (fl.length : Int) ≤ 1000000 := by omega
  have hdl := del_length fl hn b hb
  have hne : T ≠ b := fun e => hTb (by rw [e]; exact hbb)
  have hh := head_del fl hn b hb
  have hl := last_del fl hn b hb
  have fin : ∀ w', Blk w' T (tokc mv (del fl b).head? (del fl b).getLast? ((fl.length : Int) - 1) fg) 44 → Ents w' bs (fun x => ent (nm x) fg (if x = b then false else decide (x ∈ fl)) (if x = b then none else if nxt fl b = some x then prv fl b else prv fl x) (if x = b then none else if prv fl b = some x then nxt fl b else nxt fl x)) → Fr (Own T bs) w w' → St base w' T fg bs nm (del fl b) ∧ Kp base w w' := by
    intro w' h1 h2 h3
    refine ⟨⟨⟨mv, ?_, own_map hT hE hM h3, hMb⟩, h2.as (fun x _ => (ent_del fl hn b x (nm x) fg).symm), del_nodup hn b, fun x hx => hsub x (del_mem.1 hx).1, hap, hlen, by omega, hlow, hsh⟩, own_kp hT hE hlow h3⟩
    rw [show ((del fl b).length : Int) = (fl.length : Int) - 1 by omega]
    exact h1
  cases hp : prv fl b with
  | none =>
    cases hq : nxt fl b with
    | none =>
      rw [hp, hq] at hB
      refine (unlink_nn T b mv _ _ _ fg _ _ w hT hB hc1 hc2 hne).mono ?_
      rintro e w' ⟨rfl, rfl⟩
      refine ⟨rfl, fin _ ?_ ?_ ?_⟩
      · exact Blk.as (((((((hT).set 1 _).set 2 _).setOther hne 3 _).setOther hne 4 _).setOther hne 5 _).set 3 _) (by simp [hh, hl, hp, hq, tokc, ptr])
      · refine Ents.as (((((((hE).tok hTb 1 _).tok hTb 2 _).set b 3 _).set b 4 _).set b 5 _).tok hTb 3 _) (fun x _ => ?_)
        by_cases h1 : x = b
        · subst h1
          simp [ent, ptr, hp, hq]
        · simp [hp, hq, h1]
      · exact ((((((Fr.refl _ w).set (.inl rfl) 1 _).set (.inl rfl) 2 _).set (.inr hbb) 3 _).set (.inr hbb) 4 _).set (.inr hbb) 5 _).set (.inl rfl) 3 _
    | some q =>
      have hqm := nxt_mem fl b q hq
      have hqb : q ≠ b := fun e => nxt_ne fl hn b (by rw [hq, e])
      have hqT : q ≠ T := fun e => hTb (by rw [← e]; exact hsub q hqm.2)
      have hQ := hE q (hsub q hqm.2)
      rw [hp, hq] at hB
      refine (unlink_ns T b q mv _ _ _ fg _ _ w hT hB hc1 hc2 hne ⟨_, hQ.cell (i := 4) rfl⟩ (hQ.free 4) hqT hqb).mono ?_
      rintro e w' ⟨rfl, rfl⟩
      refine ⟨rfl, fin _ ?_ ?_ ?_⟩
      · exact Blk.as ((((((((hT).set 1 _).setOther (fun e => hqT e.symm) 4 _).setOther hne 3 _).setOther hne 4 _).setOther hne 5 _).set 3 _).drew) (by simp [hh, hl, hp, hq, tokc, ptr])
      · refine Ents.as ((((((((hE).tok hTb 1 _).set q 4 _).set b 3 _).set b 4 _).set b 5 _).tok hTb 3 _).drew) (fun x _ => ?_)
        by_cases h1 : x = b
        · subst h1
          simp [ent, ptr, hp, hq, Ne.symm hqb]
        · by_cases h2 : x = q
          · subst h2; simp [ent, ptr, hp, hq, h1]
          · simp [ent, ptr, hp, hq, h1, h2, (show ¬ _ = x from fun e => h2 (Eq.symm e))]
      · exact (((((((Fr.refl _ w).set (.inl rfl) 1 _).set (.inr (hsub q hqm.2)) 4 _).set (.inr hbb) 3 _).set (.inr hbb) 4 _).set (.inr hbb) 5 _).set (.inl rfl) 3 _).drew
  | some p =>
    cases hq : nxt fl b with
    | none =>
      have hpm := prv_mem fl b p hp
      have hpb : p ≠ b := fun e => prv_ne fl hn b (by rw [hp, e])
      have hpT : p ≠ T := fun e => hTb (by rw [← e]; exact hsub p hpm.2)
      have hP := hE p (hsub p hpm.2)
      rw [hp, hq] at hB
      refine (unlink_sn T b p mv _ _ _ fg _ _ w hT hB hc1 hc2 hne ⟨_, hP.cell (i := 5) rfl⟩ (hP.free 5) hpT hpb).mono ?_
      rintro e w' ⟨rfl, rfl⟩
      refine ⟨rfl, fin _ ?_ ?_ ?_⟩
      · exact Blk.as ((((((((hT).setOther (fun e => hpT e.symm) 5 _).set 2 _).setOther hne 3 _).setOther hne 4 _).setOther hne 5 _).set 3 _).drew) (by simp [hh, hl, hp, hq, tokc, ptr])
      · refine Ents.as ((((((((hE).set p 5 _).tok hTb 2 _).set b 3 _).set b 4 _).set b 5 _).tok hTb 3 _).drew) (fun x _ => ?_)
        by_cases h1 : x = b
        · subst h1
          simp [ent, ptr, hp, hq, Ne.symm hpb]
        · by_cases h2 : x = p
          · subst h2; simp [ent, ptr, hp, hq, h1]
          · simp [ent, ptr, hp, hq, h1, h2, (show ¬ _ = x from fun e => h2 (Eq.symm e))]
      · exact (((((((Fr.refl _ w).set (.inr (hsub p hpm.2)) 5 _).set (.inl rfl) 2 _).set (.inr hbb) 3 _).set (.inr hbb) 4 _).set (.inr hbb) 5 _).set (.inl rfl) 3 _).drew
    | some q =>
      have hpm := prv_mem fl b p hp
      have hpb : p ≠ b := fun e => prv_ne fl hn b (by rw [hp, e])
      have hpT : p ≠ T := fun e => hTb (by rw [← e]; exact hsub p hpm.2)
      have hP := hE p (hsub p hpm.2)
      have hqm := nxt_mem fl b q hq
      have hqb : q ≠ b := fun e => nxt_ne fl hn b (by rw [hq, e])
      have hqT : q ≠ T := fun e => hTb (by rw [← e]; exact hsub q hqm.2)
      have hQ := hE q (hsub q hqm.2)
      rw [hp, hq] at hB
      refine (unlink_ss T b p q mv _ _ _ fg _ _ w hT hB hc1 hc2 hne ⟨_, hP.cell (i := 5) rfl⟩ (hP.free 5) hpT hpb ⟨_, hQ.cell (i := 4) rfl⟩ (hQ.free 4) hqT hqb).mono ?_
      rintro e w' ⟨rfl, rfl⟩
      refine ⟨rfl, fin _ ?_ ?_ ?_⟩
      · exact Blk.as (((((((((hT).setOther (fun e => hpT e.symm) 5 _).setOther (fun e => hqT e.symm) 4 _).setOther hne 3 _).setOther hne 4 _).setOther hne 5 _).set 3 _).drew).drew) (by simp [hh, hl, hp, hq, tokc, ptr])
      · refine Ents.as (((((((((hE).set p 5 _).set q 4 _).set b 3 _).set b 4 _).set b 5 _).tok hTb 3 _).drew).drew) (fun x _ => ?_)
        by_cases h1 : x = b
        · subst h1
          simp [ent, ptr, hp, hq, Ne.symm hpb, Ne.symm hqb]
        · by_cases h2 : x = p
          · subst h2
            by_cases h3 : x = q
            · subst h3; simp [ent, ptr, hp, hq, h1]
            · simp [ent, ptr, hp, hq, h1, h3, (show ¬ _ = x from fun e => h3 (Eq.symm e))]
          · by_cases h3 : x = q
            · subst h3; simp [ent, ptr, hp, hq, h1, h2, (show ¬ _ = x from fun e => h2 (Eq.symm e))]
            · simp [ent, ptr, hp, hq, h1, h2, h3, (show ¬ _ = x from fun e => h2 (Eq.symm e)), (show ¬ _ = x from fun e => h3 (Eq.symm e))]
      · exact ((((((((Fr.refl _ w).set (.inr (hsub p hpm.2)) 5 _).set (.inr (hsub q hqm.2)) 4 _).set (.inr hbb) 3 _).set (.inr hbb) 4 _).set (.inr hbb) 5 _).set (.inl rfl) 3 _).drew).drew

end Go.Proofs.Qxb6002789a.Tok
