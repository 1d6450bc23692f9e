import Derived.Test.Qxb6002789aHold
namespace Go.Proofs.Qxb6002789a.Tok
open Go.RowKit Go.Deep Go.ChangeShapes Lk

set_option maxHeartbeats 1000000 in
theorem free_first (T x M : Nat) (hd : Option Nat) (cnt fg : Int) (nm : ByteArray) (fr : Bool) (o n : Option Nat) (w : World) (hT : Blk w T (tokc (.map (some M)) hd none cnt fg) 44) (hb : Blk w x (ent nm fg fr o n) 53) (hf : fr = false) (hc : 0 ≤ cnt) (hc' : cnt ≤ 1000000) (hne : T ≠ x)
    (hrun : (Instr.lookup 42 (.map (some M)) (.string nm) true).run Try.prog w = .ok (.tuple #[.pointer (some ⟨x, 0, none⟩), .bool true]) w) :
    Calls Try.prog 19 #[.pointer (some ⟨T, 0, none⟩), .string nm] w fun e w' => e = .returned (.tuple #[]) ∧
      w' = (((((w.setCell ⟨x, 3, none⟩ (.bool true)).setCell ⟨x, 4, none⟩ (.pointer none)).setCell ⟨x, 5, none⟩ (.pointer none)).setCell ⟨T, 1, none⟩ (.pointer (some ⟨x, 0, none⟩))).setCell ⟨T, 2, none⟩ (.pointer (some ⟨x, 0, none⟩))).setCell ⟨T, 3, none⟩ (.int .i64 (cnt + 1)) := by
  subst hf
  have t0 := hT.cell (i := 0) (v := .map (some M)) rfl
  have t1 := hT.cell (i := 1) (v := ptr hd) rfl
  have t2 := hT.cell (i := 2) (v := .pointer none) rfl
  have t3 := hT.cell (i := 3) (v := .int .i64 cnt) rfl
  have e3 := hb.cell (i := 3) (v := .bool false) rfl
  have e4 := hb.cell (i := 4) (v := ptr o) rfl
  have e5 := hb.cell (i := 5) (v := ptr n) rfl
  have ft1 := hT.free 1
  have ft2 := hT.free 2
  have ft3 := hT.free 3
  have fe3 := hb.free 3
  have fe4 := hb.free 4
  have fe5 := hb.free 5
  have hne' : x ≠ T := fun e => hne e.symm
  clear hT hb
  go_enter Try.func19, Try.ntmps19
  go_wp2
  go_end0
  exact ⟨rfl, rfl⟩

set_option maxHeartbeats 1000000 in
theorem free_later (T x l M : Nat) (hd : Option Nat) (cnt fg : Int) (nm : ByteArray) (fr : Bool) (o n : Option Nat) (w : World) (hT : Blk w T (tokc (.map (some M)) hd (some l) cnt fg) 44) (hb : Blk w x (ent nm fg fr o n) 53) (hf : fr = false) (hc : 0 ≤ cnt) (hc' : cnt ≤ 1000000) (hne : T ≠ x)
    (hp : ∃ v, w.cell? ⟨l, 5, none⟩ = some v) (fp : w.frozen? ⟨l, 5, none⟩ = false) (hlT : l ≠ T) (hlx : l ≠ x)
    (hrun : (Instr.lookup 42 (.map (some M)) (.string nm) true).run Try.prog w = .ok (.tuple #[.pointer (some ⟨x, 0, none⟩), .bool true]) w) :
    Calls Try.prog 19 #[.pointer (some ⟨T, 0, none⟩), .string nm] w fun e w' => e = .returned (.tuple #[]) ∧
      w' = (((((w.setCell ⟨x, 3, none⟩ (.bool true)).setCell ⟨x, 4, none⟩ (.pointer (some ⟨l, 0, none⟩))).setCell ⟨x, 5, none⟩ (.pointer none)).setCell ⟨l, 5, none⟩ (.pointer (some ⟨x, 0, none⟩))).setCell ⟨T, 2, none⟩ (.pointer (some ⟨x, 0, none⟩))).setCell ⟨T, 3, none⟩ (.int .i64 (cnt + 1)) := by
  subst hf
  have t0 := hT.cell (i := 0) (v := .map (some M)) rfl
  have t2 := hT.cell (i := 2) (v := .pointer (some ⟨l, 0, none⟩)) rfl
  have t3 := hT.cell (i := 3) (v := .int .i64 cnt) rfl
  have e3 := hb.cell (i := 3) (v := .bool false) rfl
  have e4 := hb.cell (i := 4) (v := ptr o) rfl
  have e5 := hb.cell (i := 5) (v := ptr n) rfl
  have ft2 := hT.free 2
  have ft3 := hT.free 3
  have fe3 := hb.free 3
  have fe4 := hb.free 4
  have fe5 := hb.free 5
  obtain ⟨vp, hp⟩ := hp
  have hne' : x ≠ T := fun e => hne e.symm
  have hlT' : T ≠ l := fun e => hlT e.symm
  have hlx' : x ≠ l := fun e => hlx e.symm
  clear hT hb
  go_enter Try.func19, Try.ntmps19
  go_wp2
  go_end0
  exact ⟨rfl, rfl⟩

/-- A list without repeats is no longer than one that holds it. -/
theorem len_le : ∀ (l m : List Nat), l.Nodup → (∀ x ∈ l, x ∈ m) → l.length ≤ m.length
  | [], _, _, _ => Nat.zero_le _
  | a :: l, m, hn, h => by
    rw [List.nodup_cons] at hn
    have ha : a ∈ m := h a (by simp)
    have h1 := len_le l (m.erase a) hn.2 (fun x hx => (List.mem_erase_of_ne (fun e => hn.1 (by rw [← e]; exact hx))).2 (h x (List.mem_cons_of_mem _ hx)))
    have h2 := List.length_erase_of_mem ha
    have h3 := List.length_pos_of_mem ha
    simp
    omega

theorem ent_snoc (fl : List Nat) (hn : fl.Nodup) (x y : Nat) (hx : x ∉ fl) (nm : ByteArray) (fg : Int) :
    ent nm fg (decide (y ∈ fl ++ [x])) (prv (fl ++ [x]) y) (nxt (fl ++ [x]) y) =
      ent nm fg (if y = x then true else decide (y ∈ fl)) (if y = x then fl.getLast? else prv fl y) (if y = x then none else if fl.getLast? = some y then some x else nxt fl y) := by
  rw [prv_snoc]
  by_cases h : y = x
  · subst h
    rw [nxt_snoc_self fl y hx]
    simp
  · rw [nxt_snoc fl hn x y hx h, if_neg (fun e => h (Eq.symm e))]
    simp [h]

set_option maxHeartbeats 1000000 in
/-- free puts a held resource last. -/
theorem free_held (base T : Nat) (fg : Int) (bs : List Nat) (nm : Nat → ByteArray) (fl : List Nat) (x : Nat) (w : World) (h : St base w T fg bs nm fl) (hx : x ∈ bs) (hf : x ∉ fl) :
    Calls Try.prog 19 #[.pointer (some ⟨T, 0, none⟩), .string (nm x)] w fun e w' => e = .returned (.tuple #[]) ∧ St base w' T fg bs nm (fl ++ [x]) ∧ Kp base w w' := by
  obtain ⟨⟨mv, hT, hM, hMb⟩, hE, hn, hsub, hap, hlen, hfl, hlow, hsh⟩ := h
  have hTb : T ∉ bs := tok_not hT hE
  have hB : Blk w x (ent (nm x) fg (decide (x ∈ fl)) (prv fl x) (nxt fl x)) 53 := hE x hx
  have hc1 : (0 : Int) ≤ (fl.length : Int) := by omega
  have hc2 : (fl.length : Int) ≤ 1000000 := by omega
  have hne : T ≠ x := fun e => hTb (by rw [e]; exact hx)
  have hrun0 := hM
  obtain ⟨M, rfl⟩ := map_shape hM hx
  have hrun := look_hit hM hx (hsh x hx)
  have hfr : decide (x ∈ fl) = false := by simpa using hf
  have hcount : fl.length + 1 ≤ bs.length := by
    have h1 : (x :: fl).length ≤ bs.length := len_le _ _ (by rw [List.nodup_cons]; exact ⟨hf, hn⟩) (fun y hy => by
      rcases List.mem_cons.1 hy with rfl | hy
      · exact hx
      · exact hsub y hy)
    simpa using h1
  have fin : ∀ w', Blk w' T (tokc (.map (some M)) (fl ++ [x]).head? (fl ++ [x]).getLast? ((fl.length : Int) + 1) fg) 44 → Ents w' bs (fun y => ent (nm y) fg (if y = x then true else decide (y ∈ fl)) (if y = x then fl.getLast? else prv fl y) (if y = x then none else if fl.getLast? = some y then some x else nxt fl y)) → Fr (Own T bs) w w' → St base w' T fg bs nm (fl ++ [x]) ∧ Kp base w w' := by
    intro w' h1 h2 h3
    refine ⟨⟨⟨_, ?_, own_map hT hE hM h3, hMb⟩, h2.as (fun y _ => (ent_snoc fl hn x y hf (nm y) fg).symm), ?_, ?_, hap, hlen, by simpa using hcount, hlow, hsh⟩, own_kp hT hE hlow h3⟩
    · rw [show ((fl ++ [x]).length : Int) = (fl.length : Int) + 1 by simp]
      exact h1
    · rw [List.nodup_append]
      refine ⟨hn, by simp, ?_⟩
      intro a ha b hb e
      simp at hb
      subst hb
      subst e
      exact hf ha
    · intro y hy
      rcases List.mem_append.1 hy with hy | hy
      · exact hsub y hy
      · simp at hy
        subst hy
        exact hx
  cases hl : fl.getLast? with
  | none =>
    rw [hl] at hT
    have hnil : fl = [] := by simpa using hl
    refine (free_first T x M _ _ fg _ _ _ _ w hT hB hfr hc1 hc2 hne hrun).mono ?_
    rintro e w' ⟨rfl, rfl⟩
    refine ⟨rfl, fin _ ?_ ?_ ?_⟩
    · exact Blk.as ((((((hT.setOther hne 3 _).setOther hne 4 _).setOther hne 5 _).set 1 _).set 2 _).set 3 _) (by subst hnil; simp [tokc, ptr])
    · refine Ents.as ((((((hE.set x 3 _).set x 4 _).set x 5 _).tok hTb 1 _).tok hTb 2 _).tok hTb 3 _) (fun y _ => ?_)
      by_cases h1 : y = x
      · subst h1
        simp [ent, ptr, hl]
      · simp [hl, h1]
    · exact ((((((Fr.refl _ w).set (.inr hx) 3 _).set (.inr hx) 4 _).set (.inr hx) 5 _).set (.inl rfl) 1 _).set (.inl rfl) 2 _).set (.inl rfl) 3 _
  | some l =>
    rw [hl] at hT
    have hlm : l ∈ fl := List.mem_of_getLast? hl
    have hlb := hsub l hlm
    have hlx : l ≠ x := fun e => hf (by rw [← e]; exact hlm)
    have hlT : l ≠ T := fun e => hTb (by rw [← e]; exact hlb)
    have hL := hE l hlb
    refine (free_later T x l M _ _ fg _ _ _ _ w hT hB hfr hc1 hc2 hne ⟨_, hL.cell (i := 5) rfl⟩ (hL.free 5) hlT hlx hrun).mono ?_
    rintro e w' ⟨rfl, rfl⟩
    have hhd : (fl ++ [x]).head? = fl.head? := by cases fl with | nil => simp at hl | cons a fl => rfl
    refine ⟨rfl, fin _ ?_ ?_ ?_⟩
    · exact Blk.as ((((((hT.setOther hne 3 _).setOther hne 4 _).setOther hne 5 _).setOther (fun e => hlT e.symm) 5 _).set 2 _).set 3 _) (by rw [hhd]; simp [tokc, ptr])
    · refine Ents.as ((((((hE.set x 3 _).set x 4 _).set x 5 _).set l 5 _).tok hTb 2 _).tok hTb 3 _) (fun y _ => ?_)
      by_cases h1 : y = x
      · subst h1
        simp [ent, ptr, hl, Ne.symm hlx]
      · by_cases h2 : y = l
        · subst h2
          simp [ent, ptr, hl, h1]
        · simp [hl, h1, h2, (show ¬ l = y from fun e => h2 (Eq.symm e))]
    · exact ((((((Fr.refl _ w).set (.inr hx) 3 _).set (.inr hx) 4 _).set (.inr hx) 5 _).set (.inr hlb) 5 _).set (.inl rfl) 2 _).set (.inl rfl) 3 _
end Go.Proofs.Qxb6002789a.Tok
