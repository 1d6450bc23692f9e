import Derived.Test.Qxb6002789aMatch
namespace Go.Proofs.Qxb6002789a.Tok
open Go.RowKit Go.Deep Go.ChangeShapes Lk

/-- The whole of what the script's loop carries: the Tokens, the three slices (names, ptrs, order), and that the slices of strings do not lie in one row. -/
structure Sc (base T : Nat) (fg : Int) (w3 : World) (bs : List Nat) (nm : Nat → ByteArray) (fl : List Nat) (vN : Value) (ln : List ByteArray) (vP : Value) (lp : List Nat) (vO : Value) (lo : List ByteArray) (w : World) : Prop where
  st : St base w T fg bs nm fl
  kp : Kp base w3 w
  sn : SL w w3.heap.size vN ln
  sp : PL w w3.heap.size vP lp
  so : SL w w3.heap.size vO lo
  ap : ∀ g, vN.ownBlock = some g → vO.ownBlock ≠ some g

section
variable {base T : Nat} {fg : Int} {w3 : World} {bs : List Nat} {nm : Nat → ByteArray} {fl : List Nat} {vN : Value} {ln : List ByteArray} {vP : Value} {lp : List Nat} {vO : Value} {lo : List ByteArray} {w w' : World}

/-- Over a call upon the Tokens. -/
theorem Sc.op (h : Sc base T fg w3 bs nm fl vN ln vP lp vO lo w) {bs' : List Nat} {nm' : Nat → ByteArray} {fl' : List Nat} (hs : St base w' T fg bs' nm' fl') (hk : Kp base w w') : Sc base T fg w3 bs' nm' fl' vN ln vP lp vO lo w' :=
  ⟨hs, h.kp.trans hk, h.sn.kp hk, h.sp.kp hk, h.so.kp hk, h.ap⟩

theorem kp_below (hk : Kp base w3 w) (hb : Below w.heap.size w w') : Kp base w3 w' :=
  ⟨hb.os.trans hk.os, hb.tape.trans hk.tape, hb.output.trans hk.output, Nat.le_trans hk.size hb.size, fun k hlt hc => (hb.block k (Nat.lt_of_lt_of_le hlt hk.size)).trans (hk.block k hlt hc)⟩

/-- Over a call that makes new blocks alone. -/
theorem Sc.below (h : Sc base T fg w3 bs nm fl vN ln vP lp vO lo w) (hb : Below w.heap.size w w') : Sc base T fg w3 bs nm fl vN ln vP lp vO lo w' :=
  ⟨h.st.below hb, kp_below h.kp hb, h.sn.below hb, h.sp.below hb, h.so.below hb, h.ap⟩

/-- A new order. -/
theorem Sc.newO (h : Sc base T fg w3 bs nm fl vN ln vP lp vO lo w) (hb : Below w.heap.size w w') {v' : Value} {lo' : List ByteArray} (hs : SL w' w.heap.size v' lo') : Sc base T fg w3 bs nm fl vN ln vP lp v' lo' w' :=
  ⟨h.st.below hb, kp_below h.kp hb, h.sn.below hb, h.sp.below hb, hs.weaken h.kp.size, fun g hg e => by
    have h1 := (h.sn.blk g hg).2
    have h2 := (hs.blk g e).1
    omega⟩

theorem step_same {o : Obj} {row : Option Nat} (hg : (w.alloc o).grownBy w' row) {g : Nat} (hlt : g < w.heap.size) (hne : some g ≠ row) : w'.heap[g]? = w.heap[g]? :=
  (hg.block g (by simp; omega) hne).trans (Below.heap_alloc _ _ _ hlt)

theorem step_st {o : Obj} {row : Option Nat} (h : St base w T fg bs nm fl) (hg : (w.alloc o).grownBy w' row) (hr : ∀ g, row = some g → ∃ c t, w.heap[g]? = some (.cells c t (0, 0)) ∧ t ≠ 44 ∧ t ≠ 53) : St base w' T fg bs nm fl := by
  refine (h.below ((Below.refl _ _).alloc (Nat.le_refl _) o)).grown hg (fun g e => ?_)
  obtain ⟨c, t, h1, h2, h3⟩ := hr g e
  exact ⟨c, t, _, (Below.heap_alloc _ _ _ (lt_of_block h1)).trans h1, h2, h3⟩

theorem step_kp {o : Obj} {row : Option Nat} (hk : Kp base w3 w) (hg : (w.alloc o).grownBy w' row) (hr : ∀ g, row = some g → w3.heap.size ≤ g) : Kp base w3 w' :=
  ⟨hg.os.trans hk.os, hg.tape.trans hk.tape, hg.output.trans hk.output, by have h1 := hg.size; have h2 := hk.size; simp at h1; omega, fun k hlt hc => (step_same hg (Nat.lt_of_lt_of_le hlt hk.size) (fun e => by have := hr k e.symm; omega)).trans (hk.block k hlt hc)⟩

theorem sl_not_pl (hs : SL w w3.heap.size vN ln) (hp : PL w w3.heap.size vP lp) : ∀ g, vP.ownBlock = some g → some g ≠ vN.ownBlock := by
  intro g hg e
  obtain ⟨c, hc⟩ := hp.row g hg
  obtain ⟨c', hc'⟩ := hs.row g e.symm
  rw [hc] at hc'
  simp at hc'

/-- append(names, u). -/
theorem Sc.appN (h : Sc base T fg w3 bs nm fl vN ln vP lp vO lo w) {u : ByteArray} {v' : Value} (hown : w'.ownsRow w3.heap.size 9 1 v' (ln.length + 1) (ln.map Value.string ++ [.string u])) (hg : (w.alloc (.cells #[.string u] 9)).grownBy w' vN.ownBlock) (hloc : v'.ownBlock = vN.ownBlock ∨ v'.ownBlock = some (w.alloc (.cells #[.string u] 9)).heap.size) :
    Sc base T fg w3 bs nm fl v' (ln ++ [u]) vP lp vO lo w' := by
  refine ⟨step_st h.st hg (fun g e => ?_), step_kp h.kp hg (fun g e => (h.sn.blk g e).1), by unfold SL; simpa using hown, h.sp.same (fun g e => step_same hg (h.sp.blk g e).2 (sl_not_pl h.sn h.sp g e)), h.so.same (fun g e => step_same hg (h.so.blk g e).2 (fun e' => h.ap g e'.symm e)), fun g e => ?_⟩
  · obtain ⟨c, hc⟩ := h.sn.row g e
    exact ⟨c, 9, hc, by decide, by decide⟩
  · rcases hloc with hl | hl
    · rw [hl] at e
      exact h.ap g e
    · rw [hl] at e
      intro e'
      have h1 := (h.so.blk g e').2
      simp at e
      omega

/-- append(order, u). -/
theorem Sc.appO (h : Sc base T fg w3 bs nm fl vN ln vP lp vO lo w) {u : ByteArray} {v' : Value} (hown : w'.ownsRow w3.heap.size 9 1 v' (lo.length + 1) (lo.map Value.string ++ [.string u])) (hg : (w.alloc (.cells #[.string u] 9)).grownBy w' vO.ownBlock) (hloc : v'.ownBlock = vO.ownBlock ∨ v'.ownBlock = some (w.alloc (.cells #[.string u] 9)).heap.size) :
    Sc base T fg w3 bs nm fl vN ln vP lp v' (lo ++ [u]) w' := by
  refine ⟨step_st h.st hg (fun g e => ?_), step_kp h.kp hg (fun g e => (h.so.blk g e).1), h.sn.same (fun g e => step_same hg (h.sn.blk g e).2 (fun e' => h.ap g e e'.symm)), h.sp.same (fun g e => step_same hg (h.sp.blk g e).2 (sl_not_pl h.so h.sp g e)), by unfold SL; simpa using hown, fun g e => ?_⟩
  · obtain ⟨c, hc⟩ := h.so.row g e
    exact ⟨c, 9, hc, by decide, by decide⟩
  · rcases hloc with hl | hl
    · rw [hl]
      exact h.ap g e
    · rw [hl]
      intro e'
      have h1 := (h.sn.blk g e).2
      simp at e'
      omega

/-- append(ptrs, e). -/
theorem Sc.appP (h : Sc base T fg w3 bs nm fl vN ln vP lp vO lo w) {x : Nat} {v' : Value} (hown : w'.ownsRow w3.heap.size 34 1 v' (lp.length + 1) (lp.map pp ++ [.pointer (some ⟨x, 0, none⟩)])) (hg : (w.alloc (.cells #[.pointer (some ⟨x, 0, none⟩)] 34)).grownBy w' vP.ownBlock) :
    Sc base T fg w3 bs nm fl vN ln v' (lp ++ [x]) vO lo w' := by
  refine ⟨step_st h.st hg (fun g e => ?_), step_kp h.kp hg (fun g e => (h.sp.blk g e).1), h.sn.same (fun g e => step_same hg (h.sn.blk g e).2 (fun e' => sl_not_pl h.sn h.sp g e'.symm e.symm)), by unfold PL; simpa [pp] using hown, h.so.same (fun g e => step_same hg (h.so.blk g e).2 (fun e' => sl_not_pl h.so h.sp g e'.symm e.symm)), h.ap⟩
  obtain ⟨c, hc⟩ := h.sp.row g e
  exact ⟨c, 34, hc, by decide, by decide⟩
end

/-- The loop's relation. -/
def ScRel (base T : Nat) (fg : Int) (n : Nat) (w3 : World) (vN vP vO i : Value) (wr : World) : Prop :=
  ∃ (k : Nat) (bs : List Nat) (nm : Nat → ByteArray) (fl : List Nat), k ≤ n ∧ i = .int .i64 k ∧ bs.length ≤ k ∧ Sc base T fg w3 bs nm fl vN (bs.map nm) vP bs vO (fl.map nm) wr

theorem Sc.as {base T : Nat} {fg : Int} {w3 : World} {bs : List Nat} {nm : Nat → ByteArray} {fl : List Nat} {vN : Value} {ln ln' : List ByteArray} {vP : Value} {lp lp' : List Nat} {vO : Value} {lo lo' : List ByteArray} {w : World} (h : Sc base T fg w3 bs nm fl vN ln vP lp vO lo w) (e1 : ln = ln') (e2 : lp = lp') (e3 : lo = lo') : Sc base T fg w3 bs nm fl vN ln' vP lp' vO lo' w := by
  subst e1 e2 e3
  exact h

/-! ### The free list behind a free -/
theorem free_no {bs fl fl' : List Nat} {nm : Nat → ByteArray} {u : ByteArray} (hap : ∀ x ∈ bs, ∀ y ∈ bs, nm x = nm y → x = y) (hsub : ∀ y ∈ fl, y ∈ bs) (h : u ∉ bs.map nm ∨ u ∈ fl.map nm)
    (hc : (fl' = fl ∧ ((∀ x ∈ bs, nm x ≠ u) ∨ ∃ x ∈ fl, nm x = u)) ∨ ∃ x ∈ bs, x ∉ fl ∧ nm x = u ∧ fl' = fl ++ [x]) : fl' = fl := by
  rcases hc with ⟨rfl, _⟩ | ⟨x, hx, hxf, e, rfl⟩
  · rfl
  · rcases h with h | h
    · exact absurd (by rw [← e]; exact List.mem_map_of_mem hx) h
    · obtain ⟨y, hy, e'⟩ := List.mem_map.1 h
      have := hap y (hsub y hy) x hx (by rw [e, e'])
      exact absurd hy (by rw [this]; exact hxf)
theorem free_yes {bs fl fl' : List Nat} {nm : Nat → ByteArray} {u : ByteArray} (h1 : u ∈ bs.map nm) (h2 : u ∉ fl.map nm)
    (hc : (fl' = fl ∧ ((∀ x ∈ bs, nm x ≠ u) ∨ ∃ x ∈ fl, nm x = u)) ∨ ∃ x ∈ bs, x ∉ fl ∧ nm x = u ∧ fl' = fl ++ [x]) : fl'.map nm = fl.map nm ++ [u] := by
  rcases hc with ⟨_, hc | ⟨x, hx, e⟩⟩ | ⟨x, hx, hxf, e, rfl⟩
  · obtain ⟨x, hx, e⟩ := List.mem_map.1 h1
    exact absurd e (hc x hx)
  · exact absurd (by rw [← e]; exact List.mem_map_of_mem hx) h2
  · simp [e]
theorem hold_yes {bs bs' : List Nat} {nm nm' : Nat → ByteArray} {u : ByteArray} {x : Nat} (h : u ∈ bs.map nm)
    (hc : (bs' = bs ∧ nm' = nm) ∨ (x ∉ bs ∧ (∀ y ∈ bs, nm y ≠ u) ∧ bs' = bs ++ [x] ∧ nm' = upd nm x u)) : bs' = bs ∧ nm' = nm := by
  rcases hc with hc | ⟨_, hc, _⟩
  · exact hc
  · obtain ⟨y, hy, e⟩ := List.mem_map.1 h
    exact absurd e (hc y hy)
theorem hold_no {bs bs' : List Nat} {nm nm' : Nat → ByteArray} {u : ByteArray} {x : Nat} (h : u ∉ bs.map nm) (hx : x ∈ bs') (hn : nm' x = u)
    (hc : (bs' = bs ∧ nm' = nm) ∨ (x ∉ bs ∧ (∀ y ∈ bs, nm y ≠ u) ∧ bs' = bs ++ [x] ∧ nm' = upd nm x u)) : x ∉ bs ∧ bs' = bs ++ [x] ∧ bs'.map nm' = bs.map nm ++ [u] := by
  rcases hc with ⟨rfl, rfl⟩ | ⟨h1, _, rfl, rfl⟩
  · exact absurd (by rw [← hn]; exact List.mem_map_of_mem hx) h
  · refine ⟨h1, rfl, ?_⟩
    rw [List.map_append, upd_names h1 bs (fun y hy => hy)]
    simp [hn]
end Go.Proofs.Qxb6002789a.Tok
