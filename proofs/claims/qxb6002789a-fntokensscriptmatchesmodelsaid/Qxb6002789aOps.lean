import Derived.Test.Qxb6002789aWalkIs
import Derived.Test.Qxb6002789aCount
namespace Go.Proofs.Qxb6002789a.Tok
open Go.RowKit Go.Deep Go.ChangeShapes Lk

/-! ### What carries the state, and a slice of strings, over a step -/
theorem St.blocks {base T : Nat} {fg : Int} {bs : List Nat} {nm : Nat → ByteArray} {fl : List Nat} {w w' : World} (h : St base w T fg bs nm fl)
    (e : ∀ k : Nat, (∃ c, w.heap[k]? = some (.cells c 44 (0, 0))) ∨ (∃ c, w.heap[k]? = some (.cells c 53 (0, 0))) ∨ (∃ m n, w.heap[k]? = some (.map m n)) → w'.heap[k]? = w.heap[k]?) : St base w' T fg bs nm fl := by
  obtain ⟨⟨mv, hT, hM, hMb⟩, hE, hn, hsub, hap, hlen, hfl, hlow, hsh⟩ := h
  refine ⟨⟨mv, hT.same (e T (.inl ⟨_, hT⟩)), hM.same (fun M hm => ?_), hMb⟩, fun x hx => (hE x hx).same (e x (.inr (.inl ⟨_, hE x hx⟩))), hn, hsub, hap, hlen, hfl, hlow, hsh⟩
  subst hm
  obtain ⟨m, n, hm⟩ := hM.map
  exact e M (.inr (.inr ⟨m, n, hm⟩))
theorem St.below {base T : Nat} {fg : Int} {bs : List Nat} {nm : Nat → ByteArray} {fl : List Nat} {w w' : World} (h : St base w T fg bs nm fl) (hb : Below w.heap.size w w') : St base w' T fg bs nm fl := by
  refine h.blocks (fun k hk => hb.block k ?_)
  rcases hk with ⟨c, h⟩ | ⟨c, h⟩ | ⟨m, n, h⟩ <;> exact lt_of_block h
/-- Over a write into rows of other kinds. -/
theorem St.grown {base T : Nat} {fg : Int} {bs : List Nat} {nm : Nat → ByteArray} {fl : List Nat} {w w' : World} {row : Option Nat} (h : St base w T fg bs nm fl) (hg : w.grownBy w' row) (hr : ∀ g, row = some g → ∃ c t f, w.heap[g]? = some (.cells c t f) ∧ t ≠ 44 ∧ t ≠ 53) : St base w' T fg bs nm fl := by
  refine h.blocks (fun k hk => ?_)
  have hlt : k < w.heap.size := by rcases hk with ⟨c, h⟩ | ⟨c, h⟩ | ⟨m, n, h⟩ <;> exact lt_of_block h
  refine hg.block k hlt (fun e => ?_)
  obtain ⟨c, t, f, h1, h2, h3⟩ := hr k e.symm
  rcases hk with ⟨c', h⟩ | ⟨c', h⟩ | ⟨m, n, h⟩ <;> rw [h1] at h <;> simp at h
  · exact h2 h.2.1
  · exact h3 h.2.1
theorem St.drewN {base T : Nat} {fg : Int} {bs : List Nat} {nm : Nat → ByteArray} {fl : List Nat} {w : World} (h : St base w T fg bs nm fl) (n : Nat) : St base (w.drewN n) T fg bs nm fl := h.blocks (fun _ _ => rfl)

theorem SL.row {w : World} {base : Nat} {v : Value} {l : List ByteArray} (h : SL w base v l) : ∀ g, v.ownBlock = some g → ∃ c, w.heap[g]? = some (.cells c 9 (0, 0)) := by
  intro g hg
  obtain ⟨h1, h2⟩ := h
  rcases h2 with ⟨rfl, _⟩ | ⟨g', cap, cur, rfl, _, hh, _⟩
  · cases hg
  · cases hg
    exact ⟨_, hh⟩
theorem SL.kp {w w' : World} {base b : Nat} {v : Value} {l : List ByteArray} (h : SL w base v l) (hk : Kp b w w') : SL w' base v l :=
  h.same (fun g hg => by
    obtain ⟨c, hc⟩ := h.row g hg
    exact hk.block g (lt_of_block hc) (.inr ⟨c, 9, _, hc, by decide, by decide⟩))
theorem SL.drewN {w : World} {base : Nat} {v : Value} {l : List ByteArray} (h : SL w base v l) (n : Nat) : SL (w.drewN n) base v l := h.same (fun _ _ => rfl)

/-! ### ZZNewTokens, ZZHold, ZZFree -/
set_option maxHeartbeats 400000 in
theorem newTokens_any (fg : Int) (w : World) :
    Calls Try.prog 9 #[.int .u64 fg] w fun e w' => e = .returned (.pointer (some ⟨w.heap.size, 0, none⟩)) ∧ w' = w.alloc (.cells (tokc (.map none) none none 0 fg) 44) := by
  go_enter Try.func9, Try.ntmps9
  go_wp2
  go_ret
  exact ⟨rfl, rfl⟩

theorem St.start (base : Nat) (fg : Int) (w : World) (hb : base ≤ w.heap.size) (nm : Nat → ByteArray) : St base (w.alloc (.cells (tokc (.map none) none none 0 fg) 44)) w.heap.size fg [] nm [] :=
  ⟨⟨.map none, Blk.new _ _ _, .inl ⟨rfl, rfl⟩, (fun M h => by cases h)⟩, (fun x hx => by cases hx), List.nodup_nil, (fun x hx => by cases hx), (fun x hx => by cases hx), by simp, by simp, ⟨hb, (fun x hx => by cases hx)⟩, (fun x hx => by cases hx)⟩

/-- What ZZHold leaves. -/
def HoldOut (base T : Nat) (fg : Int) (bs : List Nat) (nm : Nat → ByteArray) (fl : List Nat) (r : ByteArray) (w : World) (e : Ending) (w' : World) : Prop :=
  ∃ x bs' nm', e = .returned (.pointer (some ⟨x, 0, none⟩)) ∧ St base w' T fg bs' nm' (del fl x) ∧ Kp base w w' ∧ x ∈ bs' ∧ nm' x = r ∧
    ((bs' = bs ∧ nm' = nm) ∨ (x ∉ bs ∧ (∀ y ∈ bs, nm y ≠ r) ∧ bs' = bs ++ [x] ∧ nm' = upd nm x r))

theorem zzHold_any (base T : Nat) (fg : Int) (bs : List Nat) (nm : Nat → ByteArray) (fl : List Nat) (r : ByteArray) (hr : r.size ≤ maxLen) (w : World) (h : St base w T fg bs nm fl) (hl : bs.length < 100000) (hbase : base ≤ w.heap.size) :
    Calls Try.prog 12 #[.pointer (some ⟨T, 0, none⟩), .string r] w (HoldOut base T fg bs nm fl r w) := by
  by_cases hk : ∃ x ∈ bs, nm x = r
  · obtain ⟨x, hx, rfl⟩ := hk
    by_cases hf : x ∈ fl
    · go_enter Try.func12, Try.ntmps12
      go_wp2_with fail
      refine (hold_free base T fg bs nm fl x _ h hf).mono ?_
      rintro e w' ⟨rfl, h1, h2⟩
      go_wp2_with fail
      go_ret
      exact ⟨x, bs, nm, rfl, h1, h2, hx, rfl, .inl ⟨rfl, rfl⟩⟩
    · go_enter Try.func12, Try.ntmps12
      go_wp2_with fail
      refine (hold_held base T fg bs nm fl x _ h hx hf).mono ?_
      rintro e w' ⟨rfl, rfl⟩
      go_wp2_with fail
      go_ret
      exact ⟨x, bs, nm, rfl, by rw [del_out fl x hf]; exact h, Kp.refl _ _, hx, rfl, .inl ⟨rfl, rfl⟩⟩
  · have hk' : ∀ y ∈ bs, nm y ≠ r := fun y hy e => hk ⟨y, hy, e⟩
    have HK : Hid (∀ y ∈ bs, nm y ≠ r) := hk'
    clear hk hk'
    go_enter Try.func12, Try.ntmps12
    go_wp2_with fail
    refine (new_st base T fg bs nm fl r hr _ h HK.out hl hbase).mono ?_
    rintro e w' ⟨nb, rfl, _, hnb, h1, h2⟩
    go_wp2_with fail
    go_ret
    have hnf : nb ∉ fl := fun hm => hnb (h.sub nb hm)
    exact ⟨nb, _, _, rfl, by rw [del_out fl nb hnf]; exact h1, h2, by simp, by simp [upd], .inr ⟨hnb, HK.out, rfl, rfl⟩⟩

/-- What ZZFree leaves. -/
def FreeOut (base T : Nat) (fg : Int) (bs : List Nat) (nm : Nat → ByteArray) (fl : List Nat) (r : ByteArray) (w : World) (e : Ending) (w' : World) : Prop :=
  e = .returned (.tuple #[]) ∧ ∃ fl', St base w' T fg bs nm fl' ∧ Kp base w w' ∧
    ((fl' = fl ∧ ((∀ x ∈ bs, nm x ≠ r) ∨ ∃ x ∈ fl, nm x = r)) ∨ ∃ x ∈ bs, x ∉ fl ∧ nm x = r ∧ fl' = fl ++ [x])

theorem zzFree_any (base T : Nat) (fg : Int) (bs : List Nat) (nm : Nat → ByteArray) (fl : List Nat) (r : ByteArray) (hr : r.size ≤ maxLen) (w : World) (h : St base w T fg bs nm fl) :
    Calls Try.prog 11 #[.pointer (some ⟨T, 0, none⟩), .string r] w (FreeOut base T fg bs nm fl r w) := by
  by_cases hk : ∃ x ∈ bs, nm x = r
  · obtain ⟨x, hx, rfl⟩ := hk
    by_cases hf : x ∈ fl
    · go_enter Try.func11, Try.ntmps11
      go_wp2_with fail
      refine (free_free base T fg bs nm fl x _ h hf).mono ?_
      rintro e w' ⟨rfl, rfl⟩
      go_wp2_with fail
      go_end0
      exact ⟨rfl, fl, h, Kp.refl _ _, .inl ⟨rfl, .inr ⟨x, hf, rfl⟩⟩⟩
    · go_enter Try.func11, Try.ntmps11
      go_wp2_with fail
      refine (free_held base T fg bs nm fl x _ h hx hf).mono ?_
      rintro e w' ⟨rfl, h1, h2⟩
      go_wp2_with fail
      go_end0
      exact ⟨rfl, fl ++ [x], h1, h2, .inr ⟨x, hx, hf, rfl, rfl⟩⟩
  · have hk' : ∀ y ∈ bs, nm y ≠ r := fun y hy e => hk ⟨y, hy, e⟩
    have HK : Hid (∀ y ∈ bs, nm y ≠ r) := hk'
    clear hk hk'
    go_enter Try.func11, Try.ntmps11
    go_wp2_with fail
    refine (free_unknown base T fg bs nm fl r hr _ h HK.out).mono ?_
    rintro e w' ⟨rfl, rfl⟩
    go_wp2_with fail
    go_end0
    exact ⟨rfl, fl, h, Kp.refl _ _, .inl ⟨rfl, .inl HK.out⟩⟩

/-! ### The free ones by their names -/
theorem del_names {bs : List Nat} {nm : Nat → ByteArray} (hap : ∀ x ∈ bs, ∀ y ∈ bs, nm x = nm y → x = y) {x : Nat} (hx : x ∈ bs) : ∀ (fl : List Nat) (_ : ∀ y ∈ fl, y ∈ bs), (del fl x).map nm = wo (fl.map nm) (nm x)
  | [], _ => rfl
  | a :: fl, h => by
    have ih := del_names hap hx fl (fun y hy => h y (List.mem_cons_of_mem _ hy))
    have ha : a ∈ bs := h a (by simp)
    rw [del_cons]
    unfold wo at ih ⊢
    by_cases e : a = x
    · subst e
      simp [ih]
    · have e' : nm a ≠ nm x := fun h => e (hap a ha x hx h)
      simp [e, e', ih]
theorem upd_names {bs : List Nat} {nm : Nat → ByteArray} {x : Nat} {r : ByteArray} (hx : x ∉ bs) (fl : List Nat) (h : ∀ y ∈ fl, y ∈ bs) : fl.map (upd nm x r) = fl.map nm := by
  apply List.map_congr_left
  intro y hy
  unfold upd
  rw [if_neg (fun e => hx (by rw [← e]; exact h y hy))]
theorem wo_out (l : List ByteArray) (r : ByteArray) (h : r ∉ l) : wo l r = l := by
  unfold wo
  rw [List.filter_eq_self]
  intro x hx
  have : x ≠ r := fun e => h (e ▸ hx)
  simpa using this

/-- The names of the free ones behind a hold. -/
theorem hold_names {base T : Nat} {fg : Int} {bs bs' : List Nat} {nm nm' : Nat → ByteArray} {fl : List Nat} {r : ByteArray} {x : Nat} {w w' : World} (h : St base w T fg bs nm fl) (h' : St base w' T fg bs' nm' (del fl x)) (hx : x ∈ bs') (hr : nm' x = r)
    (hc : (bs' = bs ∧ nm' = nm) ∨ (x ∉ bs ∧ (∀ y ∈ bs, nm y ≠ r) ∧ bs' = bs ++ [x] ∧ nm' = upd nm x r)) : (del fl x).map nm' = wo (fl.map nm) r := by
  rcases hc with ⟨rfl, rfl⟩ | ⟨h1, h2, rfl, rfl⟩
  · rw [del_names h.apart hx fl h.sub, hr]
  · have hnf : x ∉ fl := fun hm => h1 (h.sub x hm)
    rw [del_out fl x hnf, upd_names h1 fl h.sub, wo_out]
    intro hm
    obtain ⟨y, hy, e⟩ := List.mem_map.1 hm
    exact h2 y (h.sub y hy) e

/-- The entry that a hold hands back is held. -/
theorem hold_entry {base T : Nat} {fg : Int} {bs : List Nat} {nm : Nat → ByteArray} {fl : List Nat} {x : Nat} {w : World} (h : St base w T fg bs nm (del fl x)) (hx : x ∈ bs) : Blk w x (ent (nm x) fg false none none) 53 := by
  have hm : x ∉ del fl x := by rw [del_mem]; simp
  exact (h.ents x hx).as (by simp [hm, prv_out _ _ hm, nxt_out _ _ hm])
end Go.Proofs.Qxb6002789a.Tok
