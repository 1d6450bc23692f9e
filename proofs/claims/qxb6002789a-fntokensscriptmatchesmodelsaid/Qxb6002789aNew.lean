import Derived.Test.Qxb6002789aFree
namespace Go.Proofs.Qxb6002789a.Tok
open Go.RowKit Go.Deep Go.ChangeShapes Lk

/-- The names, one more. -/
def upd (nm : Nat → ByteArray) (b : Nat) (r : ByteArray) (k : Nat) : ByteArray := if k = b then r else nm k

theorem isKey (s : ByteArray) : WideAt.IsKeyLit (key s) := trivial

set_option maxHeartbeats 1000000 in
/-- hold of a new resource, the map there. -/
theorem new_some (T M n : Nat) (D : DataW Unit) (hd tl : Option Nat) (cnt fg : Int) (r : ByteArray) (hr : r.size ≤ maxLen) (w : World) (hT : Blk w T (tokc (.map (some M)) hd tl cnt fg) 44) (hown : w.ownsMap Try.prog 9 ptrElem M n D) (hn : n ≤ 100000)
    (hrun : (Instr.lookup 42 (.map (some M)) (.string r) true).run Try.prog w = .ok (.tuple #[.pointer none, .bool false]) w) :
    Calls Try.prog 20 #[.pointer (some ⟨T, 0, none⟩), .string r] w fun e w' => e = .returned (.pointer (some ⟨w.heap.size, 0, none⟩)) ∧
      w'.ownsMap Try.prog 9 ptrElem M (n + 1) (D.put (key r) (.lit (.int .u64 (w.heap.size : Nat)))) ∧ (w.alloc (.cells (ent r fg false none none) 53)).grownBy w' (some M) := by
  have t0 := hT.cell (i := 0) (v := .map (some M)) rfl
  have t4 := hT.cell (i := 4) (v := .int .u64 fg) rfl
  have hkey : keyOf Try.prog 9 (.string r) = some (key r) := Go.WideMaps.keyOf_string_mk Try.underlying9 hr
  have q42 : ∀ (w : World) (m : Option Nat), (binOp .eql 42 (.map m) (.map none)).run Try.prog w = .ok (.bool m.isNone) w := fun w m => run_eql_map_nil w 42 9 34 m Try.underlying42
  have hTl := hT.lt
  have hTn : T ≠ w.heap.size := by omega
  have HK : Hid (keyOf Try.prog 9 (.string r) = some (key r)) := hkey
  clear hT hkey
  go_enter Try.func20, Try.ntmps20
  go_wp2_with (at_mapUpdate; refine wpList_mapUpdate_own _ rfl _ _ _ 42 rfl 9 34 law Try.underlying42 ptrElem M n D rfl (hown.alloc _) (by unfold maxLen; omega) _ _ (key r) rfl rfl HK.out _ [] (ptrElem_some _) ?_)
  intro w1 hown1 hgrow1
  go_wp2
  go_ret
  exact ⟨rfl, hown1, hgrow1⟩

set_option maxHeartbeats 1000000 in
/-- hold of a new resource, no map there yet. -/
theorem new_none (T : Nat) (hd tl : Option Nat) (cnt fg : Int) (r : ByteArray) (hr : r.size ≤ maxLen) (w : World) (hT : Blk w T (tokc (.map none) hd tl cnt fg) 44)
    (hrun : (Instr.lookup 42 (.map none) (.string r) true).run Try.prog w = .ok (.tuple #[.pointer none, .bool false]) w) :
    Calls Try.prog 20 #[.pointer (some ⟨T, 0, none⟩), .string r] w fun e w' => e = .returned (.pointer (some ⟨w.heap.size + 1, 0, none⟩)) ∧
      w'.ownsMap Try.prog 9 ptrElem w.heap.size 1 ((DataW.map []).put (key r) (.lit (.int .u64 (w.heap.size + 1 : Nat)))) ∧ (((w.setCell ⟨T, 0, none⟩ (.map (some w.heap.size))).alloc (.map #[] 0)).alloc (.cells (ent r fg false none none) 53)).grownBy w' (some w.heap.size) := by
  have t0 := hT.cell (i := 0) (v := .map none) rfl
  have t4 := hT.cell (i := 4) (v := .int .u64 fg) rfl
  have ft0 := hT.free 0
  have hkey : keyOf Try.prog 9 (.string r) = some (key r) := Go.WideMaps.keyOf_string_mk Try.underlying9 hr
  have q42 : ∀ (w : World) (m : Option Nat), (binOp .eql 42 (.map m) (.map none)).run Try.prog w = .ok (.bool m.isNone) w := fun w m => run_eql_map_nil w 42 9 34 m Try.underlying42
  have hmm := @run_makeMap Try.prog
  have hTl := hT.lt
  have hTn : T ≠ w.heap.size := by omega
  have hTn' : w.heap.size ≠ T := by omega
  have HK : Hid (keyOf Try.prog 9 (.string r) = some (key r)) := hkey
  have hown : ((w.setCell ⟨T, 0, none⟩ (.map (some w.heap.size))).alloc (.map #[] 0)).ownsMap Try.prog 9 ptrElem w.heap.size 0 (.map []) := by
    have h := World.ownsMap_made (w.setCell ⟨T, 0, none⟩ (.map (some w.heap.size))) Try.prog 9 ptrElem
    rwa [nblk_setCell] at h
  clear hT hkey
  go_enter Try.func20, Try.ntmps20
  go_wp2_with (at_mapUpdate; refine wpList_mapUpdate_own _ rfl _ _ _ 42 rfl 9 34 law Try.underlying42 ptrElem w.heap.size 0 (.map []) rfl (hown.alloc _) (by unfold maxLen; omega) _ _ (key r) rfl rfl HK.out _ [] (ptrElem_some _) ?_)
  intro w1 hown1 hgrow1
  go_wp2
  go_ret
  exact ⟨rfl, hown1, hgrow1⟩

theorem put_has {D : DataW Unit} (hD : Maps.IsMap D) (r s : ByteArray) (d : DataW Unit) : Maps.has (D.put (key r) d) (key s) = (decide (s = r) || Maps.has D (key s)) := by
  by_cases h : s = r
  · subst h; rw [Maps.has_put_same hD (isKey s)]; simp
  · rw [Maps.has_put_other (fun e => h (key_inj e))]; simp [h]
theorem put_at {D : DataW Unit} (hD : Maps.IsMap D) (r s : ByteArray) (d z : DataW Unit) : (D.put (key r) d).atKey (key s) z = if s = r then d else D.atKey (key s) z := by
  by_cases h : s = r
  · subst h; rw [Maps.atKey_put_same hD (isKey s)]; simp
  · rw [Maps.atKey_put_other (fun e => h (key_inj e))]; simp [h]

/-- The map behind the store. -/
theorem map_more {w' : World} {M n : Nat} {D : DataW Unit} {bs : List Nat} {nm : Nat → ByteArray} {r : ByteArray} {nb : Nat} (ho : w'.ownsMap Try.prog 9 ptrElem M (n + 1) (D.put (key r) (.lit (.int .u64 (nb : Nat))))) (hD : Maps.IsMap D) (hn : n ≤ bs.length) (hnb : nb ∉ bs)
    (h1 : ∀ x ∈ bs, Maps.has D (key (nm x)) = true ∧ D.atKey (key (nm x)) (.lit (.bool false)) = .lit (.int .u64 x)) (h2 : ∀ s, (∀ x ∈ bs, nm x ≠ s) → Maps.has D (key s) = false) (hr : ∀ x ∈ bs, nm x ≠ r) :
    MapIs w' (.map (some M)) (bs ++ [nb]) (upd nm nb r) := by
  have hu : ∀ x ∈ bs, upd nm nb r x = nm x := fun x hx => by
    unfold upd
    rw [if_neg (fun e => hnb (by rw [← e]; exact hx))]
  have hu' : upd nm nb r nb = r := by simp [upd]
  refine .inr ⟨M, n + 1, _, rfl, ho, by simp; omega, ?_, ?_⟩
  · intro x hx
    rcases List.mem_append.1 hx with hx | hx
    · rw [hu x hx, put_has hD, put_at hD, if_neg (hr x hx), (h1 x hx).1, (h1 x hx).2]
      simp
    · simp at hx
      subst hx
      rw [hu', put_has hD, put_at hD, if_pos rfl]
      simp
  · intro s hs
    have hs1 : s ≠ r := fun e => hs nb (by simp) (by rw [hu', e])
    rw [put_has hD, h2 s (fun x hx => by have := hs x (by simp [hx]); rwa [hu x hx] at this)]
    simp [hs1]

/-- What holding a new resource leaves. -/
def NewOut (base T : Nat) (fg : Int) (bs : List Nat) (nm : Nat → ByteArray) (fl : List Nat) (r : ByteArray) (w : World) (e : Ending) (w' : World) : Prop :=
  ∃ nb, e = .returned (.pointer (some ⟨nb, 0, none⟩)) ∧ w.heap.size ≤ nb ∧ nb ∉ bs ∧ St base w' T fg (bs ++ [nb]) (upd nm nb r) fl ∧ Kp base w w'

theorem new_st (base T : Nat) (fg : Int) (bs : List Nat) (nm : Nat → ByteArray) (fl : List Nat) (r : ByteArray) (hr : r.size ≤ maxLen) (w : World) (h : St base w T fg bs nm fl) (hx : ∀ x ∈ bs, nm x ≠ r) (hl : bs.length < 100000) (hbase : base ≤ w.heap.size) :
    Calls Try.prog 20 #[.pointer (some ⟨T, 0, none⟩), .string r] w (NewOut base T fg bs nm fl r w) := by
  obtain ⟨⟨mv, hT, hM, hMb⟩, hE, hn, hsub, hap, hlen, hfl, hlow, hsh⟩ := h
  have hrun := look_miss hM hx hr
  have hTb : T ∉ bs := tok_not hT hE
  -- what is the same in both cases: nb the new entry, M the map, T's first cell
  have fin : ∀ (w' : World) (nb M : Nat), w.heap.size ≤ nb → base ≤ M → Blk w' T (tokc (.map (some M)) fl.head? fl.getLast? fl.length fg) 44 → MapIs w' (.map (some M)) (bs ++ [nb]) (upd nm nb r) → (∀ x ∈ bs, w'.heap[x]? = w.heap[x]?) → Blk w' nb (ent r fg false none none) 53 → Kp base w w' →
      NewOut base T fg bs nm fl r w (.returned (.pointer (some ⟨nb, 0, none⟩))) w' := by
    intro w' nb M hnb hMB h1 h2 h3 h4 h5
    have hnb' : nb ∉ bs := fun hm => by have := (hE nb hm).lt; omega
    have hu : ∀ x ∈ bs, upd nm nb r x = nm x := fun x hx => by
      unfold upd
      rw [if_neg (fun e => hnb' (by rw [← e]; exact hx))]
    have hu' : upd nm nb r nb = r := by simp [upd]
    have hnf : nb ∉ fl := fun hm => hnb' (hsub nb hm)
    refine ⟨nb, rfl, hnb, hnb', ⟨⟨_, h1, h2, fun M' e => by cases e; exact hMB⟩, ?_, hn, fun x hx => List.mem_append_left _ (hsub x hx), ?_, by simp; omega, by simp; omega, ⟨hlow.1, ?_⟩, ?_⟩, h5⟩
    · intro x hx
      rcases List.mem_append.1 hx with hx | hx
      · show Blk w' x (ent (upd nm nb r x) fg (decide (x ∈ fl)) (prv fl x) (nxt fl x)) 53
        rw [hu x hx]
        exact (hE x hx).same (h3 x hx)
      · simp at hx
        subst hx
        show Blk w' x (ent (upd nm x r x) fg (decide (x ∈ fl)) (prv fl x) (nxt fl x)) 53
        rw [hu', prv_out _ _ hnf, nxt_out _ _ hnf]
        exact h4.as (by simp [hnf])
    · intro x hxm y hym e
      rcases List.mem_append.1 hxm with h | h <;> rcases List.mem_append.1 hym with h' | h'
      · rw [hu x h, hu y h'] at e; exact hap x h y h' e
      · simp at h'; subst h'; rw [hu x h, hu'] at e; exact absurd e (hx x h)
      · simp at h; subst h; rw [hu y h', hu'] at e; exact absurd e.symm (hx y h')
      · simp at h h'; rw [h, h']
    · intro x hxm
      rcases List.mem_append.1 hxm with h | h
      · exact hlow.2 x h
      · simp at h; omega
    · intro x hxm
      rcases List.mem_append.1 hxm with h | h
      · rw [hu x h]; exact hsh x h
      · simp at h; subst h; rw [hu']; exact hr
  rcases hM with ⟨rfl, hnil⟩ | ⟨M, n, D, rfl, ho, hnl, h1, h2⟩
  · refine (new_none T _ _ _ fg r hr w hT hrun).mono ?_
    rintro e w' ⟨rfl, hown, hg⟩
    subst hnil
    have hTl := hT.lt
    have z1 : ((w.setCell ⟨T, 0, none⟩ (.map (some w.heap.size))).alloc (.map #[] 0)).heap.size = w.heap.size + 1 := by rw [nblk_alloc, nblk_setCell]
    have z2 : (((w.setCell ⟨T, 0, none⟩ (.map (some w.heap.size))).alloc (.map #[] 0)).alloc (.cells (ent r fg false none none) 53)).heap.size = w.heap.size + 2 := by rw [nblk_alloc, z1]
    refine fin w' (w.heap.size + 1) w.heap.size (by omega) hbase ?_ ?_ (by simp) ?_ ?_
    · exact ((((hT.set 0 (.map (some w.heap.size))).alloc (.map #[] 0)).alloc (.cells (ent r fg false none none) 53)).same (hg.block T (by omega) (by simp; omega))).as rfl
    · exact map_more hown ⟨_, rfl⟩ (by simp) (by simp) (by simp) (fun s _ => rfl) (by simp)
    · have hb := Blk.new ((w.setCell ⟨T, 0, none⟩ (.map (some w.heap.size))).alloc (.map #[] 0)) (ent r fg false none none) 53
      rw [z1] at hb
      exact hb.same (hg.block _ (by omega) (by simp))
    · refine ⟨hg.os, hg.tape, hg.output, by have := hg.size; omega, fun k hk hc => ?_⟩
      have hkT : k ≠ T := by
        intro e
        subst e
        rcases hc with hc | ⟨c, t, f, h3, h4, _⟩
        · have := hlow.1; omega
        · unfold Blk at hT; rw [hT] at h3; simp at h3; exact h4 h3.2.1.symm
      rw [hg.block k (by omega) (by simp; omega), Below.heap_alloc _ _ _ (by omega), Below.heap_alloc _ _ _ (by rw [nblk_setCell]; omega), Below.heap_setCell _ _ _ _ hkT]
  · refine (new_some T M n D _ _ _ fg r hr w hT ho (by omega) hrun).mono ?_
    rintro e w' ⟨rfl, hown, hg⟩
    have hMl := ho.lt
    have hTM : T ≠ M := by
      intro e
      obtain ⟨es, cl, hm, _⟩ := ho
      unfold Blk at hT
      rw [e, hm] at hT
      simp at hT
    have hTl := hT.lt
    have z1 : (w.alloc (.cells (ent r fg false none none) 53)).heap.size = w.heap.size + 1 := by rw [nblk_alloc]
    have hne : ∀ k c t f, w.heap[k]? = some (.cells c t f) → k ≠ M := by
      intro k c t f hk e
      obtain ⟨es, cl, hm, _⟩ := ho
      rw [e, hm] at hk
      simp at hk
    refine fin w' w.heap.size M (Nat.le_refl _) (hMb M rfl) ?_ ?_ ?_ ?_ ?_
    · exact (hT.alloc (.cells (ent r fg false none none) 53)).same (hg.block T (by omega) (by simp; exact hTM))
    · exact map_more hown ho.isMap hnl (fun hm => by have := (hE _ hm).lt; omega) h1 h2 hx
    · intro x hxm
      have hxl := (hE x hxm).lt
      rw [hg.block x (by omega) (by simp; exact hne x _ _ _ (hE x hxm)), Below.heap_alloc _ _ _ hxl]
    · exact (Blk.new w (ent r fg false none none) 53).same (hg.block _ (by omega) (by simp; omega))
    · refine ⟨hg.os, hg.tape, hg.output, by have := hg.size; omega, fun k hk hc => ?_⟩
      have hkM : k ≠ M := by
        rcases hc with hc | ⟨c, t, f, h3, _⟩
        · have := hMb M rfl; omega
        · exact hne k c t f h3
      rw [hg.block k (by omega) (by simpa using hkM), Below.heap_alloc _ _ _ hk]
end Go.Proofs.Qxb6002789a.Tok
