import PyProof.Rows.All
import Wide.All
import OpenK.AllK
import Wide.FinOn
import Lean
import PySem.Challenge.RW_sr0084_02
open PySem PySem.W PyProof.Rows PySem.Calls
set_option Elab.async false
set_option autoImplicit false
set_option linter.all false
set_option maxRecDepth 100000
set_option maxHeartbeats 4000000
set_option genSizeOf false
set_option genInjectivity false
namespace Mini
noncomputable def ExcAt (h : Heap) (e : Addr) : Prop := ∃ oe vs, h.get? e = some oe ∧ oe.data = .fields vs ∧ vs[2]? = some .none
theorem ExcAt.keeps {h h' : Heap} {e : Addr} (x : ExcAt h e) (k : ∀ o, h.get? e = some o → h'.get? e = some o) : ExcAt h' e := let ⟨o, vs, a, b⟩ := x; ⟨o, vs, k o a, b⟩
noncomputable def Hdl (h : Heap) (A : Around) : Prop := A.handled = none ∨ ∃ e, A.handled = some (.ref e) ∧ ExcAt h e
theorem entry_unchain : entryFor table "proto.unchain" = some Builtin.«proto.unchain» := entryFor_of_tree (by kernel_rfl)
section
variable {prog : Program} {w : World} {A : Around} {E : PySem.Value → Shared → Prop} {s : Shared}
theorem stop_ok {α : Type} {Q : α → Shared → Prop} (hd : Hdl s.heap A) (h : ∀ x h', (∀ a o, s.heap.get? a = some o → h'.get? a = some o) → (∃ o, h'.get? x = some o ∧ o.cls = .type "StopIteration") → E (.ref x) { s with heap := h' }) :
    wpAny (model prog w) A (newExc (.type "StopIteration") [] >>= fun e => (raiseNew e : Sem α)) Q E s := by
  refine wpAny_bind ?_
  simp only [newExc, newTuple]
  refine wpAny_bind (wpAny_newObj_type ?_ (by size_fits))
  refine wpAny_bind (m := firstArgMember _ _) (wpAny_of_eq (a := Value.none) (by first | rfl | (simp only [firstArgMember]; rfl)) ?_)
  refine wpAny_newObj_type ?_ (by size_fits)
  simp only [raiseNew]
  refine wpAny_bind (wpAny_handled ?_)
  have kp : ∀ {a o o1 o2}, s.heap.get? a = some o → ((s.heap.push o1).push o2).get? a = some o := fun e => Heap.get?_push_of_some _ (Heap.get?_push_of_some _ e)
  rcases hd with hd | ⟨e, hd, oe, vs, he, hf, hn⟩
  · rw [hd]
    refine wpAny_bind (wpAny_pure (wpAny_throw (h _ _ (fun a o q => kp q) ⟨_, Heap.get?_push_size _ rfl, rfl⟩)))
  · rw [hd]
    have ne : s.heap.objs.size + 1 ≠ e := Nat.ne_of_gt (Nat.lt_succ_of_lt (Heap.lt_size he))
    have sz : (s.heap.push { cls := .type "tuple", data := .seq #[] }).objs.size = s.heap.objs.size + 1 := Heap.size_push ..
    have hnew := Heap.get?_push_size (s.heap.push { cls := .type "tuple", data := .seq #[] }) (o := { cls := .type "StopIteration", data := .fields (#[.ref s.heap.objs.size, .none, .none, .none, .bool false, .none] ++ ownMembersOf (.type "StopIteration") []) }) rfl
    rw [sz] at hnew ⊢
    dsimp only
    rw [if_pos (show (PySem.Value.ref e != PySem.Value.ref (s.heap.objs.size + 1)) = true from by simpa using Ne.symm ne)]
    refine wpAny_bind (wpAny_holding (wpAny_runValue (codeAny_builtin entry_unchain ?_)))
    show wpAny _ _ (field (.ref e) 2 >>= _) _ _ _
    refine wpAny_bind (wpAny_field (kp he) hf hn ?_)
    rw [if_pos (by rfl)]
    refine wpAny_bind (wpAny_pure (wpAny_pure ?_))
    refine wpAny_bind ?_
    simp only [updateField]
    refine wpAny_bind (wpAny_load hnew ?_)
    show wpAny _ _ (if 2 < Array.size _ then _ else _) _ _ _
    rw [if_pos (by rw [Array.size_append]; exact Nat.lt_add_right _ (show 2 < 6 by decide))]
    refine wpAny_update hnew (wpAny_throw (h _ _ (fun a o q => ?_) ⟨_, Heap.get?_update_self _ hnew rfl, rfl⟩))
    rw [Heap.get?_update_other _ _ (Nat.ne_of_gt (Nat.lt_succ_of_lt (Heap.lt_size q)))]
    exact kp q
end
noncomputable def HdlN (h : Heap) (A : Around) (I : Addr) : Prop := A.handled = none ∨ ∃ e, A.handled = some (.ref e) ∧ ExcAt h e ∧ e ≠ I
section
variable {prog : Program} {w : World} {A : Around} {E : PySem.Value → Shared → Prop} {s : Shared}
theorem list_end {it l : Addr} {i : Nat} {items : Array PySem.Value} {Q : Option PySem.Value → Shared → Prop} (hh : HdlN s.heap A it)
    (hit : s.heap.IsListIter it l i) (hl : s.heap.IsList l items) (hx : items[i]? = none)
    (hQ : ∀ h', Heap.ExtBut it s.heap h' → Q none { s with heap := h' }) : wpAny (model prog w) A (pyNext (.ref it)) Q E s := by
  obtain ⟨o, ho, hc, hd⟩ := id hit
  obtain ⟨ol, hol, _, nl, hdl⟩ := hl
  unfold pyNext
  refine wpAny_bind (wpAny_attempt (wpAny_callSpecial?_slot (name := Str.ofString "__next__") hit.typeIs slot_listiter_next (wpAny_call_entry slot_listiter_next hit.typeIs entry_listiter_next ?_ (args_listiter_next _))))
  show wpAny _ _ (field (.ref it) 0 >>= _) _ _ s
  refine wpAny_bind (wpAny_field ho hd (x := .ref l) rfl ?_)
  show wpAny _ _ (if (PySem.Value.ref l == PySem.Value.none) = true then _ else _) _ _ s
  rw [if_neg (show ¬ ((PySem.Value.ref l == PySem.Value.none) = true) from Bool.false_ne_true)]
  show wpAny _ _ (field (.ref it) 1 >>= _) _ _ s
  refine wpAny_bind (wpAny_field ho hd (x := .int i 0) rfl ?_)
  show wpAny _ _ (seqItems? (.ref l) >>= _) _ _ s
  refine wpAny_bind (wpAny_seqItems hol hdl ?_)
  simp only [Int.toNat_natCast, hx]
  refine wpAny_bind (wpAny_rule (wpAny_bind (wpAny_setField ho hd (by simp) ?_)))
  have st : Heap.SameBut it s.heap (s.heap.update it (Obj.mapFields (·.setIfInBounds 0 .none))) := .update ..
  refine stop_ok (hh.imp id fun ⟨e, q, x, n⟩ => ⟨e, q, x.keeps fun o z => (st.2 e n).trans z⟩) fun x h' k ho => ?_
  obtain ⟨ox, e1, e2⟩ := ho
  refine wpAny_bind (wpAny_isInstance (T := "StopIteration") (b := true) ⟨_, e1, e2⟩ isSubtype_stop ?_)
  exact wpAny_pure (hQ _ fun b o n z => k b o ((st.2 b n).trans z))
theorem range_end {it : Addr} {x left step : Int} {Q : Option PySem.Value → Shared → Prop} (hh : HdlN s.heap A it) (hit : IsRangeIter s.heap it x left step) (hleft : left ≤ 0)
    (hQ : ∀ h', Heap.ExtBut it s.heap h' → Q none { s with heap := h' }) : wpAny (model prog w) A (pyNext (.ref it)) Q E s := by
  have hT : s.TypeIs (.ref it) "range_iterator" := ⟨_, hit, rfl⟩
  unfold pyNext
  refine wpAny_bind (wpAny_attempt (wpAny_callSpecial?_slot (name := Str.ofString "__next__") hT F.slot_range_iterator_next (wpAny_call_entry F.slot_range_iterator_next hT F.entry_range_iterator_next ?_ (F.args_range_iterator_next_1 _))))
  show wpAny _ _ (field (.ref it) 0 >>= _) _ _ s
  refine wpAny_bind (wpAny_field hit rfl (x := rawInt x) rfl ?_)
  show wpAny _ _ (field (.ref it) 1 >>= _) _ _ s
  refine wpAny_bind (wpAny_field hit rfl (x := rawInt left) rfl ?_)
  show wpAny _ _ (field (.ref it) 2 >>= _) _ _ s
  refine wpAny_bind (wpAny_field hit rfl (x := rawInt step) rfl ?_)
  show wpAny _ _ (if left ≤ 0 then _ else _) _ _ s
  rw [if_pos hleft]
  refine wpAny_bind (wpAny_rule ?_)
  refine wpAny_bind ?_
  refine stop_ok (hh.imp id fun ⟨e, q, x, n⟩ => ⟨e, q, x⟩) fun x h' k ho => ?_
  obtain ⟨ox, e1, e2⟩ := ho
  refine wpAny_bind (wpAny_isInstance (T := "StopIteration") (b := true) ⟨_, e1, e2⟩ isSubtype_stop ?_)
  exact wpAny_pure (hQ _ fun b o n z => k b o z)
end
theorem nn {α : Type} {P : α → Prop} : ∀ a ∈ ([] : List α), P a := fun _ h => absurd h List.not_mem_nil
theorem ns {α : Type} {x : α} {P : Prop} (h : (none : Option α) = some x) : P := by cases h
theorem ite_some {p : Prop} [Decidable p] {α : Type} {o : Option α} {r : α} (h : (if p then o else none) = some r) : p ∧ o = some r := by
  by_cases q : p
  · exact ⟨q, by rwa [if_pos q] at h⟩
  · rw [if_neg q] at h; exact ns h
inductive V where
  | none
  | bool (b : Bool)
  | int (i : Int)
  | str (s : PySem.Str)
  | val (v : PySem.Value)
  | tup (l : List V)
  | lst (l : List V)
  | rng (a b : Int)
  | inst (C : Addr) (fs : List (PySem.Str × V))
  | dic
noncomputable def isVal (v : PySem.Value) : Bool := match v with
  | .builtin _ => true
  | .type _ => true
  | .ref _ => true
  | _ => false
noncomputable abbrev tupObj (vs : List PySem.Value) (n : Nat) : Obj := { cls := .type "tuple", dict := .none, data := .seq vs.toArray n, slots := #[] }
noncomputable abbrev lstObj (vs : List PySem.Value) (n : Nat) : Obj := { cls := .type "list", dict := .none, data := .seq vs.toArray n, slots := #[] }
noncomputable abbrev rngObj (a b : Int) (t : Tok) (u : Tok) (w : Tok) : Obj := { cls := .type "range", data := .fields #[.int a t, .int b u, .int 1 w] }
mutual
inductive VR (h : Heap) : PySem.Value → V → List Addr → Prop where
  | none : VR h .none .none []
  | bool (b : Bool) : VR h (.bool b) (.bool b) []
  | int (i : Int) (t : Tok) : VR h (.int i t) (.int i) []
  | str (s : PySem.Str) (t : Tok) : VR h (.str s t) (.str s) []
  | val (v : PySem.Value) (hv : isVal v = true) : VR h v (.val v) []
  | tup {a : Addr} {vs : List PySem.Value} {n : Nat} {l : List V} {fp : List Addr} : h.get? a = some (tupObj vs n) → VRs h vs l fp → VR h (.ref a) (.tup l) fp
  | lst {a : Addr} {vs : List PySem.Value} {n : Nat} {l : List V} {fp : List Addr} : h.get? a = some (lstObj vs n) → VRs h vs l fp → VR h (.ref a) (.lst l) (a :: fp)
  | rng {a : Addr} {x y : Int} {t u w : Tok} : h.get? a = some (rngObj x y t u w) → VR h (.ref a) (.rng x y) []
  | inst {a dx C : Addr} {es : List DictEntry} {n : Nat} {fs : List (PySem.Str × V)} {fp : List Addr} : h.get? a = some (instObj C dx) → h.get? dx = some (dictOf es n) → VRf h es fs fp →
      VR h (.ref a) (.inst C fs) (a :: dx :: fp)
  | dic {a : Addr} : h.get? a = some W.emptyDict → (a == sysModules) = false → VR h (.ref a) .dic [a]
inductive VRs (h : Heap) : List PySem.Value → List V → List Addr → Prop where
  | nil : VRs h [] [] []
  | cons {v : PySem.Value} {vs : List PySem.Value} {x : V} {xs : List V} {f g : List Addr} : VR h v x f → VRs h vs xs g → VRs h (v :: vs) (x :: xs) (f ++ g)
inductive VRf (h : Heap) : List DictEntry → List (PySem.Str × V) → List Addr → Prop where
  | nil : VRf h [] [] []
  | cons {e : DictEntry} {es : List DictEntry} {k : PySem.Str} {t : Tok} {x : V} {fs : List (PySem.Str × V)} {f g : List Addr} : e.key = .str k t → VR h e.val x f → VRf h es fs g → VRf h (e :: es) ((k, x) :: fs) (f ++ g)
end
mutual
theorem VR.keeps {h h' : Heap} {v : PySem.Value} {x : V} {fp : List Addr} (r : VR h v x fp) (k : ∀ a o, h.get? a = some o → h'.get? a = some o) : VR h' v x fp := by
  cases r with
  | none => exact .none
  | bool b => exact .bool b
  | int i t => exact .int i t
  | str s t => exact .str s t
  | val v hv => exact .val v hv
  | tup e r => exact .tup (k _ _ e) (r.keeps k)
  | lst e r => exact .lst (k _ _ e) (r.keeps k)
  | rng e => exact .rng (k _ _ e)
  | inst e e' r => exact .inst (k _ _ e) (k _ _ e') (r.keeps k)
  | dic e q => exact .dic (k _ _ e) q
theorem VRs.keeps {h h' : Heap} {vs : List PySem.Value} {xs : List V} {fp : List Addr} (r : VRs h vs xs fp) (k : ∀ a o, h.get? a = some o → h'.get? a = some o) : VRs h' vs xs fp := by
  cases r with
  | nil => exact .nil
  | cons r rs => exact .cons (r.keeps k) (rs.keeps k)
theorem VRf.keeps {h h' : Heap} {es : List DictEntry} {fs : List (PySem.Str × V)} {fp : List Addr} (r : VRf h es fs fp) (k : ∀ a o, h.get? a = some o → h'.get? a = some o) : VRf h' es fs fp := by
  cases r with
  | nil => exact .nil
  | cons hk r rs => exact .cons hk (r.keeps k) (rs.keeps k)
end
noncomputable def fixedObj (o : Obj) : Bool := match o.data with
  | .seq _ _ => o.cls == .type "tuple"
  | .fields _ => o.cls == .type "range"
  | _ => false
mutual
theorem VR.but {h h' : Heap} {W : List Addr} {v : PySem.Value} {x : V} {fp : List Addr} (r : VR h v x fp) (k : ∀ a o, h.get? a = some o → fixedObj o = true ∨ a ∉ W → h'.get? a = some o)
    (d : ∀ a ∈ fp, a ∉ W) : VR h' v x fp := by
  cases r with
  | none => exact .none
  | bool b => exact .bool b
  | int i t => exact .int i t
  | str s t => exact .str s t
  | val v hv => exact .val v hv
  | tup e r => exact .tup (k _ _ e (.inl rfl)) (r.but k d)
  | lst e r => exact .lst (k _ _ e (.inr (d _ (.head _)))) (r.but k fun a ha => d a (.tail _ ha))
  | rng e => exact .rng (k _ _ e (.inl rfl))
  | inst e e' r => exact .inst (k _ _ e (.inr (d _ (.head _)))) (k _ _ e' (.inr (d _ (.tail _ (.head _))))) (r.but k fun a ha => d a (.tail _ (.tail _ ha)))
  | dic e q => exact .dic (k _ _ e (.inr (d _ (.head _)))) q
theorem VRs.but {h h' : Heap} {W : List Addr} {vs : List PySem.Value} {xs : List V} {fp : List Addr} (r : VRs h vs xs fp) (k : ∀ a o, h.get? a = some o → fixedObj o = true ∨ a ∉ W → h'.get? a = some o)
    (d : ∀ a ∈ fp, a ∉ W) : VRs h' vs xs fp := by
  cases r with
  | nil => exact .nil
  | cons r rs => exact .cons (r.but k fun a ha => d a (List.mem_append_left _ ha)) (rs.but k fun a ha => d a (List.mem_append_right _ ha))
theorem VRf.but {h h' : Heap} {W : List Addr} {es : List DictEntry} {fs : List (PySem.Str × V)} {fp : List Addr} (r : VRf h es fs fp) (k : ∀ a o, h.get? a = some o → fixedObj o = true ∨ a ∉ W → h'.get? a = some o)
    (d : ∀ a ∈ fp, a ∉ W) : VRf h' es fs fp := by
  cases r with
  | nil => exact .nil
  | cons hk r rs => exact .cons hk (r.but k fun a ha => d a (List.mem_append_left _ ha)) (rs.but k fun a ha => d a (List.mem_append_right _ ha))
end
mutual
theorem VR.dom {h : Heap} {v : PySem.Value} {x : V} {fp : List Addr} (r : VR h v x fp) : ∀ a ∈ fp, ∃ o, h.get? a = some o ∧ fixedObj o = false ∧ (∀ c, o.data ≠ .cell c) := by
  cases r with
  | none => first | exact nn | nofun
  | bool b => first | exact nn | nofun
  | int i t => first | exact nn | nofun
  | str s t => first | exact nn | nofun
  | val v hv => first | exact nn | nofun
  | tup e r => exact r.dom
  | lst e r => intro a ha; rcases List.mem_cons.mp ha with rfl | ha; exact ⟨_, e, rfl, fun _ h => by cases h⟩; exact r.dom a ha
  | rng e => first | exact nn | nofun
  | inst e e' r =>
    intro a ha
    rcases List.mem_cons.mp ha with rfl | ha
    · exact ⟨_, e, rfl, fun _ h => by cases h⟩
    rcases List.mem_cons.mp ha with rfl | ha
    · exact ⟨_, e', rfl, fun _ h => by cases h⟩
    exact r.dom a ha
  | dic e q => intro a ha; rw [List.mem_singleton.mp ha]; exact ⟨_, e, rfl, fun _ h => by cases h⟩
theorem VRs.dom {h : Heap} {vs : List PySem.Value} {xs : List V} {fp : List Addr} (r : VRs h vs xs fp) : ∀ a ∈ fp, ∃ o, h.get? a = some o ∧ fixedObj o = false ∧ (∀ c, o.data ≠ .cell c) := by
  cases r with
  | nil => first | exact nn | nofun
  | cons r rs => intro a ha; rcases List.mem_append.mp ha with ha | ha; exact r.dom a ha; exact rs.dom a ha
theorem VRf.dom {h : Heap} {es : List DictEntry} {fs : List (PySem.Str × V)} {fp : List Addr} (r : VRf h es fs fp) : ∀ a ∈ fp, ∃ o, h.get? a = some o ∧ fixedObj o = false ∧ (∀ c, o.data ≠ .cell c) := by
  cases r with
  | nil => first | exact nn | nofun
  | cons hk r rs => intro a ha; rcases List.mem_append.mp ha with ha | ha; exact r.dom a ha; exact rs.dom a ha
end
structure Stp (W : List Addr) (G : List Nat) (s s' : Shared) : Prop where
  heap : ∀ a o, s.heap.get? a = some o → fixedObj o = true ∨ a ∉ W → s'.heap.get? a = some o
  os : s'.os = s.os
  gens : ∀ (i : Nat) (g : GenState), s.gens[i]? = some g → i ∉ G → s'.gens[i]? = some g
  bare : AllBare s.gens → AllBare s'.gens
noncomputable abbrev Ext (s s' : Shared) : Prop := Stp [] [] s s'
theorem Stp.refl (W : List Addr) (G : List Nat) (s : Shared) : Stp W G s s := ⟨fun _ _ e _ => e, rfl, fun _ _ e _ => e, fun x => x⟩
theorem Stp.keep {s s' : Shared} {G : List Nat} (x : Stp [] G s s') : ∀ a o, s.heap.get? a = some o → s'.heap.get? a = some o := fun a o e => x.heap a o e (.inr (by simp))
theorem Stp.mono {W W' : List Addr} {G G' : List Nat} {s s' : Shared} (x : Stp W G s s') (h : ∀ a ∈ W, a ∈ W') (k : ∀ a ∈ G, a ∈ G') : Stp W' G' s s' :=
  ⟨fun a o e q => x.heap a o e (q.imp id fun n m => n (h a m)), x.os, fun i g e q => x.gens i g e fun m => q (k i m), x.bare⟩
theorem Stp.trans {W W' : List Addr} {G G' : List Nat} {s s' s'' : Shared} (x : Stp W G s s') (y : Stp W' G' s' s'') (h : ∀ a ∈ W', a ∈ W ∨ s.heap.get? a = .none) (k : ∀ i ∈ G', i ∈ G ∨ s.gens[i]? = .none) : Stp W G s s'' :=
  ⟨fun a o e q => y.heap a o (x.heap a o e q) (q.imp id fun n m => (h a m).elim n fun z => by rw [e] at z; cases z), y.os.trans x.os,
    fun i g e q => y.gens i g (x.gens i g e q) fun m => (k i m).elim q (fun z => by rw [e] at z; cases z), fun z => y.bare (x.bare z)⟩
theorem Stp.ext {W : List Addr} {G : List Nat} {s s' s'' : Shared} (x : Stp W G s s') (y : Ext s' s'') : Stp W G s s'' := x.trans y (by first | exact nn | nofun) (by first | exact nn | nofun)
theorem Stp.then {W : List Addr} {s s' s'' : Shared} (x : Ext s s') (y : Stp W [] s' s'') (h : ∀ a ∈ W, s.heap.get? a = .none) : Ext s s'' := x.trans y (fun a m => .inr (h a m)) (by first | exact nn | nofun)
theorem Ext.of_heap {s : Shared} {h' : Heap} {tk : Nat} (k : ∀ a o, s.heap.get? a = some o → h'.get? a = some o) : Ext s { s with heap := h', toks := tk } := ⟨fun a o e _ => k a o e, rfl, fun _ _ e _ => e, fun x => x⟩
theorem Ext.toks (s : Shared) (tk : Nat) : Ext s { s with toks := tk } := ⟨fun _ _ e _ => e, rfl, fun _ _ e _ => e, fun x => x⟩
theorem Ext.push (s : Shared) (o : Obj) (tk : Nat) : Ext s { s with heap := s.heap.push o, toks := tk } := .of_heap fun _ _ e => Heap.get?_push_of_some o e
theorem Stp.of_same {s : Shared} {h' : Heap} {tk : Nat} {a : Addr} (k : Heap.SameBut a s.heap h') (hf : ∀ o, s.heap.get? a = some o → fixedObj o = false) : Stp [a] [] s { s with heap := h', toks := tk } :=
  ⟨fun b o e q => by
    by_cases hb : b = a
    · subst hb
      rcases q with q | q
      · rw [hf o e] at q; cases q
      · exact absurd (List.mem_singleton.mpr rfl) q
    · exact (k.2 b hb).trans e, rfl, fun _ _ e _ => e, fun x => x⟩
theorem Stp.of_walk {s : Shared} {h' : Heap} {tk : Nat} {wr : List Addr} (k : ∀ b o, b ∉ wr → s.heap.get? b = some o → h'.get? b = some o) (hf : ∀ a ∈ wr, ∀ o, s.heap.get? a = some o → fixedObj o = false) : Stp wr [] s { s with heap := h', toks := tk } :=
  ⟨fun b o e q => by
    by_cases hb : b ∈ wr
    · rcases q with q | q
      · rw [hf b hb o e] at q; cases q
      · exact absurd hb q
    · exact k b o hb e, rfl, fun _ _ e _ => e, fun x => x⟩
theorem VR.ext {s s' : Shared} {G : List Nat} {v : PySem.Value} {x : V} {fp : List Addr} (r : VR s.heap v x fp) (e : Stp [] G s s') : VR s'.heap v x fp := r.keeps e.keep
theorem VRs.ext {s s' : Shared} {G : List Nat} {v : List PySem.Value} {x : List V} {fp : List Addr} (r : VRs s.heap v x fp) (e : Stp [] G s s') : VRs s'.heap v x fp := r.keeps e.keep
theorem VR.stp {s s' : Shared} {W : List Addr} {G : List Nat} {v : PySem.Value} {x : V} {fp : List Addr} (r : VR s.heap v x fp) (e : Stp W G s s') (d : ∀ a ∈ fp, a ∉ W) : VR s'.heap v x fp := r.but e.heap d
noncomputable def Agr (h₀ : Heap) (rd : List Addr) (gs : List Nat) (s s' : Shared) : Prop := ∃ W G, Stp W G s s' ∧ (∀ a ∈ rd, a ∉ W) ∧ (∀ i ∈ gs, i ∉ G) ∧ ∀ a ∈ W, h₀.get? a = none
theorem Agr.refl (h₀ : Heap) (rd : List Addr) (gs : List Nat) (s : Shared) : Agr h₀ rd gs s s := ⟨[], [], .refl _ _ _, (by simp), (by simp), (by simp)⟩
theorem Agr.trans {h₀ : Heap} {rd : List Addr} {gs : List Nat} {s s' s'' : Shared} (x : Agr h₀ rd gs s s') (y : Agr h₀ rd gs s' s'') : Agr h₀ rd gs s s'' := by
  obtain ⟨W, G, a, b, c, d⟩ := x
  obtain ⟨W', G', a', b', c', d'⟩ := y
  refine ⟨W ++ W', G ++ G', (a.mono (W' := W ++ W') (G' := G ++ G') (fun _ h => List.mem_append_left _ h) fun _ h => List.mem_append_left _ h).trans (a'.mono (fun _ h => List.mem_append_right _ h) fun _ h => List.mem_append_right _ h) (fun _ h => .inl h) (fun _ h => .inl h), ?_, ?_, ?_⟩
  · intro q hq m; rcases List.mem_append.mp m with m | m; exact b q hq m; exact b' q hq m
  · intro q hq m; rcases List.mem_append.mp m with m | m; exact c q hq m; exact c' q hq m
  · intro q m; rcases List.mem_append.mp m with m | m; exact d q m; exact d' q m
theorem Agr.of {h₀ : Heap} {rd : List Addr} {gs : List Nat} {W : List Addr} {G : List Nat} {s s' : Shared} (x : Stp W G s s') (h : ∀ a ∈ rd, a ∉ W) (k : ∀ i ∈ gs, i ∉ G) (n : ∀ a ∈ W, h₀.get? a = none) : Agr h₀ rd gs s s' := ⟨W, G, x, h, k, n⟩
theorem Agr.ext {h₀ : Heap} {rd : List Addr} {gs : List Nat} {s s' : Shared} (x : Ext s s') : Agr h₀ rd gs s s' := ⟨[], [], x, (by simp), (by simp), (by simp)⟩
theorem Agr.heap {h₀ : Heap} {rd : List Addr} {gs : List Nat} {s s' : Shared} (x : Agr h₀ rd gs s s') : ∀ a ∈ rd, ∀ o, s.heap.get? a = some o → s'.heap.get? a = some o := by
  obtain ⟨W, G, a, b, c, d⟩ := x
  exact fun q hq o e => a.heap q o e (.inr (b q hq))
theorem Agr.fix {h₀ : Heap} {rd : List Addr} {gs : List Nat} {s s' : Shared} (x : Agr h₀ rd gs s s') : ∀ a o, s.heap.get? a = some o → fixedObj o = true → s'.heap.get? a = some o := by
  obtain ⟨W, G, a, b, c, d⟩ := x
  exact fun q o e f => a.heap q o e (.inl f)
theorem Agr.first {h₀ : Heap} {rd : List Addr} {gs : List Nat} {s s' : Shared} (x : Agr h₀ rd gs s s') {a : Addr} {o : Obj} (e : s.heap.get? a = some o) (q : h₀.get? a ≠ none) : s'.heap.get? a = some o := by
  obtain ⟨W, G, a, b, c, d⟩ := x
  exact a.heap _ _ e (.inr fun m => q (d _ m))
theorem Agr.low {h₀ : Heap} {rd : List Addr} {gs : List Nat} {s s' : Shared} (x : Agr h₀ rd gs s s') (l : ∀ a o, h₀.get? a = some o → s.heap.get? a = some o) : ∀ a o, h₀.get? a = some o → s'.heap.get? a = some o := by
  obtain ⟨W, G, a, b, c, d⟩ := x
  exact fun q o e => a.heap q o (l q o e) (.inr fun m => by rw [d q m] at e; cases e)
theorem Agr.gens {h₀ : Heap} {rd : List Addr} {gs : List Nat} {s s' : Shared} (x : Agr h₀ rd gs s s') : ∀ i ∈ gs, ∀ g, s.gens[i]? = some g → s'.gens[i]? = some g := by
  obtain ⟨W, G, a, b, c, d⟩ := x
  exact fun i m g e => a.gens i g e (c i m)
theorem Agr.sub {h₀ : Heap} {rd rd' : List Addr} {gs gs' : List Nat} {s s' : Shared} (x : Agr h₀ rd gs s s') (h : ∀ a ∈ rd', a ∈ rd) (k : ∀ a ∈ gs', a ∈ gs) : Agr h₀ rd' gs' s s' := by
  obtain ⟨W, G, a, b, c, d⟩ := x
  exact ⟨W, G, a, fun q m => b q (h q m), fun q m => c q (k q m), d⟩
theorem VR.agr {h₀ : Heap} {s s' : Shared} {rd : List Addr} {gs : List Nat} {v : PySem.Value} {x : V} {fp : List Addr} (r : VR s.heap v x fp) (e : Agr h₀ rd gs s s') (d : ∀ a ∈ fp, a ∈ rd) : VR s'.heap v x fp := by
  obtain ⟨W, G, a, b, c, _⟩ := e
  exact r.stp a fun q hq => b q (d q hq)
noncomputable def plainIt (o : Obj) : Bool := match o.cls, o.data with
  | .type n, .fields _ => !["enumerate", "zip", "dict_itemiterator", "dict_reverseitemiterator", "odict_iterator", "itertools.zip_longest", "itertools.pairwise"].contains n
  | _, _ => true
noncomputable def GoOk (h : Heap) (I : Addr) : Prop := ∃ o, h.get? I = some o ∧ plainIt o = true
noncomputable def isTup : V → Bool
  | .tup _ => true
  | _ => false
structure Grow (h₀ : Heap) (rd wr rd' wr' : List Addr) (s s' : Shared) : Prop where
  subR : ∀ a ∈ rd, a ∈ rd'
  subW : ∀ a ∈ wr, a ∈ wr'
  newR : ∀ a ∈ rd', a ∈ rd ∨ (s.heap.get? a = none ∧ ∃ o, s'.heap.get? a = some o)
  newW : ∀ a ∈ wr', a ∈ rd' ∧ h₀.get? a = none ∧ (a ∈ wr ∨ s.heap.get? a = none)
theorem Grow.same {h₀ : Heap} {rd wr : List Addr} {s s' : Shared} (h : ∀ a ∈ wr, a ∈ rd ∧ h₀.get? a = none) : Grow h₀ rd wr rd wr s s' := ⟨fun _ m => m, fun _ m => m, fun _ m => .inl m, fun a m => ⟨(h a m).1, (h a m).2, .inl m⟩⟩
noncomputable def It (h₀ : Heap) (prog : Program) (w : World) (A : Around) (I : Addr) (rd wr : List Addr) (gs : List Nat) : List V → Shared → Prop
  | [], s => ∀ s', Agr h₀ rd gs s s' → ∀ (Q : Option PySem.Value → Shared → Prop) (E : PySem.Value → Shared → Prop), (∀ s'', Stp wr gs s' s'' → Q .none s'') → wpAny (model prog w) A (pyNext (.ref I)) Q E s'
  | x :: r, s => ∀ s', Agr h₀ rd gs s s' → ∀ (Q : Option PySem.Value → Shared → Prop) (E : PySem.Value → Shared → Prop),
      (∀ v g s'' rd' wr', Stp wr gs s' s'' → VR s''.heap v x g → (∀ a ∈ g, a ∈ rd' ∧ a ∉ wr') → (isTup x = true → GoOk s''.heap I) → (∀ a ∈ wr', ∃ o, s''.heap.get? a = some o) → (∀ i ∈ gs, ∃ g, s''.gens[i]? = some g) → Grow h₀ rd wr rd' wr' s' s'' → It h₀ prog w A I rd' wr' gs r s'' → Q (some v) s'') → wpAny (model prog w) A (pyNext (.ref I)) Q E s'
theorem It.agr {h₀ : Heap} {prog : Program} {w : World} {A : Around} {I : Addr} {rd wr : List Addr} {gs : List Nat} {xs : List V} {s s' : Shared} (x : It h₀ prog w A I rd wr gs xs s) (a : Agr h₀ rd gs s s') : It h₀ prog w A I rd wr gs xs s' := by
  cases xs with
  | nil => exact fun s'' b => x s'' (a.trans b)
  | cons y r => exact fun s'' b => x s'' (a.trans b)
theorem It.of_walks {h₀ : Heap} {prog : Program} {w : World} {A : Around} {I : Addr} {fp wr : List Addr} {n : Nat} {P : Nat → PySem.Value → Prop} {St : Nat → Heap → Prop} (W : Walks prog w A I fp wr n P St) (rd re : List Addr)
    (hfp : ∀ a ∈ fp, a ∈ rd ∨ (∀ i h o, St i h → h.get? a = some o → fixedObj o = true) ∨ h₀.get? a ≠ none) (hre : ∀ a ∈ re, a ∈ rd ∧ a ∉ wr) (hw : ∀ a ∈ wr, a ∈ rd ∧ h₀.get? a = none) (xs : List V) (hn : xs.length = n) (s₀ : Shared)
    (hkind : ∀ i h, St i h → ∀ a ∈ wr, ∀ o, h.get? a = some o → fixedObj o = false)
    (hex : ∀ i h, St i h → ∀ a ∈ wr, ∃ o, h.get? a = some o) (hgo : (∃ x ∈ xs, isTup x = true) → ∀ i h, St i h → GoOk h I)
    (hP : ∀ j v x s', P j v → xs[j]? = some x → Agr h₀ re [] s₀ s' → ∃ g, VR s'.heap v x g ∧ ∀ a ∈ g, a ∈ re) :
    ∀ (k i : Nat) (s : Shared), n = i + k → Agr h₀ re [] s₀ s → St i s.heap → It h₀ prog w A I rd wr [] (xs.drop i) s := by
  intro k
  induction k with
  | zero =>
    intro i s hi ha hst
    rw [List.drop_of_length_le (by omega)]
    intro s' a Q E hQ
    have hin : i = n := by omega
    subst hin
    have st' := W.frame _ _ s'.heap hst fun b hb o e => (hfp b hb).elim (fun q => a.heap b q o e) fun q => q.elim (fun q => a.fix b o e (q _ _ _ hst e)) fun q => a.first e q
    exact W.done s' Q E st' fun h' tk hk => hQ _ (.of_walk hk (hkind _ _ st'))
  | succ k ih =>
    intro i s hi ha hst
    have hlt : i < xs.length := by omega
    rw [List.drop_eq_getElem_cons hlt]
    intro s' a Q E hQ
    have st' := W.frame _ _ s'.heap hst fun b hb o e => (hfp b hb).elim (fun q => a.heap b q o e) fun q => q.elim (fun q => a.fix b o e (q _ _ _ hst e)) fun q => a.first e q
    refine W.item i s' Q E (by omega) st' fun v h' tk hPv st'' hk => ?_
    have t : Stp wr [] s' { s' with heap := h', toks := tk } := .of_walk hk (hkind _ _ st')
    have a2 : Agr h₀ re [] s₀ { s' with heap := h', toks := tk } := (ha.trans (a.sub (fun q m => (hre q m).1) fun _ m => m)).trans (.of t (fun q m => (hre q m).2) (by simp) fun a m => (hw a m).2)
    obtain ⟨g, r, hg⟩ := hP i v _ _ hPv (List.getElem?_eq_getElem hlt) a2
    exact hQ v g _ rd wr t r (fun q m => hre q (hg q m)) (fun z => hgo ⟨_, List.getElem_mem hlt, z⟩ _ _ st'') (hex _ _ st'') (by first | exact nn | nofun) (.same hw) (ih (i + 1) _ (by omega) a2 st'')
inductive Sta where
  | own | frz | view
  deriving DecidableEq
noncomputable abbrev Loc := List (PySem.Str × V × Sta)
structure PE where
  sc : Scope
  b : Loc
structure Glo where
  glob : PySem.Str → Option PySem.Value
  fld : Addr → PySem.Str → Bool
  meth : V → PySem.Str → Option PySem.Value
  catt : PySem.Value → PySem.Str → Option V
  fn : PySem.Value → List V → List (PySem.Str × V) → Option V
  /-- may hand back what it was given -/
  al : PySem.Value → Bool
  /-- a generator function's yields -/
  gen : PySem.Value → List V → Option (List V)
  /-- a method that turns its object: the object behind it (it gives None) -/
  eff : Addr → PySem.Str → Option PySem.Value
  efn : PySem.Value → V → List V → Option V
noncomputable def big : Int := 2 ^ 62
noncomputable def fits (i : Int) : Bool := decide (-big < i ∧ i < big)
mutual
noncomputable def dataV : V → Option PyData
  | .none => some .none
  | .bool b => some (.bool b)
  | .int i => some (.int i)
  | .str s => some (.str s)
  | .tup l => (dataVs l).map .tuple
  | .lst l => (dataVs l).map .list
  | _ => none
noncomputable def dataVs : List V → Option (List PyData)
  | [] => some []
  | v :: vs => do
    let d ← dataV v
    let ds ← dataVs vs
    some (d :: ds)
end
noncomputable def eqV (a b : V) : Option Bool := do
  let d ← dataV a
  let e ← dataV b
  if SeqAt.shaped d && SeqAt.shaped e then some (PyData.eqv d e) else none
noncomputable def pickV (l : List V) (lo hi : Option Int) : List V :=
  (l.drop (lo.elim 0 (clipAt l.length))).take (hi.elim l.length (clipAt l.length) - lo.elim 0 (clipAt l.length))
noncomputable def nameOf : Expr → Option PySem.Str
  | .Name x _ => some x
  | _ => none
noncomputable def setL (b : Loc) (x : PySem.Str) (v : V) (t : Sta) : Loc := match b with
  | [] => [(x, v, t)]
  | p :: r => if p.1 == x then (x, v, t) :: r else p :: setL r x v t
theorem setL_c (p : PySem.Str × V × Sta) (r : Loc) (x : PySem.Str) (v : V) (t : Sta) : setL (p :: r) x v t = if p.1 == x then (x, v, t) :: r else p :: setL r x v t := rfl
mutual
noncomputable def flatV : V → Bool
  | .tup l => flatVs l
  | .lst _ => false
  | .inst _ _ => false
  | .dic => false
  | _ => true
noncomputable def flatVs : List V → Bool
  | [] => true
  | v :: vs => flatV v && flatVs vs
end
noncomputable def relab (sc outer : Scope) : Scope :=
  { sc with names := sc.names.map fun (n, k) => if (k == .free && outer.kind == .function && outer.names.lookup n == some .cell) then (n, .cell) else (n, k) }
noncomputable def capB (sc : Scope) (b : Loc) : Loc := sc.names.filterMap fun (x, k) => if k == .free then (b.lookup x).map fun y => (x, y.1, .view) else none
noncomputable def tNames : Expr → List PySem.Str
  | .Name x _ => [x]
  | .Tuple es _ _ => es.filterMap nameOf
  | _ => []
noncomputable def ownName (sc : Scope) (x : PySem.Str) : Bool := x != ("self" : PySem.Str) && (sc.names.lookup x == some .local || sc.names.lookup x == some .cell)
noncomputable def compOk (sc : Scope) (pe : PE) (g : Comprehension) (r : List Comprehension) : Bool :=
  (g :: r).all (fun g => g.is_async == 0 && (tNames g.target).all fun x => ownName sc x) && sc.kind == .function && sc.names.lookup ("self" : PySem.Str) != some .local && (tNames g.target).all (fun x => ((capB sc pe.b).lookup x).isNone)
  && sc.names.all (fun (x, k) => (k != .local || sc.names.lookup x == some .local) && (k != .cell || sc.names.lookup x == some .cell) &&
    (k != .free || (sc.names.lookup x == some .free && (pe.b.lookup x).isSome && (pe.sc.names.lookup x == some .cell || pe.sc.names.lookup x == some .free))))
noncomputable def notVal : V → Option V
  | .val _ => none
  | v => some v
structure Hd (q : Bool) (h₀ : Heap) (A : Around) : Prop where
  no : q = true → A.handled = none
  ex : A.handled = none ∨ ∃ e, A.handled = some (.ref e) ∧ ExcAt h₀ e
structure Room (q : Bool) (h₀ : Heap) (k : Nat) (A : Around) : Prop where
  hd : Hd q h₀ A
  dp : A.depth + k ≤ 900
  un : A.units + 20 * k ≤ 9000
section
variable {q : Bool} {h₀ : Heap}
theorem Room.no {k : Nat} {A : Around} (r : Room q h₀ k A) : q = true → A.handled = none := r.hd.no
theorem Room.mono {k j : Nat} {A : Around} (r : Room q h₀ k A) (h : j ≤ k) : Room q h₀ j A := ⟨r.hd, by have := r.dp; omega, by have := r.un; omega⟩
theorem Room.in1 {k : Nat} {A : Around} (r : Room q h₀ (k + 1) A) : Room q h₀ k A.in1 := ⟨⟨r.hd.no, r.hd.ex⟩, by have := r.dp; show A.depth + _ ≤ _; omega, by have := r.un; show A.units + 1 + _ ≤ _; omega⟩
theorem Room.deeper {k : Nat} {A : Around} {env : Env} (r : Room q h₀ (k + 1) A) : Room q h₀ k (A.deeper env) := ⟨⟨r.hd.no, r.hd.ex⟩, by have := r.dp; simp only [Around.deeper]; omega, by have := r.un; simp only [Around.deeper_units]; omega⟩
theorem Room.units {k : Nat} {A : Around} (r : Room q h₀ k A) : A.units + 64 < cLine := by have := r.un; simp only [cLine]; omega
theorem Room.depth {k : Nat} {A : Around} (r : Room q h₀ k A) : A.depth < recursionLimit := by have := r.dp; simp only [recursionLimit]; omega
end
structure Base (K : Frag) (Γ : Glo) (h₀ : Heap) : Prop where
  kin : K.In h₀
  lim : h₀.NoLimit
  names : ∃ mg mb, h₀.Ns mainGlobals mg ∧ h₀.Ns builtinsNs mb ∧ ∀ x v, Γ.glob x = some v → isVal v = true ∧ (mg x = some v ∨ (mg x = none ∧ mb x = some v))
noncomputable def Low (h₀ : Heap) (s : Shared) : Prop := ∀ a o, h₀.get? a = some o → s.heap.get? a = some o
theorem Low.ext {h₀ : Heap} {s s' : Shared} (l : Low h₀ s) (e : Ext s s') : Low h₀ s' := fun a o q => e.keep a o (l a o q)
structure EnvR (Pin : List Addr) (h₀ : Heap) (env : Env) (pe : PE) (FP : PySem.Str → List Addr) (O : List Addr) (h : Heap) : Prop where
  sc : env.scope = pe.sc
  kind : pe.sc.kind = .function
  glo : env.globals = mainGlobals
  blt : env.builtins = builtinsNs
  low : ∀ a o, h₀.get? a = some o → h.get? a = some o
  above : h₀.get? env.locals = none
  ns : ∃ m, h.Ns env.locals m ∧ ∀ x y, pe.b.lookup x = some y → env.kindOf x = some .local → ∃ v, m x = some v ∧ VR h v y.1 (FP x)
  cells : ∀ x c, env.cells.lookup x = some c → h₀.get? c = none ∧ ∃ w, h.IsCell c w ∧ ∀ y, pe.b.lookup x = some y → env.kindOf x ≠ some .local → ∃ v, w = some v ∧ VR h v y.1 (FP x)
  kinds : ∀ x y, pe.b.lookup x = some y → env.kindOf x = some .local ∨ ((env.kindOf x = some .cell ∨ (env.kindOf x = some .free ∧ (x == ("__classdict__" : PySem.Str)) = false)) ∧ (env.cells.lookup x).isSome = true)
  apartC : ∀ x x' c, env.cells.lookup x = some c → env.cells.lookup x' = some c → x = x'
  off : ∀ x y, pe.b.lookup x = some y → ∀ a ∈ FP x, a ≠ env.locals
  own : ∀ x v, pe.b.lookup x = some (v, .own) → (FP x).Nodup ∧ ∀ a ∈ FP x, a ∈ O
  frz : ∀ x v, pe.b.lookup x = some (v, .frz) → ∀ a ∈ FP x, a ∉ O
  apart : ∀ x v x' v', x ≠ x' → pe.b.lookup x = some (v, .own) → pe.b.lookup x' = some (v', .own) → ∀ a ∈ FP x, a ∉ FP x'
  newO : ∀ a ∈ O, h₀.get? a = none ∧ a ≠ env.locals
  pin : env.kindOf ("self" : PySem.Str) = some .local → ∀ a ∈ Pin, ∃ m, h.Ns env.locals m ∧ m ("self" : PySem.Str) = some (.ref a)
section
variable {Pin : List Addr} {h₀ : Heap} {env : Env} {pe : PE} {FP : PySem.Str → List Addr} {O : List Addr} {h h' : Heap}
theorem EnvR.keeps (R : EnvR Pin h₀ env pe FP O h) (k : ∀ a o, h.get? a = some o → h'.get? a = some o) : EnvR Pin h₀ env pe FP O h' where
  sc := R.sc
  kind := R.kind
  glo := R.glo
  blt := R.blt
  low := fun a o e => k a o (R.low a o e)
  above := R.above
  ns := by
    obtain ⟨m, a, b⟩ := R.ns
    exact ⟨m, a.keeps k, fun x y e q => let ⟨v, c, d⟩ := b x y e q; ⟨v, c, d.keeps k⟩⟩
  cells := fun x c e => by
    obtain ⟨a, w, b, d⟩ := R.cells x c e
    exact ⟨a, w, b.keeps k, fun y e q => let ⟨v, f, g⟩ := d y e q; ⟨v, f, g.keeps k⟩⟩
  kinds := R.kinds
  apartC := R.apartC
  off := R.off
  own := R.own
  frz := R.frz
  apart := R.apart
  newO := R.newO
  pin := fun q a ha => let ⟨m, a, b⟩ := R.pin q a ha; ⟨m, a.keeps k, b⟩
theorem EnvR.ext {s s' : Shared} (R : EnvR Pin h₀ env pe FP O s.heap) (e : Ext s s') : EnvR Pin h₀ env pe FP O s'.heap := R.keeps e.keep
theorem EnvR.lowS {s : Shared} (R : EnvR Pin h₀ env pe FP O s.heap) : Low h₀ s := R.low
theorem EnvR.loc_dom (R : EnvR Pin h₀ env pe FP O h) : ∃ o, h.get? env.locals = some o := by
  obtain ⟨m, ⟨o, _, _, a, _⟩, _⟩ := R.ns
  exact ⟨o, a⟩
theorem EnvR.newLoc (R : EnvR Pin h₀ env pe FP O h) : h₀.get? env.locals = none := R.above
theorem EnvR.ne_new (R : EnvR Pin h₀ env pe FP O h) {a : Addr} (e : h.get? a = none) : a ≠ env.locals := by
  obtain ⟨o, q⟩ := R.loc_dom
  rintro rfl
  rw [e] at q; cases q
end
section
variable {prog : Program} {w : World} {K : Frag} {Γ : Glo} {h₀ : Heap} {A : Around} {E : PySem.Value → Shared → Prop} {s : Shared}
mutual
theorem flat_nil {h : Heap} {v : V} {u : PySem.Value} {fp : List Addr} (r : VR h u v fp) (f : flatV v = true) : fp = [] := by
  cases r with
  | none => rfl
  | bool b => rfl
  | int i t => rfl
  | str x t => rfl
  | val v hv => rfl
  | tup q rs => exact flats_nil rs f
  | lst q rs => exact nomatch (show false = true from f)
  | rng q => rfl
  | inst q q' rs => exact nomatch (show false = true from f)
  | dic q q' => exact nomatch (show false = true from f)
theorem flats_nil {h : Heap} {vs : List V} {us : List PySem.Value} {fp : List Addr} (r : VRs h us vs fp) (f : flatVs vs = true) : fp = [] := by
  cases r with
  | nil => rfl
  | cons r rs =>
    have f := Bool.and_eq_true_iff.mp (show (flatV _ && flatVs _) = true from f)
    rw [flat_nil r f.1, flats_nil rs f.2]; rfl
end
theorem VRs.length {h : Heap} {us : List PySem.Value} {vs : List V} {fp : List Addr} (r : VRs h us vs fp) : us.length = vs.length := by
  cases r with
  | nil => rfl
  | cons r rs => exact congrArg Nat.succ rs.length
theorem VRs.get {h : Heap} {us : List PySem.Value} {vs : List V} {fp : List Addr} (r : VRs h us vs fp) {i : Nat} {x : V} (e : vs[i]? = some x) : ∃ u g, us[i]? = some u ∧ VR h u x g ∧ ∀ a ∈ g, a ∈ fp := by
  cases r with
  | nil => exact nomatch (show (none : Option V) = some x from e)
  | cons r rs =>
    cases i with
    | zero =>
      cases e
      exact ⟨_, _, rfl, r, fun a m => List.mem_append_left _ m⟩
    | succ i =>
      obtain ⟨u, g, a, b, c⟩ := rs.get (i := i) e
      exact ⟨u, g, a, b, fun q m => List.mem_append_right _ (c q m)⟩
mutual
theorem VR.reads {h : Heap} {u : PySem.Value} {v : V} {fp : List Addr} (r : VR h u v fp) {d : PyData} (e : dataV v = some d) : Reads h u d fp := by
  cases r with
  | none => cases (show some PyData.none = some d from e); exact .none
  | bool b => cases (show some (PyData.bool b) = some d from e); exact .bool b
  | int i t => cases (show some (PyData.int i) = some d from e); exact .int i t
  | str x t => cases (show some (PyData.str x) = some d from e); exact .str x t
  | val v hv => exact nomatch (show (none : Option PyData) = some d from e)
  | tup q rs =>
    obtain ⟨ds, e1, e2⟩ := Option.map_eq_some_iff.mp (show (dataVs _).map PyData.tuple = some d from e)
    subst e2
    exact .tuple q rfl rfl (rs.reads e1)
  | lst q rs =>
    obtain ⟨ds, e1, e2⟩ := Option.map_eq_some_iff.mp (show (dataVs _).map PyData.list = some d from e)
    subst e2
    exact .list q rfl rfl (rs.reads e1)
  | rng q => exact nomatch (show (none : Option PyData) = some d from e)
  | inst q q' rs => exact nomatch (show (none : Option PyData) = some d from e)
  | dic q q' => exact nomatch (show (none : Option PyData) = some d from e)
theorem VRs.reads {h : Heap} {us : List PySem.Value} {vs : List V} {fp : List Addr} (r : VRs h us vs fp) {ds : List PyData} (e : dataVs vs = some ds) : ReadsAll h us ds fp := by
  cases r with
  | nil => cases (show some ([] : List PyData) = some ds from e); exact .nil
  | cons r rs =>
    obtain ⟨d, e1, e⟩ := Option.bind_eq_some_iff.mp (show (dataV _).bind (fun d => (dataVs _).bind fun ds => some (d :: ds)) = some ds from e)
    obtain ⟨ds, e2, e⟩ := Option.bind_eq_some_iff.mp e
    cases e
    exact .cons (r.reads e1) (rs.reads e2)
end
end

section
variable {h : Heap} {u : PySem.Value} {f : List Addr} {P : PySem.Value → List Addr → Prop}
@[elab_as_elim] theorem VR.noneE (r : VR h u .none f) (H : P .none []) : P u f := by cases r; exact H
@[elab_as_elim] theorem VR.boolE {b : Bool} (r : VR h u (.bool b) f) (H : P (.bool b) []) : P u f := by cases r; exact H
@[elab_as_elim] theorem VR.intE {i : Int} (r : VR h u (.int i) f) (H : ∀ t, P (.int i t) []) : P u f := by cases r; exact H _
@[elab_as_elim] theorem VR.strE {x : PySem.Str} (r : VR h u (.str x) f) (H : ∀ t, P (.str x t) []) : P u f := by cases r; exact H _
@[elab_as_elim] theorem VR.valE {z : PySem.Value} (r : VR h u (.val z) f) (H : isVal z = true → P z []) : P u f := by cases r with | val _ hv => exact H hv
@[elab_as_elim] theorem VR.tupE {l : List V} (r : VR h u (.tup l) f) (H : ∀ a us n, h.get? a = some (tupObj us n) → VRs h us l f → P (.ref a) f) : P u f := by cases r with | tup e r => exact H _ _ _ e r
@[elab_as_elim] theorem VR.lstE {l : List V} (r : VR h u (.lst l) f) (H : ∀ a us n fp, h.get? a = some (lstObj us n) → VRs h us l fp → P (.ref a) (a :: fp)) : P u f := by cases r with | lst e r => exact H _ _ _ _ e r
@[elab_as_elim] theorem VR.rngE {x y : Int} (r : VR h u (.rng x y) f) (H : ∀ a t t' t'', h.get? a = some (rngObj x y t t' t'') → P (.ref a) []) : P u f := by cases r with | rng e => exact H _ _ _ _ e
@[elab_as_elim] theorem VR.instE {C : Addr} {fs : List (PySem.Str × V)} (r : VR h u (.inst C fs) f) (H : ∀ a dx es n fp, h.get? a = some (instObj C dx) → h.get? dx = some (dictOf es n) → VRf h es fs fp → P (.ref a) (a :: dx :: fp)) : P u f := by cases r with | inst e e' r => exact H _ _ _ _ _ e e' r
theorem VRs.nilE {us : List PySem.Value} {f : List Addr} (r : VRs h us [] f) : us = [] ∧ f = [] := by cases r; exact ⟨rfl, rfl⟩
@[elab_as_elim] theorem VRs.consE {P : List PySem.Value → List Addr → Prop} {us : List PySem.Value} {x : V} {xs : List V} {f : List Addr} (r : VRs h us (x :: xs) f) (H : ∀ u us g g', VR h u x g → VRs h us xs g' → P (u :: us) (g ++ g')) : P us f := by cases r with | cons r rs => exact H _ _ _ _ r rs
end
noncomputable def Src (s : Shared) (b : Loc) (FP : PySem.Str → List Addr) (a : Addr) : Prop := s.heap.get? a = none ∨ ∃ x z, b.lookup x = some z ∧ a ∈ FP x
theorem back {s s' : Shared} {a : Addr} (x : Ext s s') (e : s'.heap.get? a = none) : s.heap.get? a = none := by
  cases q : s.heap.get? a with
  | none => rfl
  | some o => rw [x.keep a o q] at e; cases e
theorem Src.back {s s' : Shared} {b : Loc} {FP : PySem.Str → List Addr} {a : Addr} (x : Ext s s') (h : Src s' b FP a) : Src s b FP a := h.imp (Mini.back x) id
theorem fits_iff {i : Int} : fits i = true ↔ -(2 ^ 62) < i ∧ i < 2 ^ 62 := by
  unfold fits big
  rw [decide_eq_true_eq]
theorem get_none_of_size {h : Heap} : h.get? h.objs.size = none := by
  cases e : h.get? h.objs.size with
  | none => rfl
  | some o => exact absurd (Heap.lt_size e) (Nat.lt_irrefl _)
theorem get_none_of_ge {h : Heap} {a : Addr} (q : h.objs.size ≤ a) : h.get? a = none := by
  cases e : h.get? a with
  | none => rfl
  | some o => exact absurd (Heap.lt_size e) (Nat.not_lt.mpr q)
structure Got (fr : Bool) (s s' : Shared) (u : PySem.Value) (r : V) (fp old : List Addr) : Prop where
  ext : Ext s s'
  vr : VR s'.heap u r fp
  src : ∀ a ∈ fp, a ∈ old ∨ s.heap.get? a = none
  new : fr = true → fp.Nodup ∧ ∀ a ∈ fp, s.heap.get? a = none
theorem Got.flat {fr : Bool} {s s' : Shared} {u : PySem.Value} {r : V} {old : List Addr} (e : Ext s s') (v : VR s'.heap u r []) : Got fr s s' u r [] old :=
  ⟨e, v, by first | exact nn | nofun, fun _ => ⟨.nil, by first | exact nn | nofun⟩⟩
theorem Got.list {fr : Bool} {s : Shared} {h' : Heap} {tk : Nat} {a : Addr} {us : List PySem.Value} {n : Nat} {l : List V} {fp old : List Addr} (ha : s.heap.get? a = none)
    (k : ∀ a o, s.heap.get? a = some o → h'.get? a = some o) (e : h'.get? a = some (lstObj us n)) (r : VRs h' us l fp) (src : ∀ a ∈ fp, a ∈ old) (hf : fr = true → flatVs l = true) : Got fr s { s with heap := h', toks := tk } (.ref a) (.lst l) (a :: fp) old :=
  ⟨.of_heap k, .lst e r, fun b m => by
    rcases List.mem_cons.mp m with rfl | m
    · exact .inr ha
    · exact .inl (src b m), fun f => by
    rw [flats_nil r (hf f)]
    exact ⟨List.nodup_cons.mpr ⟨by simp, .nil⟩, fun b m => by rw [List.mem_singleton.mp m]; exact ha⟩⟩
theorem VRs.append {h : Heap} {vs : List PySem.Value} {ys : List V} {g : List Addr} (r' : VRs h vs ys g) {xs : List V} : ∀ {us : List PySem.Value} {f : List Addr}, VRs h us xs f → VRs h (us ++ vs) (xs ++ ys) (f ++ g) := by
  induction xs with
  | nil => intro us f r; obtain ⟨rfl, rfl⟩ := r.nilE; exact r'
  | cons x xs ih => intro us f r; refine VRs.consE r fun u us g g' a as => ?_; rw [List.append_assoc]; exact .cons a (ih as)
theorem VRs.take {h : Heap} {xs : List V} : ∀ {us : List PySem.Value} {f : List Addr} (k : Nat), VRs h us xs f → ∃ g, VRs h (us.take k) (xs.take k) g ∧ ∀ a ∈ g, a ∈ f := by
  induction xs with
  | nil => intro us f k r; obtain ⟨rfl, rfl⟩ := r.nilE; rw [List.take_nil, List.take_nil]; exact ⟨[], .nil, by first | exact nn | nofun⟩
  | cons x xs ih =>
    intro us f k r
    cases k with
    | zero => exact ⟨[], .nil, by first | exact nn | nofun⟩
    | succ k =>
      refine VRs.consE r fun u us g g' a as => ?_
      obtain ⟨g1, r1, q⟩ := ih k as
      exact ⟨g ++ g1, .cons a r1, fun b m => (List.mem_append.mp m).elim (List.mem_append_left _) fun m => List.mem_append_right _ (q b m)⟩
theorem VRs.drop {h : Heap} {xs : List V} : ∀ {us : List PySem.Value} {f : List Addr} (k : Nat), VRs h us xs f → ∃ g, VRs h (us.drop k) (xs.drop k) g ∧ ∀ a ∈ g, a ∈ f := by
  induction xs with
  | nil => intro us f k r; obtain ⟨rfl, rfl⟩ := r.nilE; rw [List.drop_nil, List.drop_nil]; exact ⟨[], .nil, by first | exact nn | nofun⟩
  | cons x xs ih =>
    intro us f k r
    cases k with
    | zero => exact ⟨f, r, fun _ m => m⟩
    | succ k =>
      refine VRs.consE r fun u us g g' a as => ?_
      obtain ⟨g1, r1, q⟩ := ih k as
      exact ⟨g1, r1, fun b m => List.mem_append_right _ (q b m)⟩
theorem VRs.rep {h : Heap} {us : List PySem.Value} {xs : List V} {f : List Addr} (r : VRs h us xs f) (n : Nat) : ∃ g, VRs h (List.replicate n us).flatten (List.replicate n xs).flatten g ∧ ∀ a ∈ g, a ∈ f := by
  induction n with
  | zero => exact ⟨[], .nil, by first | exact nn | nofun⟩
  | succ n ih =>
    obtain ⟨g, q, m⟩ := ih
    rw [List.replicate_succ, List.replicate_succ, List.flatten_cons, List.flatten_cons]
    exact ⟨f ++ g, q.append r, fun a h => (List.mem_append.mp h).elim id (m a)⟩
theorem foldl_rep (xs : List PySem.Value) : ∀ (n : Nat) (acc : Array PySem.Value), List.foldl (fun x1 x2 => x1 ++ x2) acc (List.replicate n xs.toArray) = acc ++ ((List.replicate n xs).flatten).toArray
  | 0, acc => by simp
  | n + 1, acc => by
    rw [List.replicate_succ, List.foldl_cons, foldl_rep xs n, List.replicate_succ, List.flatten_cons]
    apply Array.ext'
    simp
structure OpTo (op : Operator) (a b r : V) (fr : Bool) : Prop where
  go : ∀ {prog : Program} {w : World} {A : Around} {E : PySem.Value → Shared → Prop} {s : Shared} {u v : PySem.Value} {f g : List Addr} {Q : PySem.Value → Shared → Prop}, VR s.heap u a f → VR s.heap v b g →
  (∀ z fp s', Got fr s s' z r fp (f ++ g) → Q z s') → wpAny (model prog w) A (binaryOp op u v) Q E s
section
variable {fr : Bool}
theorem OpTo.addI {a b : Int} : OpTo .Add (.int a) (.int b) (.int (a + b)) fr := ⟨fun ra rb h => ra.intE fun _ => rb.intE fun _ => PyProof.Rows.add_int (h _ _ _ (.flat (.toks _ _) (.int _ _)))⟩
theorem OpTo.subI {a b : Int} : OpTo .Sub (.int a) (.int b) (.int (a - b)) fr := ⟨fun ra rb h => ra.intE fun _ => rb.intE fun _ => PyProof.Rows.sub_int (h _ _ _ (.flat (.toks _ _) (.int _ _)))⟩
end
section
variable {fr : Bool} {prog : Program} {w : World} {A : Around} {E : PySem.Value → Shared → Prop} {s : Shared} {u v : PySem.Value} {f g : List Addr}
theorem OpTo.mulI {a b : Int} (q : fits a = true) : OpTo .Mult (.int a) (.int b) (.int (a * b)) fr := ⟨fun ra rb h => ra.intE fun _ => rb.intE fun _ => by
  have q := fits_iff.mp q
  exact PyProof.Rows.mul_int (h _ _ _ (.flat (.toks _ _) (.int _ _))) (.of_left (intBits_le_64 (by omega) (by omega)))⟩
theorem OpTo.divI {a b : Int} (q : (decide (b ≠ 0) && decide (b.natAbs ≤ 1000000)) = true) : OpTo .FloorDiv (.int a) (.int b) (.int (a.fdiv b)) fr := ⟨fun ra rb h => ra.intE fun _ => rb.intE fun _ => by
  simp only [Bool.and_eq_true, decide_eq_true_eq] at q
  exact PyProof.Rows.floordiv_int (by omega) (h _ _ _ (.flat (.toks _ _) (.int _ _))) (hp := .inl (PyProof.noPylong_small (by omega)))⟩
theorem OpTo.modI {a b : Int} (q : (decide (b ≠ 0) && decide (b.natAbs ≤ 1000000)) = true) : OpTo .Mod (.int a) (.int b) (.int (a.fmod b)) fr := ⟨fun ra rb h => ra.intE fun _ => rb.intE fun _ => by
  simp only [Bool.and_eq_true, decide_eq_true_eq] at q
  exact PyProof.Rows.mod_int (by omega) (h _ _ _ (.flat (.toks _ _) (.int _ _)))⟩
theorem OpTo.addS {a b : PySem.Str} (q : a.length + b.length ≤ 1000000) : OpTo .Add (.str a) (.str b) (.str (a ++ b)) fr := ⟨fun ra rb h => ra.strE fun _ => rb.strE fun _ =>
  PyProof.Rows.add_str (fun t' tk => h _ _ _ (.flat (.toks _ _) (.str _ _))) (Nat.le_trans q (by decide))⟩
theorem OpTo.mulS {x : PySem.Str} {y : Int} (q1 : x.length ≤ 1000) (q2 : y ≤ 1000) (q3 : -1000 ≤ y) : OpTo .Mult (.str x) (.int y) (.str (Txt.mul x y)) fr := ⟨fun ra rb h => ra.strE fun _ => rb.intE fun _ => by
  refine SB.mul ⟨by simp; omega, fun h1 h2 => ?_, fun h1 h2 => ?_⟩ fun t' k => h _ _ _ (.flat (.toks _ _) (.str _ _))
  · have hp : 1 ≤ y := by omega
    have : (1000000 : Int) ≤ (2 ^ 63 - 1) / y := by
      apply (Int.le_ediv_iff_mul_le (by omega)).mpr
      have : 1000000 * y ≤ 1000000 * 1000 := by omega
      omega
    omega
  · have : x.length * y.toNat ≤ 1000 * 1000 := Nat.mul_le_mul q1 (by omega)
    have e24 := sizeLine_eq
    simp only [Builtin.Str.tooLong, decide_eq_false_iff_not, gt_iff_lt, Nat.not_lt]
    rw [e24]; omega⟩
theorem OpTo.addL {a b : List V} (q : a.length + b.length ≤ 1000000) (hf : fr = true → flatVs (a ++ b) = true) : OpTo .Add (.lst a) (.lst b) (.lst (a ++ b)) fr := ⟨fun {_ _ _ _ _ _ _ _ _ _} ra rb h => by
  revert h
  refine VR.lstE ra fun a1 us n1 fp1 qa ra => VR.lstE rb fun a2 vs n2 fp2 qb rb h => ?_
  have e24 := sizeLine_eq
  have ee : us.toArray ++ vs.toArray = (us ++ vs).toArray := by simp
  refine concat_meets ⟨_, qa, rfl⟩ ⟨_, qb, rfl⟩ noFill_list_add seq_list_add PySem.F.slot_list_add PySem.F.entry_list_add (PySem.F.args_list_add_2 _ _) (list_addW a1 a2 us.toArray vs.toArray n1 n2 none none #[] #[]
    (by rw [List.size_toArray, List.size_toArray, ra.length, rb.length, e24]; omega)) ⟨qa, qb, ?_⟩
  rw [ee]
  refine h _ _ _ (.list get_none_of_size (fun _ _ e => Heap.get?_push_of_some _ e) (Heap.get?_push_size _ rfl) ((rb.append ra).keeps fun _ _ e => Heap.get?_push_of_some _ e) (fun x m => ?_) hf)
  exact (List.mem_append.mp m).elim (fun m => List.mem_append_left _ (.tail _ m)) fun m => List.mem_append_right _ (.tail _ m)⟩
theorem OpTo.mulL {a : List V} {x : Int} (q1 : a.length ≤ 1000) (q2 : x ≤ 1000) (q3 : -1000 ≤ x) (hf : fr = true → flatVs (List.replicate x.toNat a).flatten = true) : OpTo .Mult (.lst a) (.int x) (.lst (List.replicate x.toNat a).flatten) fr := ⟨fun {_ _ _ _ _ _ _ _ _ _} ra rb h => by
  revert h
  refine VR.lstE ra fun a1 us n1 fp1 qa ra => VR.intE rb fun t' h => ?_
  have e24 := sizeLine_eq
  have hl := ra.length
  have hm : us.toArray.size * x.toNat ≤ 1000 * 1000 := by rw [List.size_toArray, hl]; exact Nat.mul_le_mul q1 (by omega)
  have hm2 : us.length * x.toNat ≤ 1000 * 1000 := by rw [hl]; exact Nat.mul_le_mul q1 (by omega)
  obtain ⟨g, rr, sub⟩ := ra.rep x.toNat
  refine wpAny_binaryOp_repeat_ref (T := "list") (U := "int") (by decide) ⟨_, qa, rfl⟩ (fun s' => typeIs_int s' x t') noFill_list_mul PySem.F.fills_int_mul PySem.F.slot_int_rmul repeat_list PySem.F.slot_int_index.lookup
    (call_meets PySem.F.slot_int_rmul (typeIs_int _ x t') PySem.F.entry_int_rmul (PySem.F.args_int_rmul_2 _ _) (int___rmul___int_list x t' a1 us.toArray n1)
      ⟨qa, rfl, ⟨_, qa, rfl⟩, call_meets PySem.F.slot_list_mul ⟨_, qa, rfl⟩ PySem.F.entry_list_mul (PySem.F.args_list_mul_2 _ _)
        (AutoListH.list___mul___list_int_3 a1 us.toArray n1 x t' (by simp [Builtin.List.listFitsIndex]; omega) (by omega) (by simp [Builtin.List.listTooLong, sizeLine]; omega))
        ⟨qa, ?_⟩⟩)
  have ee : (List.foldl (fun x1 x2 => x1 ++ x2) #[] (List.replicate (if us.toArray.isEmpty = true then 0 else x.toNat) us.toArray)) = ((List.replicate x.toNat us).flatten).toArray := by
    split
    · rename_i hz
      have : us = [] := by simpa using hz
      subst this
      simp
    · rw [foldl_rep]; simp
  rw [ee]
  exact h _ _ _ (.list get_none_of_size (fun _ _ e => Heap.get?_push_of_some _ e) (Heap.get?_push_size _ rfl) (rr.keeps fun _ _ e => Heap.get?_push_of_some _ e) (fun y m => List.mem_append_left _ (.tail _ (sub y m))) hf)⟩
structure TrTo (v : V) (b : Bool) : Prop where
  go : ∀ {prog : Program} {w : World} {A : Around} {E : PySem.Value → Shared → Prop} {s : Shared} {u : PySem.Value} {f : List Addr} {Q : Bool → Shared → Prop}, VR s.heap u v f → (∀ s', Ext s s' → Q b s') → wpAny (model prog w) A (truthy u) Q E s
theorem TrTo.none : TrTo .none false := ⟨fun r h => r.noneE (truthy_none (h _ (.refl _ _ _)))⟩
theorem TrTo.bool {b : Bool} : TrTo (.bool b) b := ⟨fun r h => r.boolE (wpAny_truthy_bool (h _ (.refl _ _ _)))⟩
theorem eqV_of {a b : V} {c : Bool} (e : eqV a b = some c) : ∃ d d', dataV a = some d ∧ dataV b = some d' ∧ SeqAt.shaped d = true ∧ SeqAt.shaped d' = true ∧ PyData.eqv d d' = c := by
  unfold eqV at e
  cases e1 : dataV a with
  | none => rw [e1] at e; cases e
  | some d =>
    cases e2 : dataV b with
    | none => rw [e1, e2] at e; cases e
    | some d' =>
      rw [e1, e2] at e
      simp only [Option.bind_eq_bind, Option.bind_some] at e
      cases q1 : SeqAt.shaped d <;> cases q2 : SeqAt.shaped d' <;> rw [q1, q2] at e <;> first | cases e; done | skip
      cases e
      exact ⟨d, d', rfl, rfl, q1, q2, rfl⟩
structure CmTo (op : CmpOp) (a b : V) (c : Bool) : Prop where
  go : ∀ {prog : Program} {w : World} {k : Nat} {A : Around} {E : PySem.Value → Shared → Prop} {s : Shared} {u v : PySem.Value} {f g : List Addr} {Q : PySem.Value → Shared → Prop} {q : Bool} {h₀ : Heap}, Room q h₀ k A → VR s.heap u a f → VR s.heap v b g →
  (∀ s', Ext s s' → Q (.bool c) s') → wpAny (model prog w) A (compareOp op u v) Q E s
theorem CmTo.eq {a b : V} {c : Bool} (e : eqV a b = some c) : CmTo .Eq a b c := ⟨fun R ra rb h => by
  obtain ⟨d, d', e1, e2, q1, q2, rfl⟩ := eqV_of e
  exact eq_dataH (ra.reads e1) (rb.reads e2) q1 q2 R.units (h _ (.refl _ _ _))⟩
theorem CmTo.ne {a b : V} {c : Bool} (e : eqV a b = some c) : CmTo .NotEq a b (!c) := ⟨fun R ra rb h => by
  obtain ⟨d, d', e1, e2, q1, q2, rfl⟩ := eqV_of e
  exact ne_dataH (ra.reads e1) (rb.reads e2) q1 q2 R.units (h _ (.refl _ _ _))⟩
theorem CmTo.lt {a b : Int} : CmTo .Lt (.int a) (.int b) (decide (a < b)) := ⟨fun R ra rb h => ra.intE fun _ => rb.intE fun _ => PyProof.Rows.lt_int (h _ (.refl _ _ _))⟩
theorem CmTo.le {a b : Int} : CmTo .LtE (.int a) (.int b) (decide (a ≤ b)) := ⟨fun R ra rb h => ra.intE fun _ => rb.intE fun _ => PyProof.Rows.le_int (h _ (.refl _ _ _))⟩
theorem CmTo.ge {a b : Int} : CmTo .GtE (.int a) (.int b) (decide (b ≤ a)) := ⟨fun R ra rb h => ra.intE fun _ => rb.intE fun _ => PyProof.Rows.ge_int (h _ (.refl _ _ _))⟩
theorem CmTo.notInS {a b : PySem.Str} : CmTo .NotIn (.str a) (.str b) (!(!(Builtin.Str.occurrences b a 0 b.length 1).isEmpty)) := ⟨fun R ra rb h => ra.strE fun _ => rb.strE fun _ => PyProof.Rows.notIn_str (h _ (.refl _ _ _))⟩
structure IsTo (a b : V) (c : Bool) : Prop where
  go : ∀ {h : Heap} {u v : PySem.Value} {f g : List Addr}, VR h u a f → VR h v b g → isSame u v = pure c
theorem IsTo.bool {a b : Bool} : IsTo (.bool a) (.bool b) (a == b) := ⟨fun ra rb => ra.boolE (rb.boolE (by cases a <;> cases b <;> rfl))⟩
theorem IsTo.type {a b : String} : IsTo (.val (.type a)) (.val (.type b)) (a == b) := ⟨fun ra rb => ra.valE fun _ => rb.valE fun _ => by
  show pure (PySem.Value.type a == PySem.Value.type b) = pure (a == b)
  congr 1
  rw [Bool.eq_iff_iff, beq_iff_eq, beq_iff_eq]
  exact ⟨PySem.Value.type.inj, congrArg _⟩⟩
theorem IsTo.noneN : IsTo .none .none true := ⟨fun ra rb => ra.noneE (rb.noneE rfl)⟩
theorem IsTo.strN {x : PySem.Str} : IsTo (.str x) .none false := ⟨fun ra rb => ra.strE fun _ => rb.noneE rfl⟩
theorem IsTo.intN {x : Int} : IsTo (.int x) .none false := ⟨fun ra rb => ra.intE fun _ => rb.noneE rfl⟩
theorem IsTo.lstN {x : List V} : IsTo (.lst x) .none false := ⟨fun ra rb => ra.lstE fun _ _ _ _ _ _ => rb.noneE rfl⟩
theorem CmTo.is {a b : V} {c : Bool} (i : IsTo a b c) : CmTo .Is a b c := ⟨fun {_ w _ A E s u v _ _ Q _ _} R ra rb h => by
  show wpAny _ A (do return .bool (← isSame u v)) Q E s
  rw [i.go ra rb]
  exact wpAny_bind (wpAny_pure (wpAny_pure (h _ (.refl _ _ _))))⟩
theorem CmTo.isNot {a b : V} {c : Bool} (i : IsTo a b c) : CmTo .IsNot a b (!c) := ⟨fun {_ w _ A E s u v _ _ Q _ _} R ra rb h => by
  show wpAny _ A (do return .bool (!(← isSame u v))) Q E s
  rw [i.go ra rb]
  exact wpAny_bind (wpAny_pure (wpAny_pure (h _ (.refl _ _ _))))⟩
theorem seqIndex_lt {i : Int} {n k : Nat} (e : seqIndex? i n = some k) : k < n ∧ ((0 ≤ i ∧ k = i.toNat) ∨ (i < 0 ∧ -(n : Int) ≤ i ∧ k = (i + n).toNat)) := by
  unfold seqIndex? at e
  by_cases h0 : i < 0
  · simp only [if_pos h0] at e
    split at e
    · rename_i q
      simp only [Bool.and_eq_true, decide_eq_true_eq] at q
      have e := Option.some.inj e
      exact ⟨by omega, .inr ⟨h0, by omega, by omega⟩⟩
    · cases e
  · simp only [if_neg h0] at e
    split at e
    · rename_i q
      simp only [Bool.and_eq_true, decide_eq_true_eq] at q
      have e := Option.some.inj e
      exact ⟨by omega, .inl ⟨by omega, by omega⟩⟩
    · cases e
theorem getItem_list_any {l : Addr} {items : Array PySem.Value} {i : Int} {t : Tok} {k : Nat} {x : PySem.Value} {Q : PySem.Value → Shared → Prop} (hl : s.heap.IsList l items) (hk : seqIndex? i items.size = some k) (hf : fits i = true)
    (hx : items[k]? = some x) (h : Q x s) : wpAny (model prog w) A (getItem (.ref l) (.int i t)) Q E s := by
  have hf := fits_iff.mp hf
  obtain ⟨h1, ⟨h2, rfl⟩ | ⟨h2, h3, rfl⟩⟩ := seqIndex_lt hk
  · exact wpAny_getItem_list hl h2 (by omega) hx h
  · exact wpAny_getItem_list_neg hl h2 h3 (by omega) hx h
structure SbTo (a b r : V) : Prop where
  go : ∀ {prog : Program} {w : World} {A : Around} {E : PySem.Value → Shared → Prop} {s : Shared} {u v : PySem.Value} {f g : List Addr} {value i : Expr} {Q : PySem.Value → Shared → Prop}, VR s.heap u a f → VR s.heap v b g → (∀ o x, subscripted i false o x = operate [o, x] (getItem o x)) →
  (∀ z fp s', Ext s s' → VR s'.heap z r fp → (∀ a ∈ fp, a ∈ f) → Q z s') → wpAny (model prog w) A (subscriptTail value i u v) Q E s
theorem SbTo.lst {l : List V} {x : Int} {k : Nat} {y : V} (hf : fits x = true) (e1 : seqIndex? x l.length = some k) (e2 : l[k]? = some y) : SbTo (.lst l) (.int x) y := ⟨fun {_ _ _ _ _ _ _ _ _ _ _ _} ra rb hi h => by
  revert h
  refine VR.lstE ra fun a us n fp q r => VR.intE rb fun t h => ?_
  obtain ⟨z, g, y1, y2, y3⟩ := r.get e2
  rw [← r.length] at e1
  exact tail_any (Heap.IsList.typeIs ⟨_, q, rfl, _, rfl⟩) slot_list_getitem.lookup (getItem_list_any ⟨_, q, rfl, _, rfl⟩ (by rw [List.size_toArray]; exact e1) hf (by simpa using y1) (h _ _ _ (.refl _ _ _) y2 fun b m => .tail _ (y3 b m)))
    (hi _ _)⟩
theorem SbTo.tup {l : List V} {x : Int} {k : Nat} {y : V} (hf : fits x = true) (e1 : seqIndex? x l.length = some k) (e2 : l[k]? = some y) : SbTo (.tup l) (.int x) y := ⟨fun {_ _ _ _ _ _ _ _ _ _ _ _} ra rb hi h => by
  refine VR.tupE ra fun a us n q r => VR.intE rb fun t => ?_
  obtain ⟨z, g, y1, y2, y3⟩ := r.get e2
  rw [← r.length] at e1
  have hf := fits_iff.mp hf
  have ht : IsTup _ a us.toArray := ⟨_, q, rfl, _, rfl⟩
  exact tail_any ht.typeIs slot_tuple_getitem.lookup (getItem_tuple ht (by omega) (by omega) (by rw [List.size_toArray]; exact e1) (by simpa using y1) (h _ _ _ (.refl _ _ _) y2 y3))
    (hi _ _)⟩
theorem tail_of_ItemOn' {value slice : Expr} {o i : PySem.Value} {ops : List PySem.Value} {Q : PySem.Value → Shared → Prop} (h : ItemOn (model prog w) A E o i Q s)
    (hs : subscripted slice false o i = operate ops (getItem o i)) : wpAny (model prog w) A (subscriptTail value slice o i) Q E s := by
  obtain ⟨T, id, hl, hT, hg⟩ := h
  exact tail_any hT hl hg hs
noncomputable abbrev slObj (vl vu : PySem.Value) : Obj := { cls := .type "slice", data := .fields #[vl, vu, .none] }
structure SlTo (v : V) (lo hi : Option Int) (r : V) (fr : Bool) : Prop where
  go : ∀ {prog : Program} {w : World} {A : Around} {E : PySem.Value → Shared → Prop} {s : Shared} {u vl vu : PySem.Value} {f : List Addr} {value : Expr} {a b : Option Expr} {p : Pos} {Q : PySem.Value → Shared → Prop}, VR s.heap u v f → IsPart vl lo → IsPart vu hi →
  (∀ z fp s', Got fr s s' z r fp f → Q z s') → wpAny (model prog w) A (subscriptTail value (.Slice a b none p) u (.ref s.heap.objs.size)) Q E { s with heap := s.heap.push (slObj vl vu) }
theorem SlTo.lst {l : List V} {lo hi : Option Int} (hz : l.length ≤ 1000000) (hf : fr = true → flatVs (pickV l lo hi) = true) : SlTo (.lst l) lo hi (.lst (pickV l lo hi)) fr := ⟨fun {_ _ _ _ s _ vl vu _ _ _ _ _ _} ra pl pu h => by
  revert h
  refine VR.lstE ra fun a1 us n fp q r h => ?_
  have e24 := sizeLine_eq
  have q' := Heap.get?_push_of_some (slObj vl vu) q
  refine tail_any (ops := [.ref s.heap.objs.size, .ref a1]) (T := "list") ⟨_, q', rfl⟩ slot_list_getitem.lookup ?_ rfl
  refine wpAny_getItem_list_slice (s := { s with heap := s.heap.push (slObj vl vu) }) (items := us.toArray) ⟨_, q', rfl, _, rfl⟩ (Heap.IsSliceOf.new ..) pl pu .none (by simp) ?_ (by rw [List.size_toArray, r.length, e24]; omega)
  rw [slicePick_plain, List.size_toArray]
  dsimp only
  obtain ⟨g1, r1, m1⟩ := r.drop (lo.elim 0 (clipAt us.length))
  obtain ⟨g2, r2, m2⟩ := r1.take (hi.elim us.length (clipAt us.length) - lo.elim 0 (clipAt us.length))
  have ee : pickV l lo hi = ((l.drop (lo.elim 0 (clipAt us.length))).take (hi.elim us.length (clipAt us.length) - lo.elim 0 (clipAt us.length))) := by
    unfold pickV; rw [r.length]
  have k2 : ∀ a o, s.heap.get? a = some o → ((s.heap.push (slObj vl vu)).push { cls := .type "list", data := .seq ((us.drop (lo.elim 0 (clipAt us.length))).take (hi.elim us.length (clipAt us.length) - lo.elim 0 (clipAt us.length))).toArray }).get? a = some o :=
    fun _ _ e => Heap.get?_push_of_some _ (Heap.get?_push_of_some _ e)
  refine h _ _ _ (.list (get_none_of_ge (by have := Heap.size_push s.heap (slObj vl vu); show s.heap.objs.size ≤ (s.heap.push (slObj vl vu)).objs.size; omega)) k2 (Heap.get?_push_size _ rfl) (l := pickV l lo hi) (fp := g2) ?_ (fun y m => .tail _ (m1 y (m2 y m))) hf)
  rw [ee]
  exact r2.keeps k2⟩
theorem SlTo.str {x : PySem.Str} {lo hi : Option Int} (hz : x.length ≤ sizeLine) : SlTo (.str x) lo hi (.str (Txt.slice x lo hi)) fr := ⟨fun {_ _ _ _ s _ vl vu _ _ _ _ _ Q} ra pl pu h => by
  refine VR.strE ra fun t => ?_
  have hk : KeptH fun h' => ∀ a o, s.heap.get? a = some o → h'.get? a = some o := fun h' ob k a o e => Heap.get?_push_of_some _ (k a o e)
  have fin : ∀ h' t' k, (∀ a o, s.heap.get? a = some o → h'.get? a = some o) → Q (.str (Txt.slice x lo hi) t') { s with heap := h', toks := k } := fun h' t' k q => h _ _ _ (.flat (.of_heap q) (.str _ _))
  cases pl with
  | none => cases pu with
    | none => exact tail_of_ItemOn' (SBH.sliceItem_nn hk (fun _ _ e => e) fin hz) rfl
    | int j tj => exact tail_of_ItemOn' (SBH.sliceItem_ns hk (fun _ _ e => e) fin hz) rfl
  | int i ti => cases pu with
    | none => exact tail_of_ItemOn' (SBH.sliceItem_sn hk (fun _ _ e => e) fin hz) rfl
    | int j tj => exact tail_of_ItemOn' (SBH.sliceItem_ss hk (fun _ _ e => e) fin hz) rfl⟩
end

structure NewP (s : Shared) (al : Bool) (fp q : List Addr) : Prop where
  src : ∀ a ∈ q, s.heap.get? a = none ∨ a ∈ fp
  new : al = false → q.Nodup ∧ ∀ a ∈ q, s.heap.get? a = none
  nodup : fp.Nodup → q.Nodup
noncomputable def IterTo (q : Bool) (h₀ : Heap) (prog : Program) (w : World) (R : Nat) (s₀ : Shared) (fp : List Addr) (xs : List V) (u : PySem.Value) (s : Shared) : Prop :=
  ∀ (A : Around) (E : PySem.Value → Shared → Prop) (Q : PySem.Value → Shared → Prop), Room q h₀ R A → (∀ I rd wr gs s', Ext s s' → (∀ a ∈ rd, (a ∈ fp ∨ s₀.heap.get? a = none) ∧ ∃ o, s'.heap.get? a = some o) → (∀ a ∈ wr, s₀.heap.get? a = none ∧ a ∈ rd) → (∀ i ∈ gs, s₀.gens[i]? = none ∧ ∃ g, s'.gens[i]? = some g) →
    (∀ A' : Around, Room q h₀ R A' → It h₀ prog w A' I rd wr gs xs s') → (∀ (A' : Around) (E' : PySem.Value → Shared → Prop) (Q' : PySem.Value → Shared → Prop) (s'' : Shared), Room q h₀ R A' → Agr h₀ rd gs s' s'' → Q' (.ref I) s'' → wpAny (model prog w) A' (pyIter (.ref I)) Q' E' s'') → Q (.ref I) s') →
    wpAny (model prog w) A (pyIter u) Q E s
noncomputable def Bnd (env : Env) (WL : List Addr) (x : PySem.Str) : Prop := x ≠ ("self" : PySem.Str) ∧ ((env.kindOf x = some .local ∧ env.locals ∈ WL) ∨ (env.kindOf x = some .cell ∧ ∃ c, env.cells.lookup x = some c ∧ c ∈ WL))
noncomputable def Pls (env : Env) (WL : List Addr) : Prop := ∀ a ∈ WL, a = env.locals ∨ ∃ x c, env.cells.lookup x = some c ∧ a = c
structure SetOk (K : Frag) (C : Addr) (a : PySem.Str) : Prop where
  set : findIn K (.ref C) "__setattr__" = some (some (.builtin "object.__setattr__"))
  over : plainOver K C = true
  taker : takerIn K C a = some none
structure GloOk (q : Bool) (prog : Program) (w : World) (K : Frag) (Γ : Glo) (h₀ : Heap) (R : Nat) : Prop where
  base : Base K Γ h₀
  keep : ∀ f args kws r, Γ.fn f args kws = some r → ∀ h, K.In h → ∃ k, (k = Keeper.frame ∨ k = Keeper.machine ∨ k = Keeper.boundFrame) ∧ Looks (model prog w) h (keeperOf f) k
  call : ∀ f args kws r, Γ.fn f args kws = some r → ∀ (A : Around) (E : PySem.Value → Shared → Prop) (s : Shared) (us ks : List PySem.Value) (fp g : List Addr) (Q : PySem.Value → Shared → Prop), Room q h₀ R A → Low h₀ s → (Γ.al f = true → ∀ a ∈ fp ++ g, h₀.get? a = none) →
    VRs s.heap us args fp → VRs s.heap ks (kws.map (·.2)) g → (∀ u q s', Stp (if Γ.al f = true then fp ++ g else []) [] s s' → VR s'.heap u r q → NewP s (Γ.al f) (fp ++ g) q → Q u s') → wpAny (model prog w) A (call f us ((kws.map (·.1)).zip ks)) Q E s
  gen : ∀ f args ys, Γ.gen f args = some ys → (∀ h, K.In h → ∃ k, (k = Keeper.frame ∨ k = Keeper.machine ∨ k = Keeper.boundFrame) ∧ Looks (model prog w) h (keeperOf f) k) ∧ ∀ (A : Around) (E : PySem.Value → Shared → Prop) (s : Shared) (us : List PySem.Value) (fp : List Addr) (Q : PySem.Value → Shared → Prop), Room q h₀ R A → Low h₀ s →
    VRs s.heap us args fp → (∀ u s', Ext s s' → IterTo q h₀ prog w R s fp ys u s' → Q u s') → wpAny (model prog w) A (PySem.call f us) Q E s
  meth : ∀ v name f, Γ.meth v name = some f → Γ.al f = false ∧ ∀ (A : Around) (E : PySem.Value → Shared → Prop) (s : Shared) (u : PySem.Value) (fp : List Addr) (pl : Sem Bool) (Q : PySem.Value × List PySem.Value → Shared → Prop), Room q h₀ R A → Low h₀ s → VR s.heap u v fp →
    (∀ s', Ext s s' → Q (f, [u]) s') → wpAny (model prog w) A (getMethod u name pl) Q E s
  catt : ∀ v name r, Γ.catt v name = some r → ∀ (A : Around) (E : PySem.Value → Shared → Prop) (s : Shared) (Q : PySem.Value → Shared → Prop), Room q h₀ R A → Low h₀ s →
    (∀ u s', Ext s s' → VR s'.heap u r [] → Q u s') → wpAny (model prog w) A (getAttr v name true) Q E s
  fld : ∀ C name, Γ.fld C name = true → plainGet K C name = true ∧ hasDictIn K C = true ∧ ∃ attr, findIn K (.ref C) name = some attr ∧ noGet K attr = true
structure GloS (q : Bool) (prog : Program) (w : World) (K : Frag) (Γ : Glo) (h₀ : Heap) (R : Nat) : Prop extends GloOk q prog w K Γ h₀ R where
  setF : ∀ C a, Γ.fld C a = true → SetOk K C a
  effM : ∀ C name f, Γ.eff C name = some f → (∀ h, K.In h → ∃ k, (k = Keeper.frame ∨ k = Keeper.machine ∨ k = Keeper.boundFrame) ∧ Looks (model prog w) h (keeperOf f) k) ∧ ∀ (A : Around) (E : PySem.Value → Shared → Prop) (s : Shared) (u : PySem.Value) (fs : List (PySem.Str × V)) (fp : List Addr) (pl : Sem Bool) (Q : PySem.Value × List PySem.Value → Shared → Prop), Room q h₀ R A → Low h₀ s → VR s.heap u (.inst C fs) fp → fs.lookup name = none →
    (∀ s', Ext s s' → Q (f, [u]) s') → wpAny (model prog w) A (getMethod u name pl) Q E s
  effC : ∀ C name f, Γ.eff C name = some f → ∀ fs vs y', Γ.efn f (.inst C fs) vs = some y' → ∀ (A : Around) (E : PySem.Value → Shared → Prop) (s : Shared) (u : PySem.Value) (us : List PySem.Value) (g : List Addr) (Q : PySem.Value → Shared → Prop), Room q h₀ R A → Low h₀ s →
    (∀ a ∈ g, h₀.get? a = none) → VR s.heap u (.inst C fs) g → g.Nodup → VRs s.heap us vs [] → (∀ r s' g', Stp g [] s s' → VR s'.heap u y' g' → g'.Nodup → (∀ a ∈ g', a ∈ g ∨ s.heap.get? a = none) → (∀ a ∈ g, ∃ o, s'.heap.get? a = some o) → Q r s') →
    wpAny (model prog w) A (PySem.call f (u :: us)) Q E s
  del : ∀ C f, Γ.eff C ("__delitem__" : PySem.Str) = some f → ∀ (A : Around) (E : PySem.Value → Shared → Prop) (s : Shared) (u i : PySem.Value) (fs : List (PySem.Str × V)) (fp : List Addr) (Q : Unit → Shared → Prop), Room q h₀ R A → Low h₀ s → VR s.heap u (.inst C fs) fp →
    wpAny (model prog w) A (PySem.call f [u, i]) (fun _ s' => Q () s') E s → wpAny (model prog w) A (delItem u i) Q E s
structure Cx where
  prog : Program
  w : World
  K : Frag
  Γ : Glo
  h₀ : Heap
  R : Nat
  Pin : List Addr
  q : Bool
  ok : GloS q prog w K Γ h₀ R
structure At (c : Cx) (pe : PE) where
  A : Around
  E : PySem.Value → Shared → Prop
  s : Shared
  env : Env
  FP : PySem.Str → List Addr
  O : List Addr
  room : Room c.q c.h₀ c.R A
  X : EnvR c.Pin c.h₀ env pe FP O s.heap
noncomputable abbrev At.ext {c : Cx} {pe : PE} (t : At c pe) {s1 : Shared} (x : Ext t.s s1) : At c pe := ⟨t.A, t.E, s1, t.env, t.FP, t.O, t.room, t.X.ext x⟩
noncomputable abbrev At.M {c : Cx} {pe : PE} (_ : At c pe) : Model := model c.prog c.w
inductive EvF (fr : Bool) (b : Loc) (FP : PySem.Str → List Addr) (s : Shared) (v : V) (u : PySem.Value) (s' : Shared) : Prop
  | mk (fp : List Addr) (x : Ext s s') (r : VR s'.heap u v fp) (o : ∀ a ∈ fp, Src s b FP a) (n : fr = true → fp.Nodup ∧ ∀ a ∈ fp, s.heap.get? a = none)
inductive EvsF (fr : Bool) (b : Loc) (FP : PySem.Str → List Addr) (s : Shared) (vs : List V) (us : List PySem.Value) (s' : Shared) : Prop
  | mk (fp : List Addr) (x : Ext s s') (r : VRs s'.heap us vs fp) (o : ∀ a ∈ fp, Src s b FP a) (n : fr = true → fp.Nodup ∧ ∀ a ∈ fp, s.heap.get? a = none)
noncomputable def EvTo (c : Cx) (pe : PE) (e : Expr) (v : V) (fr : Bool) : Prop := ∀ (t : At c pe) (Q : PySem.Value → Shared → Prop), (∀ u s', EvF fr pe.b t.FP t.s v u s' → Q u s') → wpAny t.M t.A (eval e t.env) Q t.E t.s
noncomputable def EvsTo (c : Cx) (pe : PE) (es : List Expr) (vs : List V) (fr : Bool) : Prop := ((∀ e ∈ es, ∀ x p, e ≠ .Starred x p) ∧ es.length = vs.length) ∧ ∀ (t : At c pe) (pos : Pos) (Q : List PySem.Value → Shared → Prop), (∀ us s', EvsF fr pe.b t.FP t.s vs us s' → Q us s') → wpAny t.M t.A (spliced (backTo pos (starEach es t.env))) Q t.E t.s
noncomputable def EvkTo (c : Cx) (pe : PE) (ks : List Keyword) (vs : List (PySem.Str × V)) : Prop := (∀ env pos, (backToKw pos (keywordEach ks env)).filterMap (·.1) = vs.map (·.1) ∧ (backToKw pos (keywordEach ks env)).all (·.1.isSome) = true) ∧ ∀ (t : At c pe) (pos : Pos) (Q : List PySem.Value → Shared → Prop), (∀ us s', EvsF ks.isEmpty pe.b t.FP t.s (vs.map (·.2)) us s' → Q us s') → wpAny t.M t.A (evalAll ((backToKw pos (keywordEach ks t.env)).map (·.2))) Q t.E t.s
noncomputable def EtTo (c : Cx) (pe : PE) (e : Expr) (b : Bool) : Prop := ∀ (t : At c pe) (Q : Bool → Shared → Prop), (∀ s', Ext t.s s' → Q b s') → wpAny t.M t.A (isTrue e t.env (eval e t.env)) Q t.E t.s
noncomputable def EaTo (c : Cx) (pe : PE) (op : BoolOp) (es : List Expr) (b : Bool) : Prop := ∀ (t : At c pe) (Q : Bool → Shared → Prop), (∀ s', Ext t.s s' → Q b s') → wpAny t.M t.A (allTrue op es t.env) Q t.E t.s
noncomputable def EoTo (c : Cx) (pe : PE) (e : Option Expr) (i : Option Int) : Prop := ∀ (t : At c pe) (Q : PySem.Value → Shared → Prop), (∀ u s', Ext t.s s' → IsPart u i → Q u s') → wpAny t.M t.A (evalPart e t.env) Q t.E t.s
section
variable {Pin : List Addr} {prog : Program} {w : World} {K : Frag} {Γ : Glo} {h₀ : Heap} {A : Around} {E : PySem.Value → Shared → Prop} {s : Shared} {env : Env} {pe : PE} {FP : PySem.Str → List Addr} {O : List Addr}
theorem getL_hit {en : DictEntry} {es : List DictEntry} {name : PySem.Str} {t : Tok} (h : en.key = .str name t) : getL name (en :: es) = some (some en.val) := by
  unfold getL
  have : en.key.isStr name = true := by rw [h]; exact beq_self_eq_true name
  simp [this]
theorem getL_miss {en : DictEntry} {es : List DictEntry} {k name : PySem.Str} {t : Tok} (h : en.key = .str k t) (q : (name == k) = false) : getL name (en :: es) = getL name es := by
  have h1 : en.key.isStr name = false := by
    rw [h]
    show (k == name) = false
    rw [Bool.eq_false_iff] at q ⊢
    exact fun z => q (beq_iff_eq.mpr (beq_iff_eq.mp z).symm)
  have h2 : en.refKey = false := by unfold DictEntry.refKey; rw [h]
  unfold getL
  simp [h1, h2]
@[elab_as_elim] theorem VRf.consE {h : Heap} {P : List DictEntry → List Addr → Prop} {es : List DictEntry} {k : PySem.Str} {x : V} {fs : List (PySem.Str × V)} {f : List Addr} (r : VRf h es ((k, x) :: fs) f) (H : ∀ e es t g g', e.key = .str k t → VR h e.val x g → VRf h es fs g' → P (e :: es) (g ++ g')) : P es f := by cases r with | cons hk r rs => exact H _ _ _ _ _ hk r rs
theorem VRf.nilE {h : Heap} {es : List DictEntry} {f : List Addr} (r : VRf h es [] f) : es = [] ∧ f = [] := by cases r; exact ⟨rfl, rfl⟩
theorem getL_of {h : Heap} {name : PySem.Str} {y : V} {fs : List (PySem.Str × V)} : ∀ {es : List DictEntry} {fp : List Addr}, VRf h es fs fp → fs.lookup name = some y → ∃ u g, getL name es = some (some u) ∧ VR h u y g ∧ ∀ a ∈ g, a ∈ fp := by
  induction fs with
  | nil => intro es fp r e; cases e
  | cons p fs ih =>
    obtain ⟨k, x⟩ := p
    intro es fp r e
    rw [List.lookup_cons] at e
    refine VRf.consE r fun en es t g g' hk r rs => ?_
    cases q : name == k with
    | true =>
      rw [q] at e; cases e
      exact ⟨_, _, getL_hit (by rw [hk, beq_iff_eq.mp q]), r, fun a m => List.mem_append_left _ m⟩
    | false =>
      rw [q] at e
      obtain ⟨u, g, a, b, c⟩ := ih rs e
      exact ⟨u, g, by rw [getL_miss hk q]; exact a, b, fun x m => List.mem_append_right _ (c x m)⟩
end
section
variable {c : Cx} {pe : PE} {e l r : Expr} {v a b : V} {fr f1 f2 : Bool}
theorem EvF.flat {b : Loc} {FP : PySem.Str → List Addr} {s s' : Shared} {u : PySem.Value} (x : Ext s s') (r : VR s'.heap u v []) : EvF fr b FP s v u s' := ⟨[], x, r, by first | exact nn | nofun, fun _ => ⟨.nil, by first | exact nn | nofun⟩⟩
theorem EvTo.any (hf : flatV v = true) (h : EvTo c pe e v false) : EvTo c pe e v fr := fun t Q q => h t Q fun u s' p => q u s' (by
  obtain ⟨fp, x, r, o, n⟩ := p
  have := flat_nil r hf
  subst this
  exact .flat x r)
theorem EvTo.cNone {q : Nat} {p : Pos} : EvTo c pe (.Constant .none q p) .none fr := fun _ _ h => wpAny_Constant_none (h _ _ (.flat (.refl _ _ _) .none))
theorem EvTo.cBool {x : Bool} {q : Nat} {p : Pos} : EvTo c pe (.Constant (.bool x) q p) (.bool x) fr := fun _ _ h => wpAny_Constant_bool (h _ _ (.flat (.refl _ _ _) (.bool _)))
theorem EvTo.cInt {x : Int} {q : Nat} {p : Pos} : EvTo c pe (.Constant (.int x) q p) (.int x) fr := fun _ _ h => wpAny_Constant_int (h _ _ (.flat (.toks _ _) (.int _ _)))
theorem EvTo.cStr {x : PySem.Str} {q : Nat} {p : Pos} : EvTo c pe (.Constant (.str x) q p) (.str x) fr := fun _ _ h => wpAny_Constant_str (h _ _ (.flat (.toks _ _) (.str _ _)))
theorem look_loc {x : PySem.Str} {y : V × Sta} (t : At c pe) (e : pe.b.lookup x = some y) {Q : PySem.Value → Shared → Prop} (h : ∀ u, VR t.s.heap u y.1 (t.FP x) → Q u t.s) : wpAny t.M t.A (loadName t.env x) Q t.E t.s := by
  have hk : t.env.scope.kind = .function := by rw [t.X.sc]; exact t.X.kind
  by_cases hl : t.env.kindOf x = some .local
  · obtain ⟨m, hm, hv⟩ := t.X.ns
    obtain ⟨u, hu, r⟩ := hv x y e hl
    exact wpAny_loadName_local hk hl hm hu (h u r)
  · rcases t.X.kinds x y e with q | ⟨q, hc⟩
    · exact absurd q hl
    · obtain ⟨d, hc⟩ := Option.isSome_iff_exists.mp hc
      obtain ⟨_, wv, hw, hz⟩ := t.X.cells x d hc
      obtain ⟨u, rfl, r⟩ := hz y e hl
      rcases q with q | ⟨q, q'⟩
      · exact wpAny_loadName_cell hk q hc hw (h u r)
      · exact wpAny_loadName_free hk q hc hw (h u r) q'
theorem look_glo {x : PySem.Str} {v : PySem.Value} (t : At c pe) (eq : (pe.sc.names.lookup x == some .globalImplicit) = true) (eg : c.Γ.glob x = some v) {Q : PySem.Value → Shared → Prop} (h : VR t.s.heap v (.val v) [] → Q v t.s) : wpAny t.M t.A (loadName t.env x) Q t.E t.s := by
  have hk : t.env.scope.kind = .function := by rw [t.X.sc]; exact t.X.kind
  obtain ⟨mg, mb, hmg, hmb, hh⟩ := c.ok.base.names
  obtain ⟨hv, hh⟩ := hh x v eg
  have q : t.env.kindOf x = some .globalImplicit := by
    show t.env.scope.names.lookup x = _
    rw [t.X.sc]; exact beq_iff_eq.mp eq
  unfold loadName
  simp only [Env.blockKind, hk, q, ScopeKind.isAnnotationScope, Bool.false_and, Bool.false_eq_true, if_false]
  have g1 : t.s.heap.Ns t.env.globals mg := by rw [t.X.glo]; exact hmg.keeps t.X.low
  have g2 : t.s.heap.Ns t.env.builtins mb := by rw [t.X.blt]; exact hmb.keeps t.X.low
  rcases hh with hh | ⟨h1, h2⟩
  · exact Calls.loadGlobal_global g1 hh (h (.val v hv))
  · exact Calls.loadGlobal_builtin g1 h1 g2 h2 (h (.val v hv))
noncomputable def notDbg (x : PySem.Str) : Bool := !(x == ("__debug__" : PySem.Str))
theorem EvTo.name {x : PySem.Str} {st : Sta} {p : Pos} (e : pe.b.lookup x = some (v, st)) (hd : notDbg x = true) : EvTo c pe (.Name x p) v false := fun t _ h =>
  wpAny_Name (look_loc t e fun u r => h u _ ⟨_, .refl _ _ _, r, fun a m => .inr ⟨x, _, e, m⟩, by first | exact nn | nofun⟩) (by simpa [notDbg] using hd)
theorem EvTo.glob {x : PySem.Str} {z : PySem.Value} {p : Pos} (eg : c.Γ.glob x = some z) (hd : notDbg x = true) (eq : (pe.sc.names.lookup x == some .globalImplicit) = true) : EvTo c pe (.Name x p) (.val z) fr := fun t _ h =>
  wpAny_Name (look_glo t eq eg fun r => h _ _ (.flat (.refl _ _ _) r)) (by simpa [notDbg] using hd)
theorem EvTo.bin {op : Operator} {p : Pos} (h1 : EvTo c pe l a f1) (h2 : EvTo c pe r b f2) (ho : OpTo op a b v fr) : EvTo c pe (.BinOp l op r p) v fr := fun t Q h => by
  refine wpAny_BinOp (h1 t _ fun u s1 p1 => ?_)
  obtain ⟨f, x1, r1, o1, _⟩ := p1
  refine h2 (t.ext x1) _ fun u' s2 p2 => ?_
  obtain ⟨g, x2, r2, o2, _⟩ := p2
  refine ho.go (r1.ext x2) r2 fun z fp s3 D => h z s3 ⟨fp, (x1.ext x2).ext D.ext, D.vr, fun a m => ?_, fun fr => ?_⟩
  · exact (D.src a m).elim (fun y => (List.mem_append.mp y).elim (o1 a) fun y => (o2 a y).back x1) fun y => .inl (back (x1.ext x2) y)
  · exact ⟨(D.new fr).1, fun a m => back (x1.ext x2) ((D.new fr).2 a m)⟩
theorem EvTo.neg {i : Int} {p : Pos} (h1 : EvTo c pe e (.int i) f1) : EvTo c pe (.UnaryOp .USub e p) (.int (-i)) fr := fun t Q h => by
  refine wpAny_UnaryOp (h1 t _ fun u s1 p1 => ?_)
  obtain ⟨f, x1, r1, o1, _⟩ := p1
  exact VR.intE r1 fun t' => neg_int (h _ _ (.flat (x1.ext (.toks _ _)) (.int _ _)))
theorem EvTo.ifT {ts : Expr} {p : Pos} (h1 : EtTo c pe ts true) (h2 : EvTo c pe l v fr) : EvTo c pe (.IfExp ts l r p) v fr := fun t Q h => by
  refine wpAny_IfExp (h1 t _ fun s1 x1 => h2 (t.ext x1) _ fun u s2 p2 => ?_)
  obtain ⟨g, x2, r2, o2, n2⟩ := p2
  exact h _ _ ⟨g, x1.ext x2, r2, fun a m => (o2 a m).back x1, fun z => ⟨(n2 z).1, fun a m => back x1 ((n2 z).2 a m)⟩⟩
theorem EvTo.ifF {ts : Expr} {p : Pos} (h1 : EtTo c pe ts false) (h2 : EvTo c pe r v fr) : EvTo c pe (.IfExp ts l r p) v fr := fun t Q h => by
  refine wpAny_IfExp (h1 t _ fun s1 x1 => h2 (t.ext x1) _ fun u s2 p2 => ?_)
  obtain ⟨g, x2, r2, o2, n2⟩ := p2
  exact h _ _ ⟨g, x1.ext x2, r2, fun a m => (o2 a m).back x1, fun z => ⟨(n2 z).1, fun a m => back x1 ((n2 z).2 a m)⟩⟩
theorem marked_one {op : CmpOp} {x : Expr} {env : Env} (g1 : lastMarks [op] [x] = false) : markedEach [op] [x] (evalEach [x] env) = evalEach [x] env := by
  show [markedBehindIn op x (eval x env)] = [eval x env]
  unfold markedBehindIn
  have : behindInMarks op x = false := g1
  rw [this]
theorem EvTo.cmp {op : CmpOp} {x : Bool} {p : Pos} (h1 : EvTo c pe l a f1) (h2 : EvTo c pe r b f2) (hc : CmTo op a b x) (hm : lastMarks [op] [r] = false) : EvTo c pe (.Compare l [op] [r] p) (.bool x) fr := fun t Q h => by
  rw [arm_eval_Compare]
  refine wpAny_bind (h1 t _ fun u s1 p1 => ?_)
  obtain ⟨f, x1, r1, o1, _⟩ := p1
  rw [marked_one hm]
  refine chain_last (h2 (t.ext x1) _ fun z s2 p2 => ?_)
  obtain ⟨g, x2, r2, o2, _⟩ := p2
  exact hc.go t.room (r1.ext x2) r2 fun s3 x3 => h _ _ (.flat ((x1.ext x2).ext x3) (.bool _))
theorem EtTo.cmp {op : CmpOp} {x : Bool} {p : Pos} (h1 : EvTo c pe l a f1) (h2 : EvTo c pe r b f2) (hc : CmTo op a b x) (hm : lastMarks [op] [r] = false) : EtTo c pe (.Compare l [op] [r] p) x := fun t Q h => by
  rw [arm_isTrue_Compare]
  refine wpAny_bind (h1 t _ fun u s1 p1 => ?_)
  obtain ⟨f, x1, r1, o1, _⟩ := p1
  rw [marked_one hm]
  refine test_last (h2 (t.ext x1) _ fun z s2 p2 => ?_)
  obtain ⟨g, x2, r2, o2, _⟩ := p2
  exact hc.go t.room (r1.ext x2) r2 fun s3 x3 => wpAny_truthy_bool (h _ ((x1.ext x2).ext x3))
theorem EtTo.val {x : Bool} (h1 : EvTo c pe e v f1) (ht : TrTo v x) (hp : ∀ (env : Env) (m : Sem PySem.Value), isTrue e env m = (do let v ← m; standAt (Expr.pos e); holding [v] (truthy v))) : EtTo c pe e x := fun t Q h => by
  rw [hp]
  refine wpAny_bind (h1 t _ fun u s1 p1 => ?_)
  obtain ⟨f, x1, r1, o1, _⟩ := p1
  exact wpAny_bind (wpAny_standAt (wpAny_holding (ht.go r1 fun s2 x2 => h _ (x1.ext x2))))
theorem EtTo.bool {op : BoolOp} {es : List Expr} {x : Bool} {p : Pos} (h1 : EaTo c pe op es x) : EtTo c pe (.BoolOp op es p) x := fun t Q h => h1 t Q h
theorem EaTo.nil {op : BoolOp} : EaTo c pe op [] (op == .And) := fun t Q h => wpAny_pure (h _ (.refl _ _ _))
theorem EaTo.orF {es : List Expr} {x : Bool} (h1 : EtTo c pe e false) (h2 : EaTo c pe .Or es x) : EaTo c pe .Or (e :: es) x := fun t Q h => by
  rw [arm_allTrue_cons]
  exact wpAny_bind (h1 t _ fun s1 x1 => h2 (t.ext x1) _ fun s2 x2 => h _ (x1.ext x2))
theorem EoTo.none : EoTo c pe .none .none := fun t Q h => wpAny_pure (h _ _ (.refl _ _ _) .none)
theorem EoTo.some {i : Int} (h1 : EvTo c pe e (.int i) f1) : EoTo c pe (some e) (some i) := fun t Q h => h1 t _ fun u s1 p1 => by
  obtain ⟨f, x1, r1, o1, _⟩ := p1
  exact VR.intE r1 fun t' => h _ _ x1 (.int _ _)
theorem EvTo.slice {lo hi : Option Expr} {i j : Option Int} {p p' : Pos} (h1 : EvTo c pe e a f1) (h2 : EoTo c pe lo i) (h3 : EoTo c pe hi j) (hs : SlTo a i j v fr) : EvTo c pe (.Subscript e (.Slice lo hi none p') p) v fr := fun t Q h => by
  refine Subscript_ (h1 t _ fun u s1 p1 => ?_)
  obtain ⟨f, x1, r1, o1, _⟩ := p1
  refine wpAny_Slice (h2 (t.ext x1) _ fun vl s2 x2 pl => h3 (t.ext (x1.ext x2)) _ fun vu s3 x3 pu => wpAny_pure ?_)
  have x13 := (x1.ext x2).ext x3
  refine hs.go (r1.ext (x2.ext x3)) pl pu fun z fp s4 D => h z s4 ⟨fp, x13.ext D.ext, D.vr, fun a m => (D.src a m).elim (o1 a) fun y => .inl (back x13 y), fun fr => ⟨(D.new fr).1, fun a m => back x13 ((D.new fr).2 a m)⟩⟩
theorem EvTo.sub {p : Pos} (h1 : EvTo c pe l a f1) (h2 : EvTo c pe r b f2) (hs : SbTo a b v) (hi : ∀ o x, subscripted r false o x = operate [o, x] (getItem o x)) : EvTo c pe (.Subscript l r p) v false := fun t Q h => by
  refine Subscript_ (h1 t _ fun u s1 p1 => ?_)
  obtain ⟨f, x1, r1, o1, _⟩ := p1
  refine h2 (t.ext x1) _ fun u' s2 p2 => ?_
  obtain ⟨g, x2, r2, o2, _⟩ := p2
  exact hs.go (r1.ext x2) r2 hi fun z fp s3 x3 r3 sub => h z s3 ⟨fp, (x1.ext x2).ext x3, r3, fun a m => o1 a (sub a m), by first | exact nn | nofun⟩
theorem star_plain {env : Env} {es : List Expr} (h : ∀ e ∈ es, ∀ x p, e ≠ .Starred x p) : starEach es env = es.map fun e => (false, eval e env) := by
  induction es with
  | nil => rfl
  | cons e r ih =>
    have : starEach (e :: r) env = (false, eval e env) :: starEach r env := by
      cases e <;> first | rfl | exact absurd rfl (h _ (.head _) _ _)
    rw [this, ih fun x hx => h x (.tail _ hx)]; rfl
theorem EvsTo.nil : EvsTo c pe [] [] fr := ⟨⟨by first | exact nn | nofun, rfl⟩, fun t pos Q h => wpAny_items_nil (h _ _ ⟨[], .refl _ _ _, .nil, by first | exact nn | nofun, fun _ => ⟨.nil, by first | exact nn | nofun⟩⟩)⟩
theorem EvsTo.cons {es : List Expr} {vs : List V} (hs : ∀ env, starEach [e] env = [(false, eval e env)]) (h1 : EvTo c pe e v fr) (h2 : EvsTo c pe es vs fr) : EvsTo c pe (e :: es) (v :: vs) fr := by
  have ne : ∀ x p, e ≠ .Starred x p := fun x p q => by
    subst q
    have := congrArg (fun l => l.map (·.1)) (hs default)
    cases this
  have pl : ∀ y ∈ e :: es, ∀ x p, y ≠ .Starred x p := fun y m => (List.mem_cons.mp m).elim (fun q => q ▸ ne) fun m => h2.1.1 y m
  refine ⟨⟨pl, by rw [List.length_cons, List.length_cons, h2.1.2]⟩, fun t pos Q h => ?_⟩
  refine wpAny_items_cons (h1 t _ fun u s1 p1 => ?_) (by rw [star_plain pl, star_plain h2.1.1]; rfl)
  obtain ⟨f, x1, r1, o1, n1⟩ := p1
  refine h2.2 (t.ext x1) pos _ fun us s2 p2 => ?_
  obtain ⟨g, x2, r2, o2, n2⟩ := p2
  refine h _ _ ⟨f ++ g, x1.ext x2, .cons (r1.ext x2) r2, fun a m => (List.mem_append.mp m).elim (o1 a) fun m => (o2 a m).back x1, fun q => ⟨List.nodup_append.mpr ⟨(n1 q).1, (n2 q).1, fun a ha b hb ab => ?_⟩, fun a m => (List.mem_append.mp m).elim ((n1 q).2 a) fun m => back x1 ((n2 q).2 a m)⟩⟩
  subst ab
  obtain ⟨o, ho, _⟩ := r1.dom a ha
  rw [(n2 q).2 a hb] at ho; cases ho
theorem EvkTo.nil : EvkTo c pe [] [] := ⟨fun _ _ => ⟨rfl, rfl⟩, fun t pos Q h => kwAll_nil (h _ _ ⟨[], .refl _ _ _, .nil, by first | exact nn | nofun, fun _ => ⟨.nil, by first | exact nn | nofun⟩⟩)⟩
theorem EvkTo.cons {x : PySem.Str} {p : Pos} {ks : List Keyword} {vs : List (PySem.Str × V)} (h1 : EvTo c pe e v f1) (h2 : EvkTo c pe ks vs) : EvkTo c pe (⟨some x, e, p⟩ :: ks) ((x, v) :: vs) := by
  refine ⟨fun env pos => ?_, fun t pos Q h => ?_⟩
  · have q : backToKw pos (keywordEach (⟨some x, e, p⟩ :: ks) env) = (some x, do let v ← eval e env; standAt pos; pure v) :: backToKw pos (keywordEach ks env) := rfl
    rw [q, List.filterMap_cons, List.all_cons, (h2.1 env pos).1, (h2.1 env pos).2]
    exact ⟨rfl, rfl⟩
  · refine kwAll_cons (h1 t _ fun u s1 p1 => ?_)
    obtain ⟨f, x1, r1, o1, n1⟩ := p1
    refine h2.2 (t.ext x1) pos _ fun us s2 p2 => ?_
    obtain ⟨g, x2, r2, o2, n2⟩ := p2
    exact h _ _ ⟨f ++ g, x1.ext x2, .cons (r1.ext x2) r2, fun a m => (List.mem_append.mp m).elim (o1 a) fun m => (o2 a m).back x1, by first | exact nn | nofun⟩
theorem EvTo.tup {es : List Expr} {vs : List V} {x : Nat} {p : Pos} (h1 : EvsTo c pe es vs fr) (hz : es.length ≤ 1000) : EvTo c pe (.Tuple es x p) (.tup vs) fr := fun t Q h => by
  refine wpAny_Tuple (h1.2 t p _ fun us s1 p1 => ?_)
  obtain ⟨f, x1, r1, o1, n1⟩ := p1
  have e24 := sizeLine_eq
  exact ⟨by rw [r1.length, ← h1.1.2, e24]; omega, h _ _ ⟨f, x1.ext (.push _ _ _), .tup (Heap.get?_push_size _ rfl) (r1.keeps fun _ _ e => Heap.get?_push_of_some _ e), o1, n1⟩⟩
theorem EvTo.list {es : List Expr} {vs : List V} {p : Pos} (h1 : EvsTo c pe es vs fr) (hz : es.length ≤ 1000) : EvTo c pe (.List es p) (.lst vs) fr := fun t Q h => by
  refine wpAny_List (h1.2 t p _ fun us s1 p1 => ?_)
  obtain ⟨f, x1, r1, o1, n1⟩ := p1
  have e24 := sizeLine_eq
  refine ⟨by rw [r1.length, ← h1.1.2, e24]; omega, h _ _ ⟨_, x1.ext (.push _ _ _), .lst (Heap.get?_push_size _ rfl) (r1.keeps fun _ _ e => Heap.get?_push_of_some _ e), fun a m => ?_, fun fr => ⟨List.nodup_cons.mpr ⟨fun m => ?_, (n1 fr).1⟩, fun a m => ?_⟩⟩⟩
  · rcases List.mem_cons.mp m with rfl | m
    · exact .inl (back x1 get_none_of_size)
    · exact o1 a m
  · obtain ⟨o, ho, _⟩ := r1.dom _ m
    rw [get_none_of_size] at ho; cases ho
  · rcases List.mem_cons.mp m with rfl | m
    · exact back x1 get_none_of_size
    · exact (n1 fr).2 a m
end

section
variable {c : Cx} {pe : PE} {e l r o : Expr} {v a b v0 : V} {fr f0 f1 f2 : Bool} {args : List Expr} {kws : List Keyword} {vs : List V} {ks : List (PySem.Str × V)}
theorem noStars {env : Env} {pos : Pos} (h1 : ∀ e ∈ args, ∀ x p, e ≠ .Starred x p) (h2 : (backToKw pos (keywordEach kws env)).all (·.1.isSome) = true) :
    (List.any (backTo pos (starEach args env)) fun x => x.1) = false ∧ (List.any (backToKw pos (keywordEach kws env)) fun x => x.1.isNone) = false := by
  refine ⟨?_, ?_⟩
  · rw [star_plain h1, List.any_eq_false]
    intro x hx
    unfold backTo at hx
    simp only [List.map_map, List.mem_map] at hx
    obtain ⟨y, _, rfl⟩ := hx
    simp
  · rw [List.any_eq_false]
    intro x hx
    have := List.all_eq_true.mp h2 x hx
    cases hh : x.1 with
    | none => rw [hh] at this; cases this
    | some y => simp
theorem call_ok (t : At c pe) {f : PySem.Value} {us₀ : List PySem.Value} (hk : ∀ h, c.K.In h → ∃ k, (k = Keeper.frame ∨ k = Keeper.machine ∨ k = Keeper.boundFrame) ∧ Looks t.M h (keeperOf f) k)
    (h1 : EvsTo c pe args vs f1) (h2 : EvkTo c pe kws ks) (pos : Pos) {Q : PySem.Value → Shared → Prop}
    (h : ∀ us zs s' fp g, Ext t.s s' → VRs s'.heap us vs fp → VRs s'.heap zs (ks.map (·.2)) g → (∀ a ∈ fp ++ g, Src t.s pe.b t.FP a) → (f1 = true → kws.isEmpty = true → (fp ++ g).Nodup ∧ ∀ a ∈ fp ++ g, t.s.heap.get? a = none) → wpAny t.M t.A (call f (us₀ ++ us) ((ks.map (·.1)).zip zs)) Q t.E s') :
    wpAny t.M t.A (callWith pos f us₀ (backTo pos (starEach args t.env)) (backToKw pos (keywordEach kws t.env))) Q t.E t.s := by
  have kl := h2.1 t.env pos
  have ns := noStars (env := t.env) (pos := pos) h1.1.1 kl.2
  refine callWith_of (P := c.K.In) (by rw [ns.1, ns.2]; rfl) hk ?_
  have fin : ∀ (us : List PySem.Value) (s1 : Shared), EvsF f1 pe.b t.FP t.s vs us s1 → wpAny t.M t.A (evalAll ((backToKw pos (keywordEach kws t.env)).map (·.2)))
      (fun ks' s₂ => c.K.In s₂.heap ∧ wpAny t.M t.A (call f (us₀ ++ us) (((backToKw pos (keywordEach kws t.env)).filterMap (·.1)).zip ks')) Q t.E s₂) t.E s1 := by
    intro us s1 p1
    obtain ⟨g, x1, r1, o1, n1⟩ := p1
    refine h2.2 (t.ext x1) pos _ fun zs s2 p2 => ?_
    obtain ⟨g2, x2, r2, o2, n2⟩ := p2
    refine ⟨c.ok.base.kin.keeps (t.X.ext (x1.ext x2)).low, ?_⟩
    rw [kl.1]
    refine h us zs s2 g g2 (x1.ext x2) (r1.ext x2) r2 (fun a m => (List.mem_append.mp m).elim (o1 a) fun m => (o2 a m).back x1) fun q1 q2 => ?_
    have l0 : ks.map (·.2) = [] := by
      cases kws with
      | nil =>
        have := (h2.1 t.env pos).1
        have q : ks.map (·.1) = [] := this.symm
        rw [List.map_eq_nil_iff.mp q]; rfl
      | cons _ _ => cases q2
    rw [l0] at r2
    rw [r2.nilE.2, List.append_nil]
    exact n1 q1
  cases args with
  | nil =>
    refine evalArgs_kw2_nil kl.2 ?_
    have e1' : vs = [] := List.length_eq_zero_iff.mp h1.1.2.symm
    subst e1'
    exact fin [] t.s ⟨[], .refl _ _ _, .nil, by first | exact nn | nofun, fun _ => ⟨.nil, by first | exact nn | nofun⟩⟩
  | cons x args =>
    exact evalArgs_kw2 kl.2 (h1.2 t pos _ fin) (by rw [star_plain h1.1.1, star_plain fun y hy => h1.1.1 y (.tail _ hy)]; rfl)
theorem Low.none {h₀ : Heap} {s : Shared} (l : Low h₀ s) {a : Addr} (e : s.heap.get? a = none) : h₀.get? a = none := by
  cases q : h₀.get? a with
  | none => rfl
  | some o => rw [l a o q] at e; cases e
theorem EvTo.call {x : PySem.Str} {q p : Pos} {f : PySem.Value} (h0 : EvTo c pe (.Name x q) (.val f) f0) (h1 : EvsTo c pe args vs f1) (h2 : EvkTo c pe kws ks) (e : c.Γ.fn f vs ks = some v) (al : c.Γ.al f = false) : EvTo c pe (.Call (.Name x q) args kws p) v fr := fun t Q h => by
  refine wpAny_bind (h0 t _ fun u s1 p1 => ?_)
  obtain ⟨f0, x1, r1, o1, _⟩ := p1
  refine VR.valE r1 fun _ => ?_
  refine call_ok (t.ext x1) (c.ok.keep _ _ _ _ e) h1 h2 p fun us zs s2 fp g x2 ra rk so _ => ?_
  refine c.ok.call _ _ _ _ e t.A t.E s2 us zs fp g Q t.room (t.X.ext (x1.ext x2)).low (fun z => by rw [al] at z; cases z) ra rk fun u q s3 x3 r3 N => ?_
  rw [al, if_neg (by decide)] at x3
  obtain ⟨b1, b2⟩ := N.new al
  exact h u s3 ⟨q, (x1.ext x2).ext x3, r3, fun a m => .inl (back (x1.ext x2) (b2 a m)), fun _ => ⟨b1, fun a m => back (x1.ext x2) (b2 a m)⟩⟩
theorem EvTo.callA {x : PySem.Str} {q p : Pos} {f : PySem.Value} (h0 : EvTo c pe (.Name x q) (.val f) f0) (h1 : EvsTo c pe args vs true) (e : c.Γ.fn f vs [] = some v) : EvTo c pe (.Call (.Name x q) args [] p) v fr := fun t Q h => by
  refine wpAny_bind (h0 t _ fun u s1 p1 => ?_)
  obtain ⟨f0, x1, r1, o1, _⟩ := p1
  refine VR.valE r1 fun _ => ?_
  refine call_ok (t.ext x1) (c.ok.keep _ _ _ _ e) h1 .nil p fun us zs s2 fp g x2 ra rk so nw => ?_
  obtain ⟨nd, nw⟩ := nw rfl rfl
  have nw0 : ∀ a ∈ fp ++ g, t.s.heap.get? a = none := fun a m => back x1 (nw a m)
  refine c.ok.call _ _ _ _ e t.A t.E s2 us zs fp g Q t.room (t.X.ext (x1.ext x2)).low (fun _ a m => t.X.lowS.none (nw0 a m)) ra rk fun u q s3 x3 r3 N => ?_
  refine h u s3 ⟨q, (x1.ext x2).then x3 (fun a m => ?_), r3, fun a m => .inl ((N.src a m).elim (back (x1.ext x2)) (nw0 a)), fun _ => ⟨N.nodup nd, fun a m => (N.src a m).elim (back (x1.ext x2)) (nw0 a)⟩⟩
  split at m
  · exact nw0 a m
  · cases m
theorem EvTo.meth {name : PySem.Str} {apos cpos : Pos} {f : PySem.Value} (hb : ∀ env, attributeBase o name env (eval o env) = eval o env) (hn : decide (args.length + kws.length < 20) = true) (hp : (apos.endLine == cpos.line) = true) (h0 : EvTo c pe o v0 f0) (em : c.Γ.meth v0 name = some f) (h1 : EvsTo c pe args vs f1) (h2 : EvkTo c pe kws ks) (e : c.Γ.fn f (v0 :: vs) ks = some v) : EvTo c pe (.Call (.Attribute o name apos) args kws cpos) v fr := fun t Q h => by
  rw [arm_eval_Call, hb]
  refine wpAny_bind (h0 t _ fun u s1 p1 => wpAny_bind (wpAny_standAt ?_))
  obtain ⟨f0, x1, r1, o1, _⟩ := p1
  have hform : methodCallForm (args.length + kws.length) (backTo cpos (starEach args t.env)) (backToKw cpos (keywordEach kws t.env)) = true := by
    have kl := (h2.1 t.env cpos).2
    have hn := of_decide_eq_true hn
    unfold methodCallForm
    rw [kl, star_plain h1.1.1]
    simp only [Bool.and_true, Bool.and_eq_true, decide_eq_true_eq]
    refine ⟨?_, by split <;> omega⟩
    rw [List.all_eq_true]
    intro x hx
    unfold backTo at hx
    simp only [List.map_map, List.mem_map] at hx
    obtain ⟨y, _, rfl⟩ := hx
    simp
  have hpos : methodCallPos true o t.env apos cpos = pure cpos := by unfold methodCallPos; rw [hp]; rfl
  unfold methodCall
  rw [hform]
  have M := c.ok.meth _ _ _ em
  refine wpAny_bind (wpAny_holding (M.2 t.A t.E s1 u f0 _ _ t.room (t.X.ext x1).low r1 fun s2 x2 => ?_))
  refine wpAny_bind (wpAny_of_eq hpos ?_)
  have x12 := x1.ext x2
  refine call_ok (t.ext x12) (c.ok.keep _ _ _ _ e) h1 h2 cpos fun us zs s3 fp g x3 ra rk so _ => ?_
  refine c.ok.call _ _ _ _ e t.A t.E s3 (u :: us) zs (f0 ++ fp) g Q t.room (t.X.ext (x12.ext x3)).low (fun z => by rw [M.1] at z; cases z) (.cons (r1.ext (x2.ext x3)) ra) rk fun u q s4 x4 r4 N => ?_
  rw [M.1, if_neg (by decide)] at x4
  obtain ⟨b1, b2⟩ := N.new M.1
  exact h u s4 ⟨q, (x12.ext x3).ext x4, r4, fun a m => .inl (back (x12.ext x3) (b2 a m)), fun _ => ⟨b1, fun a m => back (x12.ext x3) (b2 a m)⟩⟩
theorem VR.handed {h : Heap} {u : PySem.Value} {v : V} {fp : List Addr} (r : VR h u v fp) (n : (notVal v).isSome = true) : handedIn u = true := by
  cases r <;> first | rfl | cases n
theorem EvTo.fld {name : PySem.Str} {p : Pos} {C : Addr} {fs : List (PySem.Str × V)} (hb : ∀ env, attributeBase o name env (eval o env) = eval o env) (h0 : EvTo c pe o (.inst C fs) f0) (hf : c.Γ.fld C name = true) (e : fs.lookup name = some v) (nv : (notVal v).isSome = true) : EvTo c pe (.Attribute o name p) v false := fun t Q h => by
  rw [arm_eval_Attribute, hb]
  refine wpAny_bind (h0 t _ fun u s1 p1 => wpAny_bind (wpAny_standAt ?_))
  obtain ⟨f, x1, r1, o1, _⟩ := p1
  refine wpAny_bind (wpAny_holding ?_)
  obtain ⟨k1, k2, attr, k3, k4⟩ := c.ok.fld _ _ hf
  revert o1
  refine VR.instE r1 fun a dx es n' fp q1 q2 r1 o1 => ?_
  obtain ⟨z, g', a1, a2, a3⟩ := getL_of r1 e
  exact get_value (c.ok.base.kin.keeps (t.X.ext x1).low) (⟨q1, rfl, rfl, q2⟩ : W.InstAt _ _ _ _ (some _)) (plainGet_of k1).1 (findObj_own k2 k3 k4 a1) (a2.handed nv) (wpAny_bind (wpAny_letTemporaryGo (wpAny_pure (h z _ ⟨_, x1.ext (.toks _ _), a2, fun b hb => o1 b (.tail _ (.tail _ (a3 b hb))), by first | exact nn | nofun⟩))))
theorem EvTo.catt {name : PySem.Str} {p : Pos} {z : PySem.Value} (hb : ∀ env, attributeBase o name env (eval o env) = eval o env) (h0 : EvTo c pe o (.val z) f0) (e : c.Γ.catt z name = some v) : EvTo c pe (.Attribute o name p) v fr := fun t Q h => by
  rw [arm_eval_Attribute, hb]
  refine wpAny_bind (h0 t _ fun u s1 p1 => wpAny_bind (wpAny_standAt ?_))
  obtain ⟨f, x1, r1, o1, _⟩ := p1
  refine wpAny_bind (wpAny_holding ?_)
  exact VR.valE r1 fun _ => c.ok.catt _ _ _ e t.A t.E s1 _ t.room (t.X.ext x1).low fun z s2 x2 r2 => wpAny_bind (wpAny_letTemporaryGo (wpAny_pure (h z _ (.flat (x1.ext x2) r2))))
end

theorem lookup_setL : ∀ (b : Loc) (x : PySem.Str) (v : V) (t : Sta) (y : PySem.Str), (setL b x v t).lookup y = if y = x then some (v, t) else b.lookup y
  | [], x, v, t, y => by
    show List.lookup y [(x, v, t)] = _
    by_cases h : y = x
    · subst h; simp
    · have : (y == x) = false := by simpa using h
      simp [List.lookup_cons, this, h]
  | p :: r, x, v, t, y => by
    rw [setL_c]
    split
    · rename_i q
      have q := beq_iff_eq.mp q
      by_cases h : y = x
      · subst h; simp
      · rw [if_neg h]
        have : (y == x) = false := by simpa using h
        obtain ⟨p1, p2⟩ := p
        dsimp only at q
        subst q
        simp [List.lookup_cons, this]
    · rename_i q
      obtain ⟨p1, p2⟩ := p
      rw [List.lookup_cons, List.lookup_cons, lookup_setL r x v t y]
      cases e : y == p1 with
      | true =>
        have e := beq_iff_eq.mp e
        subst e
        have : y ≠ x := by simpa using q
        show some p2 = if y = x then some (v, t) else some p2
        rw [if_neg this]
      | false => rfl
structure OwnOk (h₀ : Heap) (b : Loc) (FP : PySem.Str → List Addr) (x : PySem.Str) (fp : List Addr) : Prop where
  nodup : fp.Nodup
  low : ∀ a ∈ fp, h₀.get? a = none
  apart : ∀ y z, y ≠ x → b.lookup y = some z → z.2 ≠ .view → ∀ a ∈ fp, a ∉ FP y
theorem OwnOk.nil {h₀ : Heap} {b : Loc} {FP : PySem.Str → List Addr} {x : PySem.Str} : OwnOk h₀ b FP x [] := ⟨.nil, by first | exact nn | nofun, by first | exact nn | nofun⟩
noncomputable def StaOk (h₀ : Heap) (b : Loc) (FP : PySem.Str → List Addr) (O : List Addr) (x : PySem.Str) (fp : List Addr) : Sta → Prop
  | .own => OwnOk h₀ b FP x fp
  | .frz => ∀ a ∈ fp, a ∉ O
  | .view => True
noncomputable def grow (O fp : List Addr) : Sta → List Addr
  | .own => O ++ fp
  | _ => O
noncomputable def setFP (FP : PySem.Str → List Addr) (x : PySem.Str) (fp : List Addr) : PySem.Str → List Addr := fun y => if y = x then fp else FP y
theorem ns_eq {h : Heap} {L : Addr} {m m' : PySem.Str → Option PySem.Value} (a : h.Ns L m) (b : h.Ns L m') : m = m' := by
  obtain ⟨o, es, ep, e1, e2, _, e3⟩ := a
  obtain ⟨o', es', ep', e1', e2', _, e3'⟩ := b
  rw [e1] at e1'; cases e1'
  rw [e2] at e2'; cases e2'
  funext x
  rw [← e3, e3']
theorem fixed_dict {o : Obj} {es : Array DictEntry} {n : Nat} (h : o.data = .dict es n) : fixedObj o = false := by unfold fixedObj; rw [h]
theorem fixed_cell {o : Obj} {v : Option PySem.Value} (h : o.data = .cell v) : fixedObj o = false := by unfold fixedObj; rw [h]
section
variable {Pin : List Addr} {prog : Program} {w : World} {K : Frag} {Γ : Glo} {h₀ : Heap} {R n : Nat} {A : Around} {E : PySem.Value → Shared → Prop} {s : Shared} {env : Env} {sc : Scope} {b : Loc} {FP : PySem.Str → List Addr} {O WL : List Addr}
theorem EnvR.set {h h' : Heap} {x : PySem.Str} {u : PySem.Value} {v : V} {st : Sta} {fp : List Addr} (X : EnvR Pin h₀ env ⟨sc, b⟩ FP O h) (r : VR h' u v fp) (off : ∀ a ∈ fp, a ≠ env.locals) (ok : StaOk h₀ b FP O x fp st) (hx : env.kindOf x = some .local ∨ ((env.kindOf x = some .cell ∨ (env.kindOf x = some .free ∧ (x == ("__classdict__" : PySem.Str)) = false)) ∧ (env.cells.lookup x).isSome = true))
    (low : ∀ a o, h₀.get? a = some o → h'.get? a = some o) (hp : env.kindOf ("self" : PySem.Str) = some .local → ∀ a ∈ Pin, ∃ m, h'.Ns env.locals m ∧ m ("self" : PySem.Str) = some (.ref a))
    (old : ∀ y z, y ≠ x → b.lookup y = some z → ∀ u', VR h u' z.1 (FP y) → VR h' u' z.1 (FP y))
    (hl : ∃ m, h.Ns env.locals m ∧ (∀ y z, b.lookup y = some z → env.kindOf y = some .local → ∃ v, m y = some v ∧ VR h v z.1 (FP y)) ∧ h'.Ns env.locals (if env.kindOf x = some .local then fun y => if y = x then some u else m y else m))
    (hc : ∀ y c wv, env.cells.lookup y = some c → h.IsCell c wv → h'.IsCell c (if env.kindOf x ≠ some .local ∧ y = x then some u else wv)) :
    EnvR Pin h₀ env ⟨sc, setL b x v st⟩ (setFP FP x fp) (grow O fp st) h' where
  sc := X.sc
  kind := X.kind
  glo := X.glo
  blt := X.blt
  low := low
  above := X.above
  ns := by
    obtain ⟨m, hm, hv, hm'⟩ := hl
    refine ⟨_, hm', fun y z e k => ?_⟩
    rw [lookup_setL] at e
    by_cases q : y = x
    · subst q
      rw [if_pos rfl] at e; cases e
      rw [if_pos k]
      exact ⟨u, by simp, by unfold setFP; rw [if_pos rfl]; exact r⟩
    · rw [if_neg q] at e
      obtain ⟨v', e1, e2⟩ := hv y z e k
      refine ⟨v', ?_, by unfold setFP; rw [if_neg q]; exact old y z q e v' e2⟩
      split
      · simp only [if_neg q]; exact e1
      · exact e1
  cells := fun y c e => by
    obtain ⟨e1, wv, e2, e3⟩ := X.cells y c e
    refine ⟨e1, _, hc y c wv e e2, fun z ez k => ?_⟩
    rw [lookup_setL] at ez
    by_cases q : y = x
    · subst q
      rw [if_pos rfl] at ez; cases ez
      exact ⟨u, by simp [k], by unfold setFP; rw [if_pos rfl]; exact r⟩
    · rw [if_neg q] at ez
      obtain ⟨v', e4, e5⟩ := e3 z ez k
      exact ⟨v', by simp [q, e4], by unfold setFP; rw [if_neg q]; exact old y z q ez v' e5⟩
  kinds := fun y z e => by
    rw [lookup_setL] at e
    by_cases q : y = x
    · subst q; exact hx
    · rw [if_neg q] at e; exact X.kinds y z e
  apartC := X.apartC
  off := fun y z e a m => by
    rw [lookup_setL] at e
    unfold setFP at m
    by_cases q : y = x
    · rw [if_pos q] at m; exact off a m
    · rw [if_neg q] at m e; exact X.off y z e a m
  own := fun y v' e => by
    rw [lookup_setL] at e
    unfold setFP
    by_cases q : y = x
    · rw [if_pos q] at e ⊢
      simp only [Option.some.injEq, Prod.mk.injEq] at e
      obtain ⟨e1, e2⟩ := e
      subst e2
      exact ⟨ok.nodup, fun a m => List.mem_append_right _ m⟩
    · rw [if_neg q] at e ⊢
      obtain ⟨e1, e2⟩ := X.own y v' e
      refine ⟨e1, fun a m => ?_⟩
      cases st with
      | own => exact List.mem_append_left _ (e2 a m)
      | frz => exact e2 a m
      | view => exact e2 a m
  frz := fun y v' e a m => by
    rw [lookup_setL] at e
    unfold setFP at m
    by_cases q : y = x
    · rw [if_pos q] at e m
      simp only [Option.some.injEq, Prod.mk.injEq] at e
      obtain ⟨e1, e2⟩ := e
      subst e2
      exact ok a m
    · rw [if_neg q] at e m
      have z := X.frz y v' e a m
      cases st with
      | own =>
        intro k
        rcases List.mem_append.mp k with k | k
        · exact z k
        · exact ok.apart y _ q e (by simp) a k m
      | frz => exact z
      | view => exact z
  apart := fun y v1 y' v2 ne e e' a m => by
    rw [lookup_setL] at e e'
    unfold setFP at m ⊢
    by_cases q : y = x
    · rw [if_pos q] at e m
      have q' : y' ≠ x := fun z => ne (q.trans z.symm)
      rw [if_neg q'] at e' ⊢
      simp only [Option.some.injEq, Prod.mk.injEq] at e
      obtain ⟨e1, e2⟩ := e
      subst e2
      exact ok.apart y' _ q' e' (by simp) a m
    · rw [if_neg q] at e m
      by_cases q' : y' = x
      · rw [if_pos q'] at e' ⊢
        simp only [Option.some.injEq, Prod.mk.injEq] at e'
        obtain ⟨e1, e2⟩ := e'
        subst e2
        exact fun k => ok.apart y _ q e (by simp) a k m
      · rw [if_neg q'] at e' ⊢
        exact X.apart y v1 y' v2 ne e e' a m
  pin := hp
  newO := fun a m => by
    cases st with
    | own =>
      rcases List.mem_append.mp m with m | m
      · exact X.newO a m
      · exact ⟨ok.low a m, off a m⟩
    | frz => exact X.newO a m
    | view => exact X.newO a m
theorem EnvR.kindF (X : EnvR Pin h₀ env ⟨sc, b⟩ FP O s.heap) : env.scope.kind = .function := by rw [X.sc]; exact X.kind
theorem Bnd.kinds {x : PySem.Str} (hx : Bnd env WL x) : env.kindOf x = some .local ∨ ((env.kindOf x = some .cell ∨ (env.kindOf x = some .free ∧ (x == ("__classdict__" : PySem.Str)) = false)) ∧ (env.cells.lookup x).isSome = true) := by
  rcases hx.2 with ⟨q, _⟩ | ⟨q, c, q', _⟩
  · exact .inl q
  · exact .inr ⟨.inl q, by rw [q']; rfl⟩
theorem store_ok {x : PySem.Str} {u : PySem.Value} {v : V} {st : Sta} {fp : List Addr} (X : EnvR Pin h₀ env ⟨sc, b⟩ FP O s.heap) (r : VR s.heap u v fp) (off : ∀ a ∈ fp, a ≠ env.locals) (ok : StaOk h₀ b FP O x fp st) (hx : Bnd env WL x)
    {Q : Unit → Shared → Prop} (h : ∀ s', EnvR Pin h₀ env ⟨sc, setL b x v st⟩ (setFP FP x fp) (grow O fp st) s'.heap → Stp WL [] s s' → (∃ h' tk, s' = { s with heap := h', toks := tk } ∧ h'.objs.size = s.heap.objs.size) → Q () s') : wpAny (model prog w) A (storeName env x u) Q E s := by
  have hk := X.kindF
  obtain ⟨m, hm, hv⟩ := X.ns
  rcases id hx.2 with ⟨hl, hw⟩ | ⟨hl, c, hc, hw⟩
  · refine wpAny_storeName_local hl hm (fun h' hn hs => ?_) (by rw [hk]; rfl)
    have fd : ∀ o, s.heap.get? env.locals = some o → fixedObj o = false := by
      obtain ⟨o, es, ep, e1, e2, _⟩ := hm
      intro o' e'
      rw [e1] at e'; cases e'
      exact fixed_dict e2
    have st1 : Stp [env.locals] [] s { s with heap := h', toks := s.toks + 1 } := .of_same hs fd
    have ne : ∀ y c, env.cells.lookup y = some c → c ≠ env.locals := by
      rintro y c e rfl
      obtain ⟨_, wv, ⟨o, e1, e2⟩, _⟩ := X.cells y _ e
      obtain ⟨o', es, ep, e3, e4, _⟩ := hm
      rw [e1] at e3; cases e3
      rw [e2] at e4; cases e4
    refine h _ (X.set (r.stp st1 fun a m' k => off a m' (List.mem_singleton.mp k)) off ok hx.kinds (fun a o e => ?_) (fun k a ha => ?_) (fun y z q e u' r' => r'.stp st1 fun a m' k => X.off y z e a m' (List.mem_singleton.mp k)) ⟨m, hm, hv, ?_⟩ fun y c wv e q => ?_) (st1.mono (fun a m' => by rw [List.mem_singleton.mp m']; exact hw) (by first | exact nn | nofun)) ⟨_, _, rfl, hs.1⟩
    · exact (hs.2 a (by rintro rfl; rw [X.newLoc] at e; cases e)).trans (X.low a o e)
    · obtain ⟨m1, hm1, q1⟩ := X.pin k a ha
      refine ⟨_, hn, ?_⟩
      rw [if_neg (Ne.symm hx.1)]
      have := ns_eq hm hm1
      rw [this]; exact q1
    · rw [if_pos hl]; exact hn
    · rw [if_neg (by simp [hl])]
      exact q.sameBut hs (ne y c e)
  · obtain ⟨hz, wv, hw1, _⟩ := X.cells x c hc
    refine wpAny_storeName_cell hk hl hc hw1 fun h' hn hs => ?_
    have fd : ∀ o, s.heap.get? c = some o → fixedObj o = false := by
      obtain ⟨o, e1, e2⟩ := hw1
      intro o' e'
      rw [e1] at e'; cases e'
      exact fixed_cell e2
    have st1 : Stp [c] [] s { s with heap := h', toks := s.toks } := .of_same hs fd
    have notc : ∀ {u' : PySem.Value} {v' : V} {g : List Addr}, VR s.heap u' v' g → ∀ a ∈ g, a ≠ c := by
      rintro u' v' g r' a m' rfl
      obtain ⟨o, e1, _, e2⟩ := r'.dom a m'
      obtain ⟨o', e3, e4⟩ := hw1
      rw [e1] at e3; cases e3
      exact e2 _ e4
    have nl : env.locals ≠ c := by
      rintro rfl
      obtain ⟨o', e3, e4⟩ := hw1
      obtain ⟨o, es, ep, e1, e2, _⟩ := hm
      rw [e1] at e3; cases e3
      rw [e2] at e4; cases e4
    have hnl : ¬ env.kindOf x = some .local := by rw [hl]; decide
    refine h _ (X.set (r.stp st1 fun a m' k => notc r a m' (List.mem_singleton.mp k)) off ok hx.kinds (fun a o e => ?_) (fun k a ha => ?_) (fun y z q e u' r' => r'.stp st1 fun a m' k => notc r' a m' (List.mem_singleton.mp k)) ⟨m, hm, hv, ?_⟩ fun y c' wv' e q => ?_) (st1.mono (fun a m' => by rw [List.mem_singleton.mp m']; exact hw) (by first | exact nn | nofun)) ⟨_, _, rfl, hs.1⟩
    · exact (hs.2 a (by rintro rfl; rw [hz] at e; cases e)).trans (X.low a o e)
    · obtain ⟨m1, hm1, q1⟩ := X.pin k a ha
      exact ⟨m1, hm1.sameBut hs nl, q1⟩
    · rw [if_neg hnl]; exact hm.sameBut hs nl
    · by_cases q' : y = x
      · subst q'
        rw [hc] at e; cases e
        rw [if_pos ⟨hnl, rfl⟩]; exact hn
      · rw [if_neg (by simp [q'])]
        exact q.sameBut hs fun z => q' (X.apartC y x c (z ▸ e) hc)
theorem VR.offPls {h : Heap} {pe : PE} {u : PySem.Value} {v : V} {fp : List Addr} (X : EnvR Pin h₀ env pe FP O h) (P : Pls env WL) (r : VR h u v fp) (off : ∀ a ∈ fp, a ≠ env.locals) : ∀ a ∈ fp, a ∉ WL := by
  intro a m k
  rcases P a k with rfl | ⟨x, c, e, rfl⟩
  · exact off _ m rfl
  · obtain ⟨o, e1, _, e2⟩ := r.dom _ m
    obtain ⟨_, wv, ⟨o', e3, e4⟩, _⟩ := X.cells x _ e
    rw [e1] at e3; cases e3
    exact e2 _ e4
theorem VRs.offPls {h : Heap} {pe : PE} {u : List PySem.Value} {v : List V} {fp : List Addr} (X : EnvR Pin h₀ env pe FP O h) (P : Pls env WL) (r : VRs h u v fp) (off : ∀ a ∈ fp, a ≠ env.locals) : ∀ a ∈ fp, a ∉ WL := by
  intro a m k
  rcases P a k with rfl | ⟨x, c, e, rfl⟩
  · exact off _ m rfl
  · obtain ⟨o, e1, _, e2⟩ := r.dom _ m
    obtain ⟨_, wv, ⟨o', e3, e4⟩, _⟩ := X.cells x _ e
    rw [e1] at e3; cases e3
    exact e2 _ e4
theorem EnvR.weaken {h : Heap} {b' : Loc} {FP' : PySem.Str → List Addr} (X : EnvR Pin h₀ env ⟨sc, b'⟩ FP' O h) (q : ∀ x y, b.lookup x = some y → b'.lookup x = some y ∧ FP' x = FP x) : EnvR Pin h₀ env ⟨sc, b⟩ FP O h where
  sc := X.sc
  kind := X.kind
  glo := X.glo
  blt := X.blt
  low := X.low
  above := X.above
  ns := by
    obtain ⟨m, hm, hv⟩ := X.ns
    refine ⟨m, hm, fun x y e k => ?_⟩
    obtain ⟨q1, q2⟩ := q x y e
    rw [← q2]; exact hv x y q1 k
  cells := fun x c e => by
    obtain ⟨a, wv, b', d⟩ := X.cells x c e
    refine ⟨a, wv, b', fun y e k => ?_⟩
    obtain ⟨q1, q2⟩ := q x y e
    rw [← q2]; exact d y q1 k
  kinds := fun x y e => X.kinds x y (q x y e).1
  apartC := X.apartC
  off := fun x y e => by obtain ⟨q1, q2⟩ := q x y e; rw [← q2]; exact X.off x y q1
  own := fun x v e => by obtain ⟨q1, q2⟩ := q x _ e; rw [← q2]; exact X.own x v q1
  frz := fun x v e => by obtain ⟨q1, q2⟩ := q x _ e; rw [← q2]; exact X.frz x v q1
  apart := fun x v x' v' ne e e' => by
    obtain ⟨q1, q2⟩ := q x _ e
    obtain ⟨q3, q4⟩ := q x' _ e'
    rw [← q2, ← q4]; exact X.apart x v x' v' ne q1 q3
  newO := X.newO
  pin := X.pin
theorem EnvR.stp {s s' : Shared} {pe : PE} {W : List Addr} {G : List Nat} (X : EnvR Pin h₀ env pe FP O s.heap) (t : Stp W G s s') (h1 : env.locals ∉ W) (h2 : ∀ x c, env.cells.lookup x = some c → c ∉ W) (h3 : ∀ x z, pe.b.lookup x = some z → ∀ a ∈ FP x, a ∉ W) (h4 : ∀ a ∈ W, h₀.get? a = none) : EnvR Pin h₀ env pe FP O s'.heap where
  sc := X.sc
  kind := X.kind
  glo := X.glo
  blt := X.blt
  low := fun a o e => t.heap a o (X.low a o e) (.inr fun m => by rw [h4 a m] at e; cases e)
  above := X.above
  ns := by
    obtain ⟨m, hm, hv⟩ := X.ns
    obtain ⟨o, es, ep, e1, e2⟩ := hm
    exact ⟨m, ⟨o, es, ep, t.heap _ _ e1 (.inr h1), e2⟩, fun x y e k => by obtain ⟨v, q1, q2⟩ := hv x y e k; exact ⟨v, q1, q2.stp t (h3 x y e)⟩⟩
  cells := fun x c e => by
    obtain ⟨a, wv, ⟨o, e1, e2⟩, d⟩ := X.cells x c e
    exact ⟨a, wv, ⟨o, t.heap _ _ e1 (.inr (h2 x c e)), e2⟩, fun y e k => by obtain ⟨v, q1, q2⟩ := d y e k; exact ⟨v, q1, q2.stp t (h3 x y e)⟩⟩
  kinds := X.kinds
  apartC := X.apartC
  off := X.off
  own := X.own
  frz := X.frz
  apart := X.apart
  newO := X.newO
  pin := fun k a ha => by
    obtain ⟨m, ⟨o, es, ep, e1, e2⟩, q⟩ := X.pin k a ha
    exact ⟨m, ⟨o, es, ep, t.heap _ _ e1 (.inr h1), e2⟩, q⟩
end
structure BdTo (q : Bool) (tg : Expr) (v : V) (b b' : Loc) : Prop where
  go : ∀ {prog : Program} {w : World} {A : Around} {E : PySem.Value → Shared → Prop} {s : Shared} {u : PySem.Value} {fp : List Addr} {I : Addr} {Q : Unit → Shared → Prop}, VR s.heap u v fp → (isTup v = true → GoOk s.heap I) → Q () s → wpAny (model prog w) A (letOwnedTupleGo tg (.ref I) u) Q E s
  asg : ∀ {Pin : List Addr} {prog : Program} {w : World} {h₀ : Heap} {A : Around} {E : PySem.Value → Shared → Prop} {s : Shared} {env : Env} {sc : Scope} {FP : PySem.Str → List Addr} {O WL : List Addr} {u : PySem.Value} {fp : List Addr} {Q : Unit → Shared → Prop}, EnvR Pin h₀ env ⟨sc, b⟩ FP O s.heap → Pls env WL → (∀ x ∈ tNames tg, Bnd env WL x) → (q = true → A.handled = none) → VR s.heap u v fp → (∀ a ∈ fp, a ≠ env.locals) →
    (∀ s' FP', EnvR Pin h₀ env ⟨sc, b'⟩ FP' O s'.heap → Stp WL [] s s' → (∀ x, x ∉ tNames tg → b'.lookup x = b.lookup x ∧ FP' x = FP x) → (∀ x ∈ tNames tg, ∀ z, b'.lookup x = some z → ∀ a ∈ FP' x, a ∈ fp) → Q () s') → wpAny (model prog w) A (assign tg env u) Q E s
section
variable {Pin : List Addr} {prog : Program} {w : World} {h₀ : Heap} {A : Around} {E : PySem.Value → Shared → Prop} {s : Shared} {env : Env} {sc : Scope} {b b1 b' : Loc} {FP : PySem.Str → List Addr} {O WL : List Addr} {v v1 v2 : V} {st : Sta}
noncomputable def stv (v : V) (st : Sta) : Bool := match st with
  | .own => flatV v
  | .view => true
  | .frz => false
theorem bind1 {x : PySem.Str} {u : PySem.Value} {fp : List Addr} (hst : stv v st = true) (X : EnvR Pin h₀ env ⟨sc, b⟩ FP O s.heap) (hx : Bnd env WL x) (r : VR s.heap u v fp) (off : ∀ a ∈ fp, a ≠ env.locals) {Q : Unit → Shared → Prop}
    (h : ∀ s', EnvR Pin h₀ env ⟨sc, setL b x v st⟩ (setFP FP x fp) O s'.heap → Stp WL [] s s' → Q () s') : wpAny (model prog w) A (storeName env x u) Q E s := by
  cases st with
  | frz => cases hst
  | view => exact store_ok (st := .view) X r off trivial hx fun s' X' t _ => h s' X' t
  | own =>
    have := flat_nil r hst
    subst this
    refine store_ok (st := .own) X r off OwnOk.nil hx fun s' X' t _ => h s' ?_ t
    have : grow O [] .own = O := List.append_nil O
    rw [this] at X'
    exact X'
theorem setFP_ne {x y : PySem.Str} {fp : List Addr} (h : y ≠ x) : setFP FP x fp y = FP y := if_neg h
theorem BdTo.name {k : Bool} {x : PySem.Str} {p : Pos} (hst : stv v st = true) (e : setL b x v st = b') : BdTo k (.Name x p) v b b' := by
  subst e
  refine ⟨fun r g h => wpAny_pure h, fun {_ _ _ _ _ _ s _ _ FP _ _ _ fp _} X P hn hh r off h => assign_Name (bind1 hst X (hn x (.head _)) r off fun s1 X1 t1 => h s1 _ X1 t1 (fun y hy => ?_) fun y hy z ez a m => ?_)⟩
  · have : y ≠ x := fun q => hy (q ▸ .head _)
    rw [lookup_setL, if_neg this]
    exact ⟨rfl, if_neg this⟩
  · have : y = x := List.mem_singleton.mp hy
    unfold setFP at m
    rw [if_pos this] at m; exact m
theorem letGo_tup {es : List Expr} {n : Nat} {p : Pos} {s : Shared} {I a : Addr} (g : GoOk s.heap I) {Q : Unit → Shared → Prop} (h : Q () s) : wpAny (model prog w) A (letOwnedTupleGo (.Tuple es n p) (.ref I) (.ref a)) Q E s := by
  obtain ⟨o, ho, hp⟩ := g
  unfold letOwnedTupleGo
  refine wpAny_bind (wpAny_load ho ?_)
  unfold plainIt at hp
  split
  · rename_i q1 q2
    rw [q1, q2] at hp
    dsimp only at hp
    rw [Bool.not_eq_true'] at hp
    rw [if_neg (by rw [hp, Bool.false_and]; decide)]
    exact wpAny_pure h
  · exact wpAny_pure h
theorem BdTo.pair {k : Bool} (hq : k = true) {x y : PySem.Str} {p q p' : Pos} {n : Nat} {st1 st2 : Sta} (h1 : stv v1 st1 = true) (h2 : stv v2 st2 = true) (e1 : setL b x v1 st1 = b1) (e2 : setL b1 y v2 st2 = b') : BdTo k (.Tuple [.Name x p, .Name y q] n p') (.tup [v1, v2]) b b' := by
  subst e1
  subst e2
  refine ⟨fun r g h => VR.tupE r fun a us n q r => letGo_tup (g rfl) h, fun {_ _ _ _ A E s env _ FP _ WL u fp Q} X P hn hh r off h => ?_⟩
  refine VR.tupE r fun a us n q r => ?_
  have hx : Bnd env WL x := hn x (.head _)
  have hy : Bnd env WL y := hn y (.tail _ (.head _))
  revert h off q
  refine VRs.consE r fun u1 us f g r1 r2 => VRs.consE r2 fun u2 us f2 g2 r2 r3 off h q => ?_
  obtain ⟨rfl, rfl⟩ := r3.nilE
  rw [List.append_nil] at off h
  have ht : s.heap.IsTuple a #[u1, u2] := ⟨_, q, rfl, _, rfl⟩
  refine wpAny_assign_Tuple (hh hq) ht rfl rfl fun h' hs => ?_
  have x1 : Ext s { s with heap := h' } := .of_heap (tk := s.toks) fun a o e => hs a o (Nat.ne_of_lt (Heap.lt_size e)) e
  have off1 : ∀ a ∈ f, a ≠ env.locals := fun a m => off a (List.mem_append_left _ m)
  have off2 : ∀ a ∈ f2, a ≠ env.locals := fun a m => off a (List.mem_append_right _ m)
  have X1 := X.ext x1
  refine assignInOrder_cons (assign_Name (bind1 h1 X1 hx (r1.ext x1) off1 fun s1 X2 t1 => assignInOrder_cons (assign_Name (bind1 h2 X2 hy ((r2.ext x1).stp t1 ((r2.ext x1).offPls X1 P off2)) off2 fun s2 X3 t2 => wpAny_pure ?_))))
  refine h s2 _ X3 ((x1.mono (W' := WL) (G' := []) (by first | exact nn | nofun) (by first | exact nn | nofun)).trans (t1.trans t2 (fun a m => .inl m) (by first | exact nn | nofun)) (fun a m => .inl m) (by first | exact nn | nofun)) (fun z hz => ?_) fun z hz w ez a m => ?_
  · have n1 : z ≠ x := fun q => hz (q ▸ .head _)
    have n2 : z ≠ y := fun q => hz (q ▸ .tail _ (.head _))
    rw [lookup_setL, if_neg n2, lookup_setL, if_neg n1]
    exact ⟨rfl, (setFP_ne n2).trans (setFP_ne n1)⟩
  · unfold setFP at m
    by_cases q : z = y
    · rw [if_pos q] at m; exact List.mem_append_right _ m
    · rw [if_neg q] at m
      have : z = x := by
        rcases List.mem_cons.mp hz with q' | q'
        · exact q'
        · exact absurd (List.mem_singleton.mp q') q
      rw [if_pos this] at m; exact List.mem_append_left _ m
end
structure ItTo (q : Bool) (v : V) (xs : List V) : Prop where
  go : ∀ {h₀ : Heap} {prog : Program} {w : World} {R : Nat} {s : Shared} {u : PySem.Value} {fp : List Addr}, Low h₀ s → VR s.heap u v fp → IterTo q h₀ prog w R s fp xs u s
section
variable {prog : Program} {w : World} {h₀ : Heap} {q : Bool} {R n : Nat} {s : Shared}
theorem IterTo.back {s s₁ s₂ : Shared} {fp : List Addr} {xs : List V} {u : PySem.Value} (x : Ext s s₁) (h : IterTo q h₀ prog w R s₁ fp xs u s₂) : IterTo q h₀ prog w R s fp xs u s₂ := by
  intro A E Q hr hQ
  refine h A E Q hr fun I rd wr gs s' e1 e2 e3 e4 e5 e6 => hQ I rd wr gs s' e1 (fun a m => ⟨(e2 a m).1.imp id (Mini.back x), (e2 a m).2⟩) (fun a m => ⟨Mini.back x (e3 a m).1, (e3 a m).2⟩) (fun i m => ⟨?_, (e4 i m).2⟩) e5 e6
  cases q : s.gens[i]? with
  | none => rfl
  | some g => have := x.gens i g q (by simp); rw [(e4 i m).1] at this; cases this
theorem iter_of_walks {u : PySem.Value} {fp : List Addr} {xs : List V} {o : Obj} {P : Nat → PySem.Value → Prop} (iter : ∀ (A : Around) (E : PySem.Value → Shared → Prop) (Q : PySem.Value → Shared → Prop), Q (.ref s.heap.objs.size) { s with heap := s.heap.push o } → wpAny (model prog w) A (pyIter u) Q E s)
    (W : ∀ A' : Around, Hd q h₀ A' → ∃ fpw St, Walks prog w A' s.heap.objs.size fpw [s.heap.objs.size] xs.length P St ∧ St 0 (s.heap.push o) ∧ (∀ a ∈ fpw, (a = s.heap.objs.size ∨ (a ∈ fp)) ∨ (∀ i h o, St i h → h.get? a = some o → fixedObj o = true) ∨ h₀.get? a ≠ none) ∧
      (∀ i h, St i h → (∀ o, h.get? s.heap.objs.size = some o → fixedObj o = false) ∧ ∃ o, h.get? s.heap.objs.size = some o) ∧ ((∃ x ∈ xs, isTup x = true) → ∀ i h, St i h → GoOk h s.heap.objs.size))
    (hd : ∀ a ∈ fp, ∃ o, s.heap.get? a = some o) (ho : o.isFreed = false) (lo : Low h₀ s)
    (hP : ∀ j v x s', P j v → xs[j]? = some x → Agr h₀ fp [] { s with heap := s.heap.push o } s' → ∃ g, VR s'.heap v x g ∧ ∀ a ∈ g, a ∈ fp) : IterTo q h₀ prog w R s fp xs u s := by
  intro A E Q hr hQ
  refine iter A E Q (hQ _ (s.heap.objs.size :: fp) [s.heap.objs.size] [] _ (.push s o _) (fun a m => ?_) (fun a m => ?_) (by first | exact nn | nofun) (fun A' r' => ?_) ?_)
  · rcases List.mem_cons.mp m with rfl | m
    · exact ⟨.inr get_none_of_size, _, Heap.get?_push_size _ ho⟩
    · obtain ⟨ob, e⟩ := hd a m
      exact ⟨.inl m, ob, Heap.get?_push_of_some _ e⟩
  · rw [List.mem_singleton.mp m]; exact ⟨get_none_of_size, .head _⟩
  · obtain ⟨fpw, St, W, st0, hfp, hkind, hgo⟩ := W A' r'.hd
    refine It.of_walks (s₀ := { s with heap := s.heap.push o }) W (s.heap.objs.size :: fp) fp (fun a m => (hfp a m).imp (fun z => ?_) id) (fun a m => ⟨.tail _ m, fun k => ?_⟩) (fun a m => ?_) xs rfl (fun i h st a m => ?_) (fun i h st a m => by rw [List.mem_singleton.mp m]; exact (hkind i h st).2) hgo hP xs.length 0 _ (by simp) (.refl _ _ _ _) st0
    · rcases z with rfl | z
      · exact .head _
      · exact .tail _ z
    · obtain ⟨ob, e⟩ := hd a m
      rw [List.mem_singleton.mp k, get_none_of_size] at e; cases e
    · rw [List.mem_singleton.mp m]
      refine ⟨.head _, ?_⟩
      cases q : h₀.get? s.heap.objs.size with
      | none => rfl
      | some ob => have := lo _ _ q; rw [get_none_of_size] at this; cases this
    · rw [List.mem_singleton.mp m]; exact (hkind i h st).1
  · intro A' E' Q' s'' r' ag k
    obtain ⟨fpw, St, W, st0, hfp, hkind, hgo⟩ := W A' r'.hd
    refine W.self 0 s'' Q' E' (W.frame _ _ _ st0 fun b hb o' e => ?_) k
    rcases hfp b hb with (rfl | z) | z
    · exact ag.heap _ (.head _) o' e
    · exact ag.heap _ (.tail _ z) o' e
    rcases z with z | z
    · exact ag.fix b o' e (z _ _ _ st0 e)
    · exact ag.first e z
theorem not_fixed_list {h : Heap} {I ax : Addr} {i : Nat} (x : h.IsListIter I ax i) : (∀ o, h.get? I = some o → fixedObj o = false) ∧ GoOk h I := by
  obtain ⟨o, e, c, d⟩ := x
  refine ⟨fun o' e' => ?_, o, e, ?_⟩
  · rw [e] at e'; cases e'
    unfold fixedObj; rw [d, c]; rfl
  · unfold plainIt; rw [c, d]; rfl
theorem VRs.getv {h : Heap} {us : List PySem.Value} {xs : List V} {fp : List Addr} (r : VRs h us xs fp) {j : Nat} {v : PySem.Value} {x : V} (hP : us.toArray[j]? = some v) (hx : xs[j]? = some x) : ∃ g, VR h v x g ∧ ∀ a ∈ g, a ∈ fp := by
  obtain ⟨u', g, e1, e2, e3⟩ := r.get hx
  simp only [List.getElem?_toArray] at hP
  rw [e1] at hP; cases hP
  exact ⟨g, e2, e3⟩
theorem VR.doms {h : Heap} {v : PySem.Value} {x : V} {fp : List Addr} (r : VR h v x fp) : ∀ a ∈ fp, ∃ o, h.get? a = some o := fun a m => let ⟨o, e, _⟩ := r.dom a m; ⟨o, e⟩
theorem walks_list {A : Around} {e I ax : Addr} (hh : A.handled = some (.ref e)) (hne : ax ≠ I) (he : e ≠ I) (items : Array PySem.Value) :
    Walks prog w A I [I, ax, e] [I] items.size (fun i v => items[i]? = some v) (fun i h => (h.IsListIter I ax i ∧ h.IsList ax items) ∧ ExcAt h e) where
  sub := fun b hb => by rw [List.mem_singleton.mp hb]; exact .head _
  frame := fun _ _ _ st hk => ⟨⟨st.1.1.at fun o e => hk I (.head _) o e, st.1.2.at fun o e => hk ax (.tail _ (.head _)) o e⟩, st.2.keeps fun o z => hk e (.tail _ (.tail _ (.head _))) o z⟩
  item := fun i s Q E hi st hQ => by
    refine wpAny_pyNext_list_item st.1.1 st.1.2 (x := items[i]) (by simp [hi]) fun h' hit' hs' => ?_
    exact hQ _ h' s.toks (by simp [hi]) ⟨⟨hit', st.1.2.extBut hs'.extBut hne⟩, st.2.keeps fun o z => hs'.extBut e o he z⟩ fun b o hb e => hs'.extBut b o (fun h => hb (by rw [h]; exact .head _)) e
  done := fun s Q E st hQ => list_end (.inr ⟨e, hh, st.2, he⟩) st.1.1 st.1.2 (by simp) fun h' he' => hQ h' s.toks fun b o hb e => he' b o (fun h => hb (by rw [h]; exact .head _)) e
  self := fun _ _ _ _ st hQ => wpAny_pyIter_listiter st.1.1 hQ
theorem walks_range {A : Around} {e I : Addr} (hh : A.handled = some (.ref e)) (he : e ≠ I) (a : Int) (n : Nat) :
    Walks prog w A I [I, e] [I] n (fun i v => ∃ t, v = .int (a + (i : Int)) t) (fun i h => IsRangeIter h I (a + (i : Nat) * 1) ((n : Int) - (i : Nat)) 1 ∧ ExcAt h e) where
  sub := fun b hb => by rw [List.mem_singleton.mp hb]; exact .head _
  frame := fun _ _ _ st hk => ⟨hk I (.head _) _ st.1, st.2.keeps fun o z => hk e (.tail _ (.head _)) o z⟩
  item := fun i s Q E hi st hQ => by
    refine wpAny_pyNext_range_item st.1 (by omega) fun h' hit' hs' => ?_
    refine hQ _ h' _ ⟨s.toks, by rw [Int.mul_one]⟩ ⟨?_, st.2.keeps fun o z => hs'.extBut e o he z⟩ fun b o hb e => hs'.extBut b o (fun h => hb (by rw [h]; exact .head _)) e
    have e1 : a + ((i + 1 : Nat) : Int) * 1 = a + (i : Int) * 1 + 1 := by omega
    have e2 : (n : Int) - ((i + 1 : Nat) : Int) = (n : Int) - (i : Int) - 1 := by omega
    rw [e1, e2]; exact hit'
  done := fun s Q E st hQ => range_end (.inr ⟨e, hh, st.2, he⟩) st.1 (by omega) fun h' he' => hQ h' s.toks fun b o hb e => he' b o (fun h => hb (by rw [h]; exact .head _)) e
  self := fun _ _ _ _ st hQ => wpAny_pyIter_rangeiter st.1 hQ
theorem Hd.ne {A : Around} {e : Addr} (lo : Low h₀ s) (x : ExcAt h₀ e) : e ≠ s.heap.objs.size ∧ h₀.get? e ≠ none ∧ ∀ o, ExcAt (s.heap.push o) e := by
  obtain ⟨oe, vs, e1, e2⟩ := x
  exact ⟨Nat.ne_of_lt (Heap.lt_size (lo _ _ e1)), (by rw [e1]; exact Option.some_ne_none _), fun o => ⟨oe, vs, Heap.get?_push_of_some _ (lo _ _ e1), e2⟩⟩
theorem ItTo.lst {xs : List V} : ItTo q (.lst xs) xs := ⟨fun {_ _ _ _ s _ _} lo r => by
  have dom := r.doms
  revert dom
  refine VR.lstE r fun a us n fp k r dom => ?_
  have hne : a ≠ s.heap.objs.size := Nat.ne_of_lt (Heap.lt_size k)
  have hl : us.toArray.size = xs.length := by rw [List.size_toArray, r.length]
  refine iter_of_walks (o := { cls := .type "list_iterator", data := .fields #[.ref a, rawInt 0] }) (P := fun i v => us.toArray[i]? = some v) (fun A E Q h => wpAny_pyIter_list ⟨_, k, rfl, _, rfl⟩ h) (fun A' hh => ?_) dom rfl lo fun j v x s' hP hx ag => ?_
  · have st0 : (s.heap.push { cls := .type "list_iterator", data := .fields #[.ref a, rawInt 0] }).IsListIter s.heap.objs.size a 0 ∧ (s.heap.push { cls := .type "list_iterator", data := .fields #[.ref a, rawInt 0] }).IsList a us.toArray := ⟨⟨_, Heap.get?_push_size _ rfl, rfl, rfl⟩, _, Heap.get?_push_of_some _ k, rfl, _, rfl⟩
    rcases hh.ex with hn | ⟨e, hn, hx⟩
    · exact ⟨_, _, hl ▸ Walks.list hn _ a hne us.toArray, st0, fun b m => .inl ((List.mem_cons.mp m).imp id fun m => by rw [List.mem_singleton.mp m]; exact .head _), fun i h st => ⟨(not_fixed_list st.1).1, let ⟨o, e, _⟩ := (not_fixed_list st.1).2; ⟨o, e⟩⟩, fun _ i h st => (not_fixed_list st.1).2⟩
    · obtain ⟨n1, n2, n3⟩ := Hd.ne (A := A') lo hx
      exact ⟨_, _, hl ▸ walks_list hn hne n1 us.toArray, ⟨st0, n3 _⟩, fun b m => (List.mem_cons.mp m).elim (fun m => .inl (.inl m)) fun m => (List.mem_cons.mp m).elim (fun m => .inl (.inr (by rw [m]; exact .head _))) fun m => .inr (.inr (by rw [List.mem_singleton.mp m]; exact n2)), fun i h st => ⟨(not_fixed_list st.1.1).1, let ⟨o, e, _⟩ := (not_fixed_list st.1.1).2; ⟨o, e⟩⟩, fun _ i h st => (not_fixed_list st.1.1).2⟩
  · obtain ⟨g, e2, e3⟩ := r.getv hP hx
    exact ⟨g, (e2.keeps fun _ _ e => Heap.get?_push_of_some _ e : VR (s.heap.push _) _ _ _).agr ag fun a m => .tail _ (e3 a m), fun a m => .tail _ (e3 a m)⟩⟩
theorem ItTo.rng {x y : Int} (hx : fits x = true) (hy : fits y = true) : ItTo q (.rng x y) ((List.range (y - x).toNat).map fun (i : Nat) => V.int (x + (i : Int))) := ⟨fun {_ _ _ _ s _ _} lo r => by
  have dom := r.doms
  revert dom
  refine VR.rngE r fun a t t' t'' k dom => ?_
  have f1 := fits_iff.mp hx
  have f2 := fits_iff.mp hy
  have hsz : Builtin.Range.rangeSize x y 1 = (((y - x).toNat : Nat) : Int) := by
    unfold Builtin.Range.rangeSize
    simp
    split <;> omega
  have hlen : ((List.range (y - x).toNat).map fun (i : Nat) => V.int (x + (i : Int))).length = (y - x).toNat := by simp
  have nt : ¬ ∃ z ∈ ((List.range (y - x).toNat).map fun (i : Nat) => V.int (x + (i : Int))), isTup z = true := fun ⟨z, hz, ht⟩ => by
    obtain ⟨_, _, rfl⟩ := List.mem_map.mp hz
    cases ht
  refine iter_of_walks (P := fun i v => ∃ t, v = .int (x + (i : Int)) t)
    (fun A E Q h => wpAny_pyIter_range (a := x) (b := y) (c := 1) k (small_one (by omega) (by omega) (by omega) (by omega)) h) (fun A' hh => ?_) dom rfl lo fun j v z s' hP hx ag => ?_
  · have st0 : IsRangeIter (s.heap.push { cls := .type "range_iterator", data := .fields #[rawInt x, rawInt (Builtin.Range.rangeSize x y 1), rawInt 1] }) s.heap.objs.size (x + ((0 : Nat) : Int) * 1) (((y - x).toNat : Int) - ((0 : Nat) : Int)) 1 := by
      rw [hsz]
      have := Heap.get?_push_size s.heap (o := ({ cls := .type "range_iterator", data := .fields #[rawInt x, rawInt ((y - x).toNat : Int), rawInt 1] } : Obj)) rfl
      simpa [IsRangeIter] using this
    have kd : ∀ {i : Nat} {h : Heap}, IsRangeIter h s.heap.objs.size (x + (i : Nat) * 1) (((y - x).toNat : Int) - (i : Nat)) 1 → (∀ o, h.get? s.heap.objs.size = some o → fixedObj o = false) ∧ ∃ o, h.get? s.heap.objs.size = some o := fun {i h} st => ⟨fun o e => by
      have st : h.get? s.heap.objs.size = some _ := st
      rw [e] at st; cases st; rfl, _, st⟩
    rw [hlen]
    rcases hh.ex with hn | ⟨e, hn, hx⟩
    · exact ⟨_, _, LCg.range_walks hn x _, st0, fun b m => .inl (.inl (List.mem_singleton.mp m)), fun i h st => kd st, fun z => (nt z).elim⟩
    · obtain ⟨n1, n2, n3⟩ := Hd.ne (A := A') lo hx
      exact ⟨_, _, walks_range hn n1 x _, ⟨st0, n3 _⟩, fun b m => (List.mem_cons.mp m).elim (fun m => .inl (.inl m)) fun m => .inr (.inr (by rw [List.mem_singleton.mp m]; exact n2)), fun i h st => kd st.1, fun z => (nt z).elim⟩
  · obtain ⟨t, rfl⟩ := hP
    simp only [List.getElem?_map, Option.map_eq_some_iff] at hx
    obtain ⟨i, hi, rfl⟩ := hx
    have : i = j := by
      obtain ⟨h1, h2⟩ := List.getElem?_eq_some_iff.mp hi
      simpa using h2.symm
    subst this
    exact ⟨[], .int _ _, by first | exact nn | nofun⟩⟩
theorem ItTo.str {x : PySem.Str} (hq : q = true) : ItTo q (.str x) (x.cps.toList.map fun c => V.str ⟨#[c]⟩) := ⟨fun {_ _ _ _ s _ _} lo r => by
  have dom := r.doms
  revert dom
  refine VR.strE r fun t dom => ?_
  have hlen : (x.cps.toList.map fun c => V.str ⟨#[c]⟩).length = x.cps.size := by simp
  have hPv : ∀ j v z s', SignAt x j v → (x.cps.toList.map fun c => V.str ⟨#[c]⟩)[j]? = some z → ∃ g, VR (Shared.heap s') v z g ∧ ∀ a ∈ g, a ∈ ([] : List Addr) := by
    rintro j v z s' ⟨c, u, e1, rfl⟩ hx
    simp only [List.getElem?_map, Option.map_eq_some_iff, Array.getElem?_toList] at hx
    obtain ⟨i, hi, rfl⟩ := hx
    rw [e1] at hi; cases hi
    exact ⟨[], .str _ _, by first | exact nn | nofun⟩
  have notup : (∃ z ∈ (x.cps.toList.map fun c => V.str ⟨#[c]⟩), isTup z = true) → False := by
    rintro ⟨z, hz, ht⟩
    obtain ⟨_, _, rfl⟩ := List.mem_map.mp hz
    cases ht
  have kd : ∀ {nm : String} {i : Nat} {h : Heap}, (nm == "range") = false → h.IsStrIter s.heap.objs.size nm x t i → (∀ o, h.get? s.heap.objs.size = some o → fixedObj o = false) ∧ ∃ o, h.get? s.heap.objs.size = some o := by
    rintro nm i h hn ⟨o', e1, c, d⟩
    refine ⟨fun o e => ?_, o', e1⟩
    rw [e] at e1; cases e1
    unfold fixedObj; rw [d, c]
    show (PySem.Value.type nm == PySem.Value.type "range") = false
    rw [beq_eq_false_iff_ne] at hn ⊢
    exact fun q => hn (PySem.Value.type.inj q)
  cases ha : x.cps.all (· < 128)
  · exact iter_of_walks (fun A E Q h => wpAny_pyIter_wide ha h) (fun A' hh => ⟨_, fun i h => h.IsStrIter s.heap.objs.size "str_iterator" x t i, by rw [hlen]; exact Walks.strWide (hh.no hq) _ x t, ⟨_, Heap.get?_push_size _ rfl, rfl, rfl⟩, fun b m => .inl (.inl (List.mem_singleton.mp m)), fun i h st => kd (by decide) st, fun hx => (notup hx).elim⟩) dom rfl lo fun j v z s' hP hx ag => hPv j v z s' hP hx
  · exact iter_of_walks (fun A E Q h => wpAny_pyIter_ascii ha h) (fun A' hh => ⟨_, fun i h => h.IsStrIter s.heap.objs.size "str_ascii_iterator" x t i, by rw [hlen]; exact Walks.strAscii (hh.no hq) _ x t, ⟨_, Heap.get?_push_size _ rfl, rfl, rfl⟩, fun b m => .inl (.inl (List.mem_singleton.mp m)), fun i h st => kd (by decide) st, fun hx => (notup hx).elim⟩) dom rfl lo fun j v z s' hP hx ag => hPv j v z s' hP hx⟩
end

theorem compTurn_at {elt : Expr} {gens : List Comprehension} {scope : Scope} {pos : Pos} {depth : Nat} {it acc : PySem.Value} {env : Env} {g : Comprehension} (hg : gens[depth]? = some g) (ha : g.is_async = 0) :
    compTurn (.ListComp elt gens scope pos) depth it acc env = (do
      standAt g.iter.pos
      match ← pyNext it with
      | none => pure (.done .next)
      | some v =>
        letOwnedTupleGo g.target it v
        assign g.target env v
        let mut ok := true
        for c in g.ifs do
          if ok then ok ← isTrue c env (eval c env)
        if ok then
          match gens[depth + 1]? with
          | some g' =>
            let x ← eval g'.iter env
            standAt g'.iter.pos
            let x ← if g'.is_async != 0 then foldedIterable g'.iter x else foldedSetIterable g'.iter env x
            let _ ← runOwn (.compStart (.ListComp elt gens scope pos) (depth + 1) (← holding [x] (if g'.is_async != 0 then asyncIter x else pyIter x)) acc env) env
          | none => (do let _ ← call (.builtin "list.append") [acc, ← eval elt env])
        again (.compLoop (.ListComp elt gens scope pos) depth it acc env)) := by
  unfold compTurn
  simp only [hg, ha]
  rfl
section
variable {Pin : List Addr} {prog : Program} {w : World} {K : Frag} {Γ : Glo} {h₀ : Heap} {R n : Nat} {A : Around} {E : PySem.Value → Shared → Prop} {s : Shared} {env : Env} {pe : PE} {sc : Scope} {b : Loc} {FP : PySem.Str → List Addr} {O WL : List Addr}
theorem codeAny_compStart_at {elt : Expr} {gens : List Comprehension} {scope : Scope} {pos : Pos} {depth : Nat} {it acc : PySem.Value} {g : Comprehension} {Res : Result → Shared → Prop} (hg : gens[depth]? = some g) (ha : g.is_async = 0)
    (h0 : codeAny (model prog w) A (.compLoop (.ListComp elt gens scope pos) depth it acc env) Res s)
    (h : wpAny (model prog w) A (pyIter it) (fun it' s' => codeAny (model prog w) A (.compLoop (.ListComp elt gens scope pos) depth it' acc env) Res s')
      (notedBy (model prog w) A env fun x s' => Res (.error x) s') s) :
    codeAny (model prog w) A (.compStart (.ListComp elt gens scope pos) depth it acc env) Res s := by
  refine codeAny_of_tree ?_
  show wpAny _ A ((compStart (.ListComp elt gens scope pos) depth it acc env).onRaise (fun x => do noteFrame x env; standAt theWindowsPlace)) _ _ s
  refine wpAny_notedAt ?_
  have hc : (clausesOf (.ListComp elt gens scope pos))[depth]? = some g := hg
  have hf : (some g).elim false (fun x : Comprehension => x.is_async != 0) = false := by simp [ha]
  unfold compStart
  rw [hc]
  simp only [hf, Bool.false_eq_true, if_false]
  refine wpAny_bind (wpAny_askSetting (wpAny_ite ?_))
  split
  · first
      | exact wpAny_bind (wpAny_pure (wpAny_pure (And.intro rfl h0)))
      | exact wpAny_pure (And.intro rfl h0)
  · exact wpAny_bind (wpAny_rule (wpAny_bind (wpAny_standAt (wpAny_bind (wpAny_mono h (fun it' s' h' => wpAny_pure (And.intro rfl h')) fun _ _ x => x)))))
theorem app_ok {us : List PySem.Value} {k : Nat} {D : Addr} {u : PySem.Value} (hD : s.heap.get? D = some (lstObj us k)) (hz : us.length ≤ 1000000) {Q : PySem.Value → Shared → Prop}
    (h : ∀ s' k', s'.heap.get? D = some (lstObj (us ++ [u]) k') → Stp [D] [] s s' → Q .none s') : wpAny (model prog w) A (call (.builtin "list.append") [.ref D, u]) Q E s := by
  have e24 := sizeLine_eq
  refine wpAny_list_append_plain ⟨_, hD⟩ (fun h' ⟨k', e⟩ hs => h _ k' ?_ (.of_same hs fun o e' => ?_)) (by rw [List.size_toArray, e24]; omega)
  · show h'.get? D = _
    rw [e]; simp
  · rw [hD] at e'; cases e'; rfl
end
noncomputable def IfTo (c : Cx) (pe : PE) (ifs : List Expr) (ok : Bool) : Prop := ∀ (t : At c pe) (Q : Bool → Shared → Prop), (∀ s', Ext t.s s' → Q ok s') → wpAny t.M t.A (forIn ifs true fun e r => if r = true then do let ok ← isTrue e t.env (eval e t.env); pure (ForInStep.yield ok) else pure (ForInStep.yield r)) Q t.E t.s
theorem IfTo.nil {c : Cx} {pe : PE} : IfTo c pe [] true := fun t Q h => wpAny_tests_nil (h _ (.refl _ _ _))
theorem IfTo.yes {c : Cx} {pe : PE} {e : Expr} {ifs : List Expr} {ok : Bool} (h1 : EtTo c pe e true) (h2 : IfTo c pe ifs ok) : IfTo c pe (e :: ifs) ok := fun t Q h => by
  rw [List.forIn_cons, if_pos rfl]
  exact wpAny_bind (wpAny_bind (h1 t _ fun s1 x1 => wpAny_pure (h2 (t.ext x1) _ fun s2 x2 => h s2 (x1.ext x2))))
theorem IfTo.no {c : Cx} {pe : PE} {e : Expr} {ifs : List Expr} (h1 : EtTo c pe e false) : IfTo c pe (e :: ifs) false := fun t Q h => by
  rw [List.forIn_cons, if_pos rfl]
  refine wpAny_bind (wpAny_bind (h1 t _ fun s1 x1 => wpAny_pure ?_))
  show wpAny t.M t.A (forIn ifs false _) Q t.E s1
  generalize ifs = l
  induction l with
  | nil => exact wpAny_pure (h _ x1)
  | cons e l ih => rw [List.forIn_cons, if_neg (by simp)]; exact wpAny_bind (wpAny_pure ih)
structure EiTo (c : Cx) (pe : PE) (e : Expr) (xs : List V) : Prop where
  fold : ∀ env x, foldedSetIterable e env x = pure x
  go : ∀ (t : At c pe) (Q : PySem.Value → Shared → Prop), (∀ u s' fp, Ext t.s s' → (∀ a ∈ fp, Src t.s pe.b t.FP a) → IterTo c.q c.h₀ c.prog c.w c.R t.s fp xs u s' → Q u s') → wpAny t.M t.A (eval e t.env) Q t.E t.s
theorem EiTo.val {c : Cx} {pe : PE} {e : Expr} {v : V} {xs : List V} {fr : Bool} (hf : ∀ env x, foldedSetIterable e env x = pure x) (h : EvTo c pe e v fr) (i : ItTo c.q v xs) : EiTo c pe e xs := ⟨hf, fun t Q q => h t _ fun u s1 p1 => by
  obtain ⟨f, x1, r1, o1, _⟩ := p1
  exact q u s1 f x1 o1 (IterTo.back x1 (i.go (t.X.ext x1).low r1))⟩
theorem EiTo.gen {c : Cx} {pe : PE} {x : PySem.Str} {q p : Pos} {f : PySem.Value} {f0 f1 : Bool} {args : List Expr} {vs ys : List V} (h0 : EvTo c pe (.Name x q) (.val f) f0) (h1 : EvsTo c pe args vs f1) (e : c.Γ.gen f vs = some ys) : EiTo c pe (.Call (.Name x q) args [] p) ys := ⟨fun _ _ => rfl, fun t Q h => by
  refine wpAny_bind (h0 t _ fun u s1 p1 => ?_)
  obtain ⟨f0, x1, r1, o1, _⟩ := p1
  refine VR.valE r1 fun _ => ?_
  obtain ⟨k1, k2⟩ := c.ok.gen _ _ _ e
  refine call_ok (t.ext x1) k1 h1 .nil p fun us zs s2 fp g x2 ra rk so _ => ?_
  obtain ⟨rfl, rfl⟩ := rk.nilE
  rw [List.append_nil] at so
  exact k2 t.A t.E s2 _ fp Q t.room (t.X.ext (x1.ext x2)).low ra fun z s3 x3 it => h z s3 fp ((x1.ext x2).ext x3) (fun a m => (so a m).back x1) (it.back (x1.ext x2))⟩
noncomputable def ClTo (c : Cx) (pe : PE) (g : Comprehension) (r : List Comprehension) (elt : Expr) (xs l : List V) : Prop := ∀ {Pin : List Addr} (A : Around) (s : Shared) (env : Env) (FP : PySem.Str → List Addr) (pre : List Comprehension) (scope : Scope) (pos : Pos) (I D : Addr) (rd wr : List Addr) (gs : List Nat) (WL : List Addr) (us0 : List PySem.Value) (k0 : Nat) (l0 : List V) (f0 : List Addr)
    (Res : Result → Shared → Prop), Pin = c.Pin → Room c.q c.h₀ c.R A → EnvR Pin c.h₀ env pe FP [] s.heap → Pls env WL → (∀ g' ∈ g :: r, g'.is_async = 0 ∧ ∀ x ∈ tNames g'.target, Bnd env WL x) → (∀ x ∈ tNames g.target, pe.b.lookup x = none) →
    s.heap.get? D = some (lstObj us0 k0) → VRs s.heap us0 l0 f0 → l0.length + l.length ≤ 1000000 → (∀ a ∈ f0, a ≠ D ∧ a ≠ env.locals ∧ a ∉ wr) → (∀ x z, pe.b.lookup x = some z → D ∉ FP x) →
    c.h₀.get? D = none → It c.h₀ c.prog c.w A I rd wr gs xs s → (∀ a ∈ rd, a ≠ env.locals ∧ (∀ x c, env.cells.lookup x = some c → a ≠ c) ∧ a ≠ D ∧ ∃ o, s.heap.get? a = some o) → (∀ a ∈ wr, a ∈ rd ∧ c.h₀.get? a = none) → (∀ x z, pe.b.lookup x = some z → ∀ a ∈ FP x, a ∉ wr) → (∀ i ∈ gs, ∃ g, s.gens[i]? = some g) →
    (∀ s' us k f, Stp (WL ++ D :: wr) gs s s' → EnvR Pin c.h₀ env pe FP [] s'.heap → s'.heap.get? D = some (lstObj us k) → VRs s'.heap us (l0 ++ l) f → (∀ a ∈ f, a ∈ f0 ∨ Src s pe.b FP a ∨ (a ∈ rd ∧ a ∉ wr)) → Res (.ok .next) s') →
    codeAny (model c.prog c.w) A (.compLoop (.ListComp elt (pre ++ g :: r) scope pos) pre.length (.ref I) (.ref D) env) Res s
inductive CrTo (c : Cx) (sc : Scope) (b' : Loc) (r : List Comprehension) (elt : Expr) : Bool → List V → Prop
  | no : CrTo c sc b' r elt false []
  | yes (y : V) : r = [] → EvTo c ⟨sc, b'⟩ elt y false → CrTo c sc b' r elt true [y]
  | more (g' : Comprehension) (r' : List Comprehension) (xs ys : List V) : r = g' :: r' → EiTo c ⟨sc, b'⟩ g'.iter xs → ((tNames g'.target).all fun x => (b'.lookup x).isNone) = true → ClTo c ⟨sc, b'⟩ g' r' elt xs ys → CrTo c sc b' r elt true ys
inductive CiTo (c : Cx) (sc : Scope) (b : Loc) (g : Comprehension) (r : List Comprehension) (elt : Expr) (v : V) (ys : List V) : Prop
  | mk (b' : Loc) (ok : Bool) : BdTo c.q g.target v b b' → IfTo c ⟨sc, b'⟩ g.ifs ok → CrTo c sc b' r elt ok ys → CiTo c sc b g r elt v ys
inductive CsTo (c : Cx) (sc : Scope) (b : Loc) (g : Comprehension) (r : List Comprehension) (elt : Expr) : List V → List V → Prop
  | nil : CsTo c sc b g r elt [] []
  | cons {v : V} {xs x y : List V} : CiTo c sc b g r elt v x → CsTo c sc b g r elt xs y → CsTo c sc b g r elt (v :: xs) (x ++ y)
section
variable {Pin : List Addr} {h₀ : Heap} {env : Env} {pe : PE} {FP : PySem.Str → List Addr} {O : List Addr} {h : Heap}
theorem EnvR.val (X : EnvR Pin h₀ env pe FP O h) {z : PySem.Str} {y : V × Sta} (e : pe.b.lookup z = some y) : ∃ u, VR h u y.1 (FP z) := by
  by_cases kz : env.kindOf z = some .local
  · obtain ⟨m', _, hv⟩ := X.ns
    obtain ⟨u', _, r'⟩ := hv z y e kz
    exact ⟨u', r'⟩
  · obtain ⟨c', hc3⟩ := Option.isSome_iff_exists.mp ((X.kinds z y e).resolve_left kz).2
    obtain ⟨_, _, _, hh⟩ := X.cells z c' hc3
    obtain ⟨u', _, r'⟩ := hh y e kz
    exact ⟨u', r'⟩
theorem EnvR.fpd (X : EnvR Pin h₀ env pe FP O h) {z : PySem.Str} {y : V × Sta} (e : pe.b.lookup z = some y) {a : Addr} (m : a ∈ FP z) : ∃ o, h.get? a = some o ∧ fixedObj o = false ∧ ∀ c, o.data ≠ .cell c := (X.val e).elim fun _ r => r.dom a m
theorem EnvR.fpo (X : EnvR Pin h₀ env pe FP O h) {z : PySem.Str} {y : V × Sta} (e : pe.b.lookup z = some y) {a : Addr} (m : a ∈ FP z) (n : h.get? a = none) : False := by
  obtain ⟨o, q, _⟩ := X.fpd e m
  rw [n] at q; cases q
theorem EnvR.celln (X : EnvR Pin h₀ env pe FP O h) {x : PySem.Str} {c : Addr} (e : env.cells.lookup x = some c) (n : h.get? c = none) : False := by
  obtain ⟨_, wv, ⟨o, e1, _⟩, _⟩ := X.cells x c e
  rw [n] at e1; cases e1
theorem EnvR.srcCell {s : Shared} (X : EnvR Pin h₀ env pe FP O s.heap) {a : Addr} (q : Src s pe.b FP a) (x : PySem.Str) (c : Addr) (e : env.cells.lookup x = some c) : a ≠ c := by
  rintro rfl
  rcases q with q | ⟨z, y', ez, m⟩
  · exact X.celln e q
  · obtain ⟨_, wv, ⟨o, e1, e2⟩, _⟩ := X.cells x _ e
    obtain ⟨o', e3, _, e4⟩ := X.fpd ez m
    rw [e1] at e3; cases e3
    exact e4 _ e2
theorem Src.off {s : Shared} {a : Addr} (X : EnvR Pin h₀ env pe FP O s.heap) (h : Src s pe.b FP a) : a ≠ env.locals := h.elim X.ne_new fun ⟨x, z, e, m⟩ => X.off x z e a m
theorem EnvR.low0 {s : Shared} (X : EnvR Pin h₀ env pe FP O s.heap) {a : Addr} (e : s.heap.get? a = none) : h₀.get? a = none := Low.none X.low e
theorem Pls.off {WL : List Addr} (P : Pls env WL) {a : Addr} (h1 : a ≠ env.locals) (h2 : ∀ x c, env.cells.lookup x = some c → a ≠ c) : a ∉ WL := fun m => (P a m).elim h1 fun ⟨x, c, e, q⟩ => h2 x c e q
theorem Pls.dom {WL : List Addr} (P : Pls env WL) (X : EnvR Pin h₀ env pe FP O h) {a : Addr} (m : a ∈ WL) : ∃ o, h.get? a = some o := by
  rcases P a m with rfl | ⟨x, c, e, rfl⟩
  · exact X.loc_dom
  · obtain ⟨_, wv, ⟨o, e1, _⟩, _⟩ := X.cells x _ e
    exact ⟨o, e1⟩
theorem Pls.new {WL : List Addr} (P : Pls env WL) (X : EnvR Pin h₀ env pe FP O h) {a : Addr} (m : a ∈ WL) : h₀.get? a = none := by
  rcases P a m with rfl | ⟨x, c, e, rfl⟩
  · exact X.above
  · exact (X.cells x _ e).1
end
theorem ClTo.of {c : Cx} {sc : Scope} {b : Loc} {g : Comprehension} {r : List Comprehension} {elt : Expr} {xs l : List V} (hc : CsTo c sc b g r elt xs l) : ClTo c ⟨sc, b⟩ g r elt xs l := by
  intro Pin A s env FP pre scope pos I D rd0 wr0 gs WL us0 k0 l0 f0 Res hPin hr X P hg hfree hD r0 hz hf00 hDf hD0 it hrd0 hwr0 hFw0 hgs h0
  subst hPin
  have hgl : (pre ++ g :: r)[pre.length]? = some g := by simp
  have hgr : (pre ++ g :: r)[pre.length + 1]? = r.head? := by rw [List.getElem?_append_right (by omega)]; simp [List.head?_eq_getElem?]
  have cellD : ∀ (s : Shared) us k, EnvR c.Pin c.h₀ env ⟨sc, b⟩ FP [] s.heap → s.heap.get? D = some (lstObj us k) → D ≠ env.locals ∧ ∀ x c, env.cells.lookup x = some c → D ≠ c := by
    intro s us k X hD
    refine ⟨?_, ?_⟩
    · rintro rfl
      obtain ⟨m, ⟨o, es, ep, e1, e2, _⟩, _⟩ := X.ns
      rw [hD] at e1; cases e1; cases e2
    · rintro x c e rfl
      obtain ⟨_, wv, ⟨o, e1, e2⟩, _⟩ := X.cells x _ e
      rw [hD] at e1; cases e1; cases e2
  induction hc generalizing rd0 wr0 s us0 k0 l0 f0 Res with
  | nil =>
    refine codeAny_of_tree ?_
    show wpAny _ A ((compTurn (.ListComp elt (pre ++ g :: r) scope pos) pre.length (.ref I) (.ref D) env).onRaise (fun x => do noteFrame x env; theTreesLotGoes x)) _ _ s
    refine wpAny_noted ?_
    rw [compTurn_at hgl (hg g (.head _)).1]
    refine wpAny_bind (wpAny_standAt (wpAny_bind (it s (.refl _ _ _ _) _ _ fun s1 t1 => wpAny_pure ?_)))
    refine h0 s1 us0 k0 f0 (t1.mono (fun a m => List.mem_append_right _ (.tail _ m)) fun i m => m) (X.stp t1 (fun m => (hrd0 _ (hwr0 _ m).1).1 rfl) (fun x c e m => (hrd0 _ (hwr0 _ m).1).2.1 x c e rfl) (fun x z e a m => hFw0 x z e a m) fun a m => (hwr0 a m).2) (t1.heap _ _ hD (.inr fun m => (hrd0 _ (hwr0 _ m).1).2.2.1 rfl))
      (by rw [List.append_nil]; exact r0.but t1.heap fun a m => (hf00 a m).2.2) fun a m => .inl m
  | @cons v xs x y hi _ ih =>
    refine codeAny_of_tree ?_
    show wpAny _ A ((compTurn (.ListComp elt (pre ++ g :: r) scope pos) pre.length (.ref I) (.ref D) env).onRaise (fun x => do noteFrame x env; theTreesLotGoes x)) _ _ s
    refine wpAny_noted ?_
    rw [compTurn_at hgl (hg g (.head _)).1]
    refine wpAny_bind (wpAny_standAt (wpAny_bind (it s (.refl _ _ _ _) _ _ fun u gv s1 rd wr t10 rv hgv go hex hexg gr it1 => ?_)))
    have hwr : ∀ a ∈ wr, a ∈ rd ∧ c.h₀.get? a = none := fun a m => ⟨(gr.newW a m).1, (gr.newW a m).2.1⟩
    have hFw : ∀ x z, b.lookup x = some z → ∀ a ∈ FP x, a ∉ wr := fun x z e a m k => (gr.newW a k).2.2.elim (hFw0 x z e a m) fun q => X.fpo e m q
    have t1 : Stp wr gs s s1 := t10.mono gr.subW fun i m => m
    have dW : D ∉ wr := fun m => (gr.newW D m).2.2.elim (fun k => (hrd0 D (hwr0 D k).1).2.2.1 rfl) fun q => by
      rw [hD] at q; cases q
    have hrd : ∀ a ∈ rd, a ≠ env.locals ∧ (∀ x c, env.cells.lookup x = some c → a ≠ c) ∧ a ≠ D ∧ ∃ o, s1.heap.get? a = some o := fun a m => by
      rcases gr.newR a m with k | ⟨k, o, e⟩
      · obtain ⟨k1, k2, k3, o, e⟩ := hrd0 a k
        refine ⟨k1, k2, k3, ?_⟩
        by_cases q : a ∈ wr
        · exact hex a q
        · exact ⟨o, t1.heap a o e (.inr q)⟩
      · refine ⟨X.ne_new k, fun x c e' q => X.celln e' (q ▸ k), fun q => ?_, o, e⟩
        rw [q, hD] at k; cases k
    have hf0 : ∀ a ∈ f0, a ≠ D ∧ a ≠ env.locals ∧ a ∉ wr := fun a m => ⟨(hf00 a m).1, (hf00 a m).2.1, fun k => (gr.newW a k).2.2.elim (hf00 a m).2.2 fun q => by
      obtain ⟨o, e, _⟩ := r0.dom a m
      rw [q] at e; cases e⟩
    have h : ∀ s' us k f, Stp (WL ++ D :: wr) gs s s' → EnvR c.Pin c.h₀ env ⟨sc, b⟩ FP [] s'.heap → s'.heap.get? D = some (lstObj us k) → VRs s'.heap us (l0 ++ (x ++ y)) f → (∀ a ∈ f, a ∈ f0 ∨ Src s b FP a ∨ (a ∈ rd ∧ a ∉ wr)) → Res (.ok .next) s' := fun s' us k f t X' hD' r' hf => by
      refine h0 s' us k f ((Stp.refl (WL ++ D :: wr0) gs s).trans t (fun a m => ?_) fun i m => .inl m) X' hD' r' fun a m => ?_
      · rcases List.mem_append.mp m with m | m
        · exact .inl (List.mem_append_left _ m)
        · rcases List.mem_cons.mp m with rfl | m
          · exact .inl (List.mem_append_right _ (.head _))
          · exact (gr.newW a m).2.2.imp (fun k => List.mem_append_right _ (.tail _ k)) id
      · rcases hf a m with q | q | ⟨q, q'⟩
        · exact .inl q
        · exact .inr (.inl q)
        · exact (gr.newR a q).elim (fun k => .inr (.inr ⟨k, fun z => q' (gr.subW a z)⟩)) fun k => .inr (.inl (.inl k.1))
    clear h0
    have X1 := X.stp t1 (fun m => (hrd _ (hwr _ m).1).1 rfl) (fun x c e m => (hrd _ (hwr _ m).1).2.1 x c e rfl) (fun x z e a m => hFw x z e a m) fun a m => (hwr a m).2
    have hD1 : s1.heap.get? D = some (lstObj us0 k0) := t1.heap _ _ hD (.inr dW)
    have r01 : VRs s1.heap us0 l0 f0 := r0.but t1.heap fun a m => (hf0 a m).2.2
    have gvoff : ∀ a ∈ gv, a ≠ env.locals := fun a m => (hrd a (hgv a m).1).1
    have cD := cellD s1 _ _ X1 hD1
    have DWL : D ∉ WL := P.off cD.1 cD.2
    have f0off : ∀ a ∈ f0, a ∉ WL := r01.offPls X1 P fun a m => (hf0 a m).2.1
    have dom1 : ∀ a, s1.heap.get? a = none → s.heap.get? a = none := fun a n => by
      cases e : s.heap.get? a with
      | none => rfl
      | some o =>
        by_cases q : a ∈ wr
        · obtain ⟨o', e'⟩ := hex a q
          rw [n] at e'; cases e'
        · rw [t1.heap a o e (.inr q)] at n; cases n
    have domE : ∀ (s5 : Shared), EnvR c.Pin c.h₀ env ⟨sc, b⟩ FP [] s5.heap → (∃ us k, s5.heap.get? D = some (lstObj us k)) → Stp (WL ++ [D]) [] s1 s5 → ∀ a, s5.heap.get? a = none → s1.heap.get? a = none := fun s5 X5 ⟨us, k, hD5⟩ T a n => by
      cases e : s1.heap.get? a with
      | none => rfl
      | some o =>
        by_cases q : a ∈ WL ++ [D]
        · rcases List.mem_append.mp q with q | q
          · obtain ⟨o', e'⟩ := P.dom X5 q
            rw [n] at e'; cases e'
          · rw [List.mem_singleton.mp q, hD5] at n; cases n
        · rw [T.heap a o e (.inr q)] at n; cases n
    have next : ∀ (s5 : Shared) us5 k5 f5, Stp (WL ++ [D]) [] s1 s5 → EnvR c.Pin c.h₀ env ⟨sc, b⟩ FP [] s5.heap → s5.heap.get? D = some (lstObj us5 k5) → VRs s5.heap us5 (l0 ++ x) f5 → (∀ a ∈ f5, a ∈ f0 ∨ Src s1 b FP a ∨ (a ∈ rd ∧ a ∉ wr)) →
        codeAny (model c.prog c.w) A (.compLoop (.ListComp elt (pre ++ g :: r) scope pos) pre.length (.ref I) (.ref D) env) Res s5 := by
      intro s5 us5 k5 f5 T X5 hD5 r5 hf5
      have rdT : ∀ a ∈ rd, a ∉ WL ++ [D] := fun a m k => (List.mem_append.mp k).elim (P.off (hrd a m).1 (hrd a m).2.1) fun k => (hrd a m).2.2.1 (List.mem_singleton.mp k)
      refine ih s5 rd wr us5 k5 (l0 ++ x) f5 Res hD5 r5 (by rw [List.length_append] at hz ⊢; omega) (fun a m => ?_) (it1.agr (.of T rdT (by first | exact nn | nofun) fun a k => (List.mem_append.mp k).elim (fun k => P.new X k) fun k => by rw [List.mem_singleton.mp k]; exact hD0)) (fun a m => ⟨(hrd a m).1, (hrd a m).2.1, (hrd a m).2.2.1, ?_⟩) hwr hFw (fun i m => ?_) X5 fun s' us k f t' X' hD' r' hf' => h s' us k f ?_ X' hD' (by rw [← List.append_assoc]; exact r') fun a m => ?_
      · rcases hf5 a m with q | q | q
        · exact hf0 a q
        · rcases q with q | ⟨z, y', e, m'⟩
          · refine ⟨fun k => ?_, X1.ne_new q, fun k => ?_⟩
            · rw [k, hD1] at q; cases q
            · obtain ⟨o, e⟩ := hex a k
              rw [q] at e; cases e
          · exact ⟨fun k => hDf z y' e (k ▸ m'), X.off z y' e a m', hFw z y' e a m'⟩
        · exact ⟨(hrd a q.1).2.2.1, (hrd a q.1).1, q.2⟩
      · obtain ⟨o, e⟩ := (hrd a m).2.2.2
        exact ⟨o, T.heap a o e (.inr (rdT a m))⟩
      · obtain ⟨gg, e⟩ := hexg i m
        exact ⟨gg, T.gens i gg e (by simp)⟩
      · refine ((t1.mono (fun a m => ?_) fun i m => m).trans T (fun a m => .inl ?_) (by first | exact nn | nofun)).trans t' (fun a m => .inl m) fun i m => .inl m
        · exact List.mem_append_right _ (.tail _ m)
        · rcases List.mem_append.mp m with m | m
          · exact List.mem_append_left _ m
          · exact List.mem_append_right _ (by rw [List.mem_singleton.mp m]; exact .head _)
      · rcases hf' a m with q | q | q
        · rcases hf5 a q with q | q | q
          · exact .inl q
          · exact .inr (.inl (q.imp (dom1 a) id))
          · exact .inr (.inr q)
        · exact .inr (.inl (q.imp (fun q => dom1 a (domE s5 X5 ⟨_, _, hD5⟩ T a q)) id))
        · exact .inr (.inr q)
    obtain ⟨b', ok, bd, hif, hrest⟩ := hi
    refine wpAny_bind (bd.go rv go ?_)
    refine wpAny_bind (bd.asg X1 P (hg g (.head _)).2 hr.no rv gvoff fun s2 FP' X2 t2 n1 n2 => ?_)
    have bsub : ∀ x y, b.lookup x = some y → b'.lookup x = some y ∧ FP' x = FP x := fun x y e => by
      obtain ⟨q1, q2⟩ := n1 x fun m => by rw [hfree x m] at e; cases e
      exact ⟨q1.trans e, q2⟩
    refine wpAny_bind (hif ⟨A, _, s2, env, FP', [], hr, X2⟩ _ fun s3 x3 => ?_)
    have X3 := X2.ext x3
    have T3 : Stp WL [] s1 s3 := t2.ext x3
    have hD3 : s3.heap.get? D = some (lstObj us0 k0) := T3.heap _ _ hD1 (.inr DWL)
    have r03 : VRs s3.heap us0 l0 f0 := r01.but T3.heap f0off
    have Xb3 : EnvR c.Pin c.h₀ env ⟨sc, b⟩ FP [] s3.heap := X3.weaken bsub
    have TD3 : Stp (WL ++ [D]) [] s1 s3 := T3.mono (fun a m => List.mem_append_left _ m) fun i m => m
    have new3 : ∀ a, s3.heap.get? a = none → s1.heap.get? a = none := domE s3 Xb3 ⟨_, _, hD3⟩ TD3
    have srcB : ∀ a, Src s3 b' FP' a → Src s1 b FP a ∨ (a ∈ rd ∧ a ∉ wr) := fun a q => by
      rcases q with q | ⟨z, y', e, m⟩
      · exact .inl (.inl (new3 a q))
      · by_cases hz : z ∈ tNames g.target
        · exact .inr (hgv a (n2 z hz y' e a m))
        · obtain ⟨q1, q2⟩ := n1 z hz
          exact .inl (.inr ⟨z, y', q1 ▸ e, q2 ▸ m⟩)
    have srcD : ∀ a, Src s1 b FP a ∨ (a ∈ rd ∧ a ∉ wr) → a ≠ D := fun a q => by
      rcases q with q | q
      · rcases q with q | ⟨z, y', e, m'⟩
        · intro k; rw [k, hD1] at q; cases q
        · exact fun k => hDf z y' e (k ▸ m')
      · exact (hrd a q.1).2.2.1
    cases hrest with
    | no => exact wpAny_pure ⟨rfl, next s3 us0 k0 f0 TD3 Xb3 hD3 (by rw [List.append_nil]; exact r03) fun a m => .inl m⟩
    | yes y1 hr0 hy =>
      subst hr0
      rw [if_pos rfl, hgr]
      refine wpAny_bind (wpAny_bind (hy ⟨A, _, s3, env, FP', [], hr, X3⟩ _ fun u1 s4 p4 => ?_))
      obtain ⟨fp4, x4, r4, o4, _⟩ := p4
      have hD4 : s4.heap.get? D = some (lstObj us0 k0) := x4.keep _ _ hD3
      refine wpAny_bind (app_ok hD4 (by rw [r03.length]; rw [List.length_append] at hz; simp at hz; omega) fun s5 k5 hD5 t5 => wpAny_pure (wpAny_pure ⟨rfl, ?_⟩))
      have o4' : ∀ a ∈ fp4, Src s1 b FP a ∨ (a ∈ rd ∧ a ∉ wr) := fun a m => srcB a (o4 a m)
      have n0 : ∀ a ∈ f0, a ∉ [D] := fun a m k => (hf0 a m).1 (List.mem_singleton.mp k)
      have n4 : ∀ a ∈ fp4, a ∉ [D] := fun a m k => srcD a (o4' a m) (List.mem_singleton.mp k)
      refine next s5 _ k5 (f0 ++ (fp4 ++ [])) (TD3.ext x4 |>.trans t5 (fun a m => .inl (List.mem_append_right _ m)) (by first | exact nn | nofun)) ?_ hD5 ?_ fun a m => ?_
      · exact (Xb3.ext x4).stp t5 (fun m => cD.1 (List.mem_singleton.mp m).symm) (fun x c e m => cD.2 x c e (List.mem_singleton.mp m).symm) (fun x z e a m k => hDf x z e ((List.mem_singleton.mp k) ▸ m)) fun a m => by rw [List.mem_singleton.mp m]; exact hD0
      · exact VRs.append (.cons (r4.stp t5 n4) .nil) ((r03.ext x4).but t5.heap n0)
      · exact (List.mem_append.mp m).elim .inl fun m => .inr (o4' a (by simpa using m))
    | more g' r' xs' ys hr0 hi hfr hcl =>
      subst hr0
      rw [if_pos rfl, hgr]
      have hg' := hg g' (.tail _ (.head _))
      refine wpAny_bind (hi.go ⟨A, _, s3, env, FP', [], hr, X3⟩ _ fun u1 s4 fp4 x4 o4 it4 => ?_)
      refine wpAny_bind (wpAny_standAt ?_)
      have has : (g'.is_async != 0) = false := by rw [hg'.1]; rfl
      simp only [has, Bool.false_eq_true, if_false]
      refine wpAny_bind (wpAny_of_eq (hi.fold _ u1) ?_)
      refine wpAny_bind (wpAny_holding (it4 A _ _ hr fun I2 rd2 wr2 gs2 s5 x5 k1 k2 k3 k4 k5 => ?_))
      have lenE : pre.length + 1 = (pre ++ [g]).length := by simp
      have gensE : pre ++ g :: g' :: r' = (pre ++ [g]) ++ g' :: r' := by simp
      have hAm : A.mark none = A := by
        obtain ⟨hd, d, fr, gg, un⟩ := A
        rfl
      have X5 := X3.ext (x4.ext x5)
      have src2 : ∀ a ∈ rd2, Src s3 b' FP' a := fun a m => (k1 a m).1.elim (o4 a) .inl
      have inner : ∀ (Res' : Result → Shared → Prop), (∀ s6 us k f, Stp (WL ++ D :: wr2) gs2 s5 s6 → EnvR c.Pin c.h₀ env ⟨sc, b'⟩ FP' [] s6.heap → s6.heap.get? D = some (lstObj us k) → VRs s6.heap us (l0 ++ x) f → (∀ a ∈ f, a ∈ f0 ∨ Src s5 b' FP' a ∨ (a ∈ rd2 ∧ a ∉ wr2)) → Res' (.ok .next) s6) →
          codeAny (model c.prog c.w) A (.compLoop (.ListComp elt (pre ++ g :: g' :: r') scope pos) (pre.length + 1) (.ref I2) (.ref D) env) Res' s5 := by
        intro Res' hh
        rw [gensE, lenE]
        refine hcl A s5 env FP' (pre ++ [g]) scope pos I2 D rd2 wr2 gs2 WL us0 k0 l0 f0 Res' rfl hr X5 P (fun g'' m => hg g'' (.tail _ m)) (fun x m => by simpa using List.all_eq_true.mp hfr x m) (x5.keep _ _ (x4.keep _ _ hD3)) (r03.ext (x4.ext x5)) (by rw [List.length_append] at hz; omega) (fun a m => ?_) (fun z y' ez m => srcD D (srcB D (.inr ⟨z, y', ez, m⟩)) rfl) hD0 (k4 A hr) (fun a m => ⟨(src2 a m).off (pe := ⟨sc, b'⟩) X3, X3.srcCell (src2 a m), srcD a (srcB a (src2 a m)), (k1 a m).2⟩) (fun a m => ⟨(k2 a m).2, X3.low0 (k2 a m).1⟩) (fun z y' ez a m k => X3.fpo ez m (k2 a k).1) (fun i m => (k3 i m).2) hh
        refine ⟨(hf0 a m).1, (hf0 a m).2.1, fun k => ?_⟩
        obtain ⟨o, e, _⟩ := r03.dom a m
        rw [(k2 a k).1] at e; cases e
      refine wpAny_bind (wpAny_runOwn (h := none) ?_)
      rw [hAm]
      have fin : codeAny (model c.prog c.w) A (.compLoop (.ListComp elt (pre ++ g :: g' :: r') scope pos) (pre.length + 1) (.ref I2) (.ref D) env) (fun r s' => match r with
          | .ok f => wpAny (model c.prog c.w) A (again (.compLoop (.ListComp elt (pre ++ g :: g' :: r') scope pos) pre.length (.ref I) (.ref D) env)) (fun fin s' => match fin with
              | .done f => Res (.ok f) s'
              | .again c' => c'.quiet = true ∧ codeAny (model c.prog c.w) A c' Res s') (notedBy (model c.prog c.w) A env fun e s' => Res (.error e) s') s'
          | .error e => cameBackBy (model c.prog c.w) A env (notedBy (model c.prog c.w) A env fun e s' => Res (.error e) s') e s') s5 := by
        refine inner _ fun s6 us k f t6 X6 hD6 r6 hf6 => ?_
        refine wpAny_pure ⟨rfl, next s6 us k f ?_ (X6.weaken bsub) hD6 r6 fun a m => ?_⟩
        · refine (TD3.ext (x4.ext x5)).trans t6 (fun a m => ?_) fun i m => .inr ?_
          · rcases List.mem_append.mp m with m | m
            · exact .inl (List.mem_append_left _ m)
            · rcases List.mem_cons.mp m with rfl | m
              · exact .inl (List.mem_append_right _ (.head _))
              · exact .inr (new3 a (k2 a m).1)
          · cases e : s1.gens[i]? with
            | none => rfl
            | some gg =>
              have := T3.gens i gg e (by simp)
              rw [(k3 i m).1] at this; cases this
        · rcases hf6 a m with q | q | q
          · exact .inl q
          · exact .inr (srcB a (q.back (x4.ext x5)))
          · exact .inr (srcB a (src2 a q.1))
      exact codeAny_compStart_at (g := g') (by rw [hgr]; rfl) hg'.1 fin (k5 A _ _ _ hr (.refl _ _ _ _) fin)

theorem lookup_mem {α : Type} : ∀ {l : List (PySem.Str × α)} {x : PySem.Str} {a : α}, (x, a) ∈ l → (l.lookup x).isSome = true
  | p :: r, x, a, m => by
    obtain ⟨p1, p2⟩ := p
    rw [List.lookup_cons]
    rcases List.mem_cons.mp m with e | m
    · cases e; simp
    · split
      · rfl
      · exact lookup_mem m
theorem lookup_append {α : Type} : ∀ {l r : List (PySem.Str × α)} {x : PySem.Str}, (l ++ r).lookup x = (l.lookup x).or (r.lookup x)
  | [], r, x => by simp
  | p :: l, r, x => by
    obtain ⟨p1, p2⟩ := p
    rw [List.cons_append, List.lookup_cons, List.lookup_cons]
    split
    · rfl
    · exact lookup_append
theorem cellsFrom_app : ∀ (names : List (PySem.Str × NameKind)) (n : Nat) (acc : List (PySem.Str × Addr)), cellsFrom n names acc = cellsFrom n names [] ++ acc
  | [], n, acc => rfl
  | (x, k) :: r, n, acc => by
    unfold cellsFrom
    split
    · rw [cellsFrom_app r (n + 1) ((x, n) :: acc), cellsFrom_app r (n + 1) [(x, n)]]; simp
    · exact cellsFrom_app r n acc
theorem cellsFrom_mem : ∀ {names : List (PySem.Str × NameKind)} {n : Nat} {acc : List (PySem.Str × Addr)} {x : PySem.Str} {c : Addr}, (x, c) ∈ cellsFrom n names acc → (x, NameKind.cell) ∈ names ∨ (x, c) ∈ acc
  | [], n, acc, x, c, m => .inr m
  | (y, k) :: r, n, acc, x, c, m => by
    unfold cellsFrom at m
    split at m
    · rename_i q
      have q := beq_iff_eq.mp q
      rcases cellsFrom_mem m with m | m
      · exact .inl (.tail _ m)
      · rcases List.mem_cons.mp m with e | m
        · cases e; subst q; exact .inl (.head _)
        · exact .inr m
    · exact (cellsFrom_mem m).imp (.tail _) id
theorem cellsFrom_has : ∀ {names : List (PySem.Str × NameKind)} {n : Nat} {acc : List (PySem.Str × Addr)} {x : PySem.Str}, (x, NameKind.cell) ∈ names → ∃ c, (x, c) ∈ cellsFrom n names acc
  | [], n, acc, x, m => by cases m
  | (y, k) :: r, n, acc, x, m => by
    have keep : ∀ (names : List (PySem.Str × NameKind)) (n : Nat) (acc : List (PySem.Str × Addr)) (p : PySem.Str × Addr), p ∈ acc → p ∈ cellsFrom n names acc := fun names n acc p h => by rw [cellsFrom_app]; exact List.mem_append_right _ h
    unfold cellsFrom
    rcases List.mem_cons.mp m with e | m
    · cases e
      show ∃ c, (y, c) ∈ cellsFrom (n + 1) r ((y, n) :: acc)
      exact ⟨n, keep _ _ _ _ (.head _)⟩
    · split
      · exact cellsFrom_has m
      · exact cellsFrom_has m
section
variable {Pin : List Addr} {prog : Program} {w : World} {h₀ : Heap} {A : Around} {E : PySem.Value → Shared → Prop} {s : Shared} {env : Env} {pe : PE} {sc : Scope} {b : Loc} {FP : PySem.Str → List Addr} {O WL : List Addr}
theorem closure_ok {scope : Scope} (h : ∀ x, (x, NameKind.free) ∈ scope.names → (env.cells.lookup x).isSome = true) :
    ∃ cl, closureFor scope env = pure cl ∧ (∀ x c, (x, c) ∈ cl → env.cells.lookup x = some c) ∧ ∀ x, (x, NameKind.free) ∈ scope.names → (cl.lookup x).isSome = true := by
  unfold closureFor
  generalize scope.names = names at h
  have : ∀ (names : List (PySem.Str × NameKind)) (acc : List (PySem.Str × Addr)), (∀ x, (x, NameKind.free) ∈ names → (env.cells.lookup x).isSome = true) → (∀ x c, (x, c) ∈ acc → env.cells.lookup x = some c) →
      ∃ cl, (forIn names acc fun x r => match x with | (name, kind) => if (kind == NameKind.free) = true then (do let a ← cellOf env name; pure (ForInStep.yield ((name, a) :: r))) else (pure (ForInStep.yield r) : Sem _)) = pure cl ∧ (∀ x c, (x, c) ∈ cl → env.cells.lookup x = some c) ∧
        (∀ x, ((x, NameKind.free) ∈ names ∨ (acc.lookup x).isSome = true) → (cl.lookup x).isSome = true) := by
    intro names
    induction names with
    | nil => intro acc h hacc; exact ⟨acc, rfl, hacc, fun x m => m.elim (by first | exact nn | nofun) id⟩
    | cons p r ih =>
      intro acc h hacc
      obtain ⟨x, k⟩ := p
      by_cases hk : (k == NameKind.free) = true
      · have hk' := beq_iff_eq.mp hk
        subst hk'
        obtain ⟨c, hc⟩ := Option.isSome_iff_exists.mp (h x (.head _))
        obtain ⟨cl, q1, q2, q3⟩ := ih ((x, c) :: acc) (fun y m => h y (.tail _ m)) fun y d m => by
          rcases List.mem_cons.mp m with e | m
          · cases e; exact hc
          · exact hacc y d m
        refine ⟨cl, ?_, q2, fun y m => q3 y ?_⟩
        · rw [List.forIn_cons]
          have : cellOf env x = pure c := by unfold cellOf; rw [hc]
          simp only [hk, if_true, this]
          exact q1
        · rcases m with m | m
          · rcases List.mem_cons.mp m with e | m
            · cases e; exact .inr (by simp)
            · exact .inl m
          · refine .inr ?_
            rw [List.lookup_cons]
            split
            · rfl
            · exact m
      · obtain ⟨cl, q1, q2, q3⟩ := ih acc (fun y m => h y (.tail _ m)) hacc
        refine ⟨cl, ?_, q2, fun y m => q3 y (m.imp (fun m => ?_) id)⟩
        · rw [List.forIn_cons]
          simp only [hk]
          exact q1
        · rcases List.mem_cons.mp m with e | m
          · cases e; simp at hk
          · exact m
  obtain ⟨cl, q1, q2, q3⟩ := this names [] h (by first | exact nn | nofun)
  refine ⟨cl, ?_, q2, fun x m => q3 x (.inl m)⟩
  exact (congrArg (fun m : Sem (List (PySem.Str × Addr)) => m >>= fun cs => pure cs) q1).trans rfl
theorem blockEnv_ok {scope : Scope} {cl : List (PySem.Str × Addr)} (hk : scope.kind = .function) {Q : Env → Shared → Prop}
    (h : ∀ h', (∀ a o, s.heap.get? a = some o → h'.get? a = some o) → h'.Ns s.heap.objs.size (fun _ => none) → CellsOk h' (s.heap.objs.size + 1) (cellsFrom (s.heap.objs.size + 1) scope.names []) →
      Q { scope := scope, locals := s.heap.objs.size, globals := env.globals, cells := cellsFrom (s.heap.objs.size + 1) scope.names [] ++ cl, qual := env.qual, func := none, code := env.code, frame := env.frame, builtins := env.builtins } { s with heap := h' }) :
    wpAny (model prog w) A (newFunctionEnv scope env.globals cl [] env.qual none .none (some env)) Q E s := by
  simp only [newFunctionEnv, Option.isSome_some, if_true]
  refine wpAny_bind (wpAny_alloc ?_)
  refine wpAny_bind (wpAny_layCells _ (fun name kind cells => by cases hkc : kind == NameKind.cell <;> simp) _ _ _ _ ?_)
  have ok := cellsFrom_ok scope.names (s.heap.push { cls := .type "dict", data := .dict #[] }) (s.heap.objs.size + 1) [] ⟨fun _ _ hm => (nomatch hm), List.Pairwise.nil⟩ (by rw [Heap.size_push]; exact Nat.le_refl _)
  rw [Heap.size_push] at ok
  rw [show ({ s with heap := s.heap.push { cls := .type "dict", data := .dict #[] } } : Shared).heap.objs.size = s.heap.objs.size + 1 from Heap.size_push ..]
  refine wpAny_bind (wpAny_pure (wpAny_pure ?_))
  rw [cellsFrom_app]
  exact h _ (fun a o e => pushCells_keeps _ _ _ _ (Heap.get?_push_of_some _ e)) ((Heap.Ns.new s.heap (.type "dict")).keeps (pushCells_keeps _ _)) ok
theorem capB_lookup {sc : Scope} {b : Loc} {x : PySem.Str} {y : V × Sta} (h : (capB sc b).lookup x = some y) : (x, NameKind.free) ∈ sc.names ∧ ∃ z, b.lookup x = some z ∧ y = (z.1, .view) := by
  unfold capB at h
  generalize sc.names = names at h
  induction names with
  | nil => simp at h
  | cons p r ih =>
    obtain ⟨p1, p2⟩ := p
    rw [List.filterMap_cons] at h
    by_cases hk : (p2 == NameKind.free) = true
    · simp only [hk, if_true] at h
      cases hb : b.lookup p1 with
      | none =>
        rw [hb] at h
        simp only [Option.map_none] at h
        obtain ⟨a, c⟩ := ih h
        exact ⟨.tail _ a, c⟩
      | some z =>
        rw [hb] at h
        simp only [Option.map_some] at h
        rw [List.lookup_cons] at h
        split at h
        · rename_i q
          cases h
          have q := beq_iff_eq.mp q
          subst q
          rw [beq_iff_eq.mp hk]
          exact ⟨.head _, z, hb, rfl⟩
        · obtain ⟨a, c⟩ := ih h
          exact ⟨.tail _ a, c⟩
    · simp only [hk] at h
      obtain ⟨a, c⟩ := ih (by simpa using h)
      exact ⟨.tail _ a, c⟩
theorem relab_lookup {sc outer : Scope} {x : PySem.Str} : (relab sc outer).names.lookup x = (sc.names.lookup x).map fun k => if (k == .free && outer.kind == .function && outer.names.lookup x == some .cell) then .cell else k := by
  unfold relab
  dsimp only
  generalize sc.names = names
  induction names with
  | nil => rfl
  | cons p r ih =>
    obtain ⟨p1, p2⟩ := p
    rw [List.map_cons]
    by_cases q : x = p1
    · subst q
      have hl : List.lookup x ((x, p2) :: r) = some p2 := by simp
      rw [hl]
      simp only [Option.map_some]
      by_cases q : (p2 == NameKind.free && outer.kind == ScopeKind.function && List.lookup x outer.names == some NameKind.cell) = true
      · rw [if_pos q, if_pos q]; exact List.lookup_cons_self ..
      · rw [if_neg q, if_neg q]; exact List.lookup_cons_self ..
    · have q : (x == p1) = false := by simpa using q
      dsimp only
      split <;> (rw [List.lookup_cons, List.lookup_cons, q]; exact ih)
structure CompOk (sc : Scope) (pe : PE) (g : Comprehension) (r : List Comprehension) : Prop where
  gens : ∀ g' ∈ g :: r, g'.is_async = 0 ∧ ∀ x ∈ tNames g'.target, x ≠ ("self" : PySem.Str) ∧ (sc.names.lookup x = some .local ∨ sc.names.lookup x = some .cell)
  kind : sc.kind = .function
  self : sc.names.lookup ("self" : PySem.Str) ≠ some .local
  free0 : ∀ x ∈ tNames g.target, (capB sc pe.b).lookup x = none
  loc : ∀ x, (x, NameKind.local) ∈ sc.names → sc.names.lookup x = some .local
  cell : ∀ x, (x, NameKind.cell) ∈ sc.names → sc.names.lookup x = some .cell
  free : ∀ x, (x, NameKind.free) ∈ sc.names → sc.names.lookup x = some .free ∧ (pe.b.lookup x).isSome = true ∧ (pe.sc.names.lookup x = some .cell ∨ pe.sc.names.lookup x = some .free)
theorem compOk_iff {sc : Scope} {pe : PE} {g : Comprehension} {r : List Comprehension} (h : compOk sc pe g r = true) : CompOk sc pe g r := by
  unfold compOk at h
  simp only [Bool.and_eq_true] at h
  obtain ⟨⟨⟨⟨h1, h2⟩, h0⟩, h3⟩, h4⟩ := h
  have h4 := List.all_eq_true.mp h4
  refine ⟨fun g' m => ?_, beq_iff_eq.mp h2, by simpa using h0, fun x m => by simpa using List.all_eq_true.mp h3 x m, fun x m => ?_, fun x m => ?_, fun x m => ?_⟩
  · have := List.all_eq_true.mp h1 g' m
    rw [Bool.and_eq_true] at this
    refine ⟨beq_iff_eq.mp this.1, fun x m' => ?_⟩
    have := List.all_eq_true.mp this.2 x m'
    unfold ownName at this
    rw [Bool.and_eq_true, Bool.or_eq_true, beq_iff_eq, beq_iff_eq] at this
    exact ⟨by simpa using this.1, this.2⟩
  · have := h4 _ m
    simpa using this
  · have := h4 _ m
    simpa using this
  · have := h4 _ m
    simp only [Bool.and_eq_true, Bool.or_eq_true, bne_iff_ne, ne_eq, beq_iff_eq, not_true_eq_false, false_or] at this
    exact ⟨this.2.1.1, this.2.1.2, this.2.2⟩
end
theorem comp_core {κ : Cx} {pe : PE} {g : Comprehension} {r : List Comprehension} {elt : Expr} {scope : Scope} {pos p : Pos} {xs l : List V} (t : At κ pe) (ck : compOk scope pe g r = true)
    (e1 : EiTo κ pe g.iter xs) (e2 : CsTo κ (relab scope pe.sc) (capB scope pe.b) g r elt xs l) (hz : l.length ≤ 1000000) {use : Option (PySem.Value → Sem Unit)} {Q : PySem.Value → Shared → Prop}
    (h : ∀ D C f s', Ext t.s s' → t.s.heap.get? D = none → t.s.heap.get? C = none → D ≠ C → VR s'.heap (.ref D) (.lst l) (D :: f) → (∀ a ∈ f, Src t.s pe.b t.FP a ∧ a ≠ C ∧ a ≠ D) → (∃ m, s'.heap.Ns C m) → compPost t.M t.A t.E use Q (.ref D) C (.ok .next) s') :
    wpAny t.M t.A (comprehension (.ListComp elt (g :: r) scope pos) scope t.env p (newList []) false (eval g.iter t.env) use) Q t.E t.s := by
  obtain ⟨A, E, s, env, FP, O, hr, X⟩ := t
  dsimp only at h ⊢
  have C := compOk_iff ck
  have kinds : ∀ x, (x, NameKind.free) ∈ scope.names → (env.kindOf x = some .cell ∨ (env.kindOf x = some .free ∧ (x == ("__classdict__" : PySem.Str)) = false)) ∧ (env.cells.lookup x).isSome = true := fun x m => by
    obtain ⟨c1, c2, c3⟩ := C.free x m
    obtain ⟨y, hy⟩ := Option.isSome_iff_exists.mp c2
    rcases X.kinds x y hy with q | q
    · exfalso
      have q : env.scope.names.lookup x = some .local := q
      rw [X.sc] at q
      rcases c3 with c3 | c3 <;> (rw [c3] at q; cases q)
    · exact q
  obtain ⟨cl, k1, k2, k3⟩ := closure_ok (env := env) (scope := scope) fun x m => (kinds x m).2
  refine wpAny_comprehension_free (g := g) (gs := r) rfl (e1.fold _) k1 C.kind (fun x m q => ?_) ?_
  · obtain ⟨x, k⟩ := x
    dsimp only at q
    subst q
    exact C.loc x m
  refine e1.go ⟨A, E, s, env, FP, O, hr, X⟩ _ fun u s1 fp1 x1 o1 it1 => ?_
  refine it1 A E _ hr fun I rd wr gs s2 x2 j1 j2 j3 j4 j5 => ?_
  have X2 := X.ext (x1.ext x2)
  have hgr : ∀ a o, s2.heap.get? a = some o → a < s2.heap.objs.size := fun a o e => Heap.lt_size e
  refine wpAny_newObj_type ?_
  have x3 : Ext s2 { s2 with heap := s2.heap.push (lstObj [] 0) } := .push s2 _ _
  refine blockEnv_ok (s := { s2 with heap := s2.heap.push (lstObj [] 0) }) C.kind fun h' kp hns hcs => ?_
  dsimp only at kp hns hcs ⊢
  have sz : (s2.heap.push (lstObj [] 0)).objs.size = s2.heap.objs.size + 1 := Heap.size_push ..
  rw [sz] at hns hcs ⊢
  generalize hs4 : ({ s2 with heap := h' } : Shared) = s4
  have x4 : Ext { s2 with heap := s2.heap.push (lstObj [] 0) } s4 := by subst hs4; exact .of_heap (tk := s2.toks) kp
  have x24 : Ext s2 s4 := x3.ext x4
  have x04 : Ext s s4 := (x1.ext x2).ext x24
  have hD4 : s4.heap.get? s2.heap.objs.size = some (lstObj [] 0) := x4.keep _ _ (Heap.get?_push_size _ rfl)
  have hh' : s4.heap = h' := by rw [← hs4]
  rw [← hh'] at hns hcs
  have newC : ∀ a, s2.heap.objs.size ≤ a → s2.heap.get? a = none := fun a q => get_none_of_ge q
  have h0n : ∀ a, s2.heap.get? a = none → κ.h₀.get? a = none := fun a q => by
    cases e : κ.h₀.get? a with
    | none => rfl
    | some o => have := X2.low a o e; rw [q] at this; cases this
  generalize hcn : cellsFrom (s2.heap.objs.size + 1 + 1) scope.names [] = cn at hcs ⊢
  have cnk : ∀ x c, (x, c) ∈ cn → scope.names.lookup x = some .cell := fun x c m => by
    rw [← hcn] at m
    exact C.cell x ((cellsFrom_mem m).elim id (by first | exact nn | nofun))
  have lookC : ∀ x c, (cn ++ cl).lookup x = some c → (((x, c) ∈ cn ∧ s4.heap.IsCell c none ∧ s2.heap.objs.size + 1 + 1 ≤ c) ∨ (env.cells.lookup x = some c ∧ cn.lookup x = none)) := fun x c e => by
    rw [lookup_append] at e
    cases q : cn.lookup x with
    | some c' =>
      rw [q] at e; cases e
      have m := mem_of_lookup q
      obtain ⟨a1, a2⟩ := hcs.empty _ _ m
      exact .inl ⟨m, a1, a2⟩
    | none =>
      rw [q] at e
      exact .inr ⟨k2 _ _ (mem_of_lookup e), rfl⟩
  have relE : relabel scope env = relab scope pe.sc := by
    unfold relabel relab Env.kindOf
    rw [X.sc]
  generalize henv : ({ scope := relabel scope env, locals := s2.heap.objs.size + 1, globals := env.globals, cells := cn ++ cl, qual := env.qual, func := none, code := env.code, frame := env.frame, builtins := env.builtins } : Env) = cenv
  have cap : ∀ x y, (capB scope pe.b).lookup x = some y → ∃ z, pe.b.lookup x = some z ∧ y = (z.1, Sta.view) ∧ scope.names.lookup x = some .free ∧ cn.lookup x = none ∧ (env.cells.lookup x).isSome = true ∧ env.kindOf x ≠ some .local ∧ (x, NameKind.free) ∈ scope.names := fun x y e => by
    obtain ⟨m, z, e1, e2⟩ := capB_lookup e
    have hf := (C.free x m).1
    refine ⟨z, e1, e2, hf, ?_, (kinds x m).2, ?_, m⟩
    · cases q : cn.lookup x with
      | none => rfl
      | some c =>
        have := cnk x c (mem_of_lookup q)
        rw [hf] at this; cases this
    · rcases (kinds x m).1 with q | ⟨q, _⟩ <;> (rw [q]; decide)
  have cellAt : ∀ x, (x, NameKind.free) ∈ scope.names → cn.lookup x = none → ((cn ++ cl).lookup x).isSome = true := fun x m q => by
    rw [lookup_append, q]; exact k3 x m
  have X4 : EnvR κ.Pin κ.h₀ cenv ⟨relab scope pe.sc, capB scope pe.b⟩ FP [] s4.heap := by
    subst henv
    refine ⟨relE, C.kind, X.glo, X.blt, (X2.ext x24).low, h0n _ (newC _ (Nat.le_succ _)), ⟨_, hns, fun x y e k => ?_⟩, fun x c e => ?_, fun x y e => ?_, fun x x' c e e' => ?_, fun x y e a m => ?_, fun x v e => ?_, fun x v e => ?_, fun x v x' v' ne e => ?_, by first | exact nn | nofun, fun k a ha => ?_⟩
    · obtain ⟨z, c1, c2, c3, _⟩ := cap x y e
      have k : (relabel scope env).names.lookup x = some .local := k
      rw [relE, relab_lookup, c3] at k
      simp only [Option.map_some] at k
      split at k <;> cases k
    · rcases lookC x c e with ⟨q1, q2, q3⟩ | ⟨q1, q2⟩
      · refine ⟨h0n c (newC c (by omega)), none, q2, fun y ey k => ?_⟩
        obtain ⟨z, c1, c2, c3, c4, _⟩ := cap x y ey
        have := cnk x c q1
        rw [c3] at this; cases this
      · obtain ⟨a1, wv, a2, a3⟩ := (X2.ext x24).cells x c q1
        refine ⟨a1, wv, a2, fun y ey k => ?_⟩
        obtain ⟨z, c1, c2, c3, c4, c5, c6, _⟩ := cap x y ey
        subst c2
        exact a3 z c1 c6
    · obtain ⟨z, c1, c2, c3, c4, c5, c6, c7⟩ := cap x y e
      refine .inr ⟨?_, cellAt x c7 c4⟩
      have kk : ∀ (en : Env), en.scope = relabel scope env → en.kindOf x = some (if (NameKind.free == .free && pe.sc.kind == .function && pe.sc.names.lookup x == some .cell) then .cell else .free) := fun en he => by
        show en.scope.names.lookup x = _
        rw [he, relE, relab_lookup, c3]; rfl
      rw [kk _ rfl]
      rcases (kinds x c7).1 with q | ⟨q, q'⟩
      · have q : env.scope.names.lookup x = some .cell := q
        rw [X.sc] at q
        left
        rw [q, X.kind]; rfl
      · have q : env.scope.names.lookup x = some .free := q
        rw [X.sc] at q
        right
        rw [q]
        exact ⟨by rw [if_neg (by simp)], q'⟩
    · rcases lookC x c e with ⟨q1, q2, q3⟩ | ⟨q1, q2⟩ <;> rcases lookC x' c e' with ⟨q1', q2', q3'⟩ | ⟨q1', q2'⟩
      · exact name_of_addr hcs.apart q1 q1'
      · obtain ⟨_, wv, ⟨o, e5, _⟩, _⟩ := X2.cells x' c q1'
        first | exact absurd (hgr c o e5) (Nat.not_lt.mpr (Nat.le_of_succ_le (Nat.le_of_succ_le q3'))) | exact absurd (hgr c o e5) (Nat.not_lt.mpr (Nat.le_of_succ_le (Nat.le_of_succ_le q3)))
      · obtain ⟨_, wv, ⟨o, e5, _⟩, _⟩ := X2.cells x c q1
        first | exact absurd (hgr c o e5) (Nat.not_lt.mpr (Nat.le_of_succ_le (Nat.le_of_succ_le q3'))) | exact absurd (hgr c o e5) (Nat.not_lt.mpr (Nat.le_of_succ_le (Nat.le_of_succ_le q3)))
      · exact X.apartC x x' c q1 q1'
    · obtain ⟨z, c1, _⟩ := cap x y e
      rintro rfl
      obtain ⟨o, e, _⟩ := X2.fpd c1 m
      exact absurd (hgr _ o e) (Nat.not_lt.mpr (Nat.le_succ _))
    · obtain ⟨z, _, c2, _⟩ := cap x _ e; cases c2
    · obtain ⟨z, _, c2, _⟩ := cap x _ e; cases c2
    · obtain ⟨z, _, c2, _⟩ := cap x _ e; cases c2
    · exfalso
      have k : (relabel scope env).names.lookup ("self" : PySem.Str) = some .local := k
      rw [relE, relab_lookup] at k
      obtain ⟨k0, e0, e1⟩ := Option.map_eq_some_iff.mp k
      split at e1
      · cases e1
      · subst e1; exact C.self e0
  have srcEx : ∀ z y', pe.b.lookup z = some y' → ∀ a ∈ FP z, ∃ o, s2.heap.get? a = some o := fun z y' ez a m => (X2.fpd ez m).imp fun o e => e.1
  have loc4 : cenv.locals = s2.heap.objs.size + 1 := by rw [← henv]
  have cel4 : cenv.cells = cn ++ cl := by rw [← henv]
  generalize hWL : cenv.locals :: cn.filterMap (fun p => cn.lookup p.1) = WL
  have wl : ∀ a ∈ WL, a = cenv.locals ∨ ∃ x, cn.lookup x = some a := fun a m => by
    rw [← hWL] at m
    rcases List.mem_cons.mp m with rfl | m
    · exact .inl rfl
    · obtain ⟨⟨x, c⟩, _, q⟩ := List.mem_filterMap.mp m
      exact .inr ⟨x, q⟩
  have PL : Pls cenv WL := fun a m => by
    rcases wl a m with rfl | ⟨x, q⟩
    · exact .inl rfl
    · exact .inr ⟨x, a, by rw [cel4, lookup_append, q]; rfl, rfl⟩
  have wlNew : ∀ a ∈ WL, s2.heap.objs.size + 1 ≤ a := fun a m => by
    rcases wl a m with rfl | ⟨x, q⟩
    · rw [loc4]; exact Nat.le_refl _
    · exact Nat.le_of_succ_le (hcs.empty _ _ (mem_of_lookup q)).2
  have bnd : ∀ x, x ≠ ("self" : PySem.Str) ∧ (scope.names.lookup x = some .local ∨ scope.names.lookup x = some .cell) → Bnd cenv WL x := fun x ⟨q0, q⟩ => by
    refine ⟨q0, ?_⟩
    have kk : cenv.kindOf x = (relab scope pe.sc).names.lookup x := by
      show cenv.scope.names.lookup x = _
      rw [← henv, ← relE]
    rcases q with q | q
    · left
      rw [kk, relab_lookup, q]
      exact ⟨rfl, by rw [← hWL]; exact .head _⟩
    · right
      rw [kk, relab_lookup, q]
      refine ⟨rfl, ?_⟩
      obtain ⟨c, m⟩ := cellsFrom_has (n := s2.heap.objs.size + 1 + 1) (acc := []) (mem_of_lookup q)
      rw [hcn] at m
      obtain ⟨c', hc'⟩ := Option.isSome_iff_exists.mp (lookup_mem m)
      refine ⟨c', by rw [cel4, lookup_append, hc']; rfl, ?_⟩
      rw [← hWL]
      exact .tail _ (List.mem_filterMap.mpr ⟨(x, c), m, hc'⟩)
  have rdLt : ∀ a ∈ rd, a < s2.heap.objs.size := fun a m => by obtain ⟨o, e⟩ := (j1 a m).2; exact hgr a o e
  have notOld : ∀ a, s2.heap.objs.size ≤ a → s.heap.get? a = none := fun a q => back (x1.ext x2) (newC a q)
  have srcCell : ∀ a ∈ rd, ∀ x c, env.cells.lookup x = some c → a ≠ c := fun a m => X.srcCell ((j1 a m).1.elim (o1 a) .inl)
  have fin : codeAny (model κ.prog κ.w) A (.compLoop (.ListComp elt (g :: r) scope pos) 0 (.ref I) (.ref s2.heap.objs.size) cenv) (compPost (model κ.prog κ.w) A E use Q (.ref s2.heap.objs.size) (s2.heap.objs.size + 1)) s4 := by
    refine ClTo.of e2 A s4 cenv FP [] scope pos I s2.heap.objs.size rd wr gs WL [] 0 [] [] _ rfl hr X4 PL (fun g' m => ⟨(C.gens g' m).1, fun x m' => bnd x ((C.gens g' m).2 x m')⟩) C.free0 hD4 .nil (by simpa using hz) (by first | exact nn | nofun) (fun x y e m => ?_) (h0n _ (newC _ (Nat.le_refl _))) ((j4 A hr).agr (.ext x24)) (fun a m => ⟨?_, fun x c e => ?_, ?_, ?_⟩) (fun a m => ⟨(j2 a m).2, ?_⟩) (fun x y e a m k => ?_) (fun i m => ?_) fun s6 us k f t6 X6 hD6 r6 hf6 => ?_
    · obtain ⟨z, c1, _⟩ := cap x y e
      obtain ⟨o, e⟩ := srcEx x z c1 _ m
      exact absurd (hgr _ o e) (Nat.lt_irrefl _)
    · rw [loc4]; exact Nat.ne_of_lt (Nat.lt_succ_of_lt (rdLt a m))
    · rw [cel4] at e
      rcases lookC x c e with ⟨q1, q2, q3⟩ | ⟨q1, q2⟩
      · exact Nat.ne_of_lt (Nat.lt_of_lt_of_le (rdLt a m) (Nat.le_of_succ_le (Nat.le_of_succ_le q3)))
      · exact srcCell a m x c q1
    · exact Nat.ne_of_lt (rdLt a m)
    · obtain ⟨o, e⟩ := (j1 a m).2
      exact ⟨o, x24.keep a o e⟩
    · exact X.low0 (j2 a m).1
    · obtain ⟨z, c1, _⟩ := cap x y e
      exact X.fpo c1 m (j2 a k).1
    · obtain ⟨gg, e⟩ := (j3 i m).2
      exact ⟨gg, x24.gens i gg e (by simp)⟩
    · have srcF : ∀ a ∈ f, Src s pe.b FP a ∧ a ≠ s2.heap.objs.size + 1 ∧ a ≠ s2.heap.objs.size := fun a m => by
        have off : a ≠ s2.heap.objs.size + 1 ∧ a ≠ s2.heap.objs.size := by
          rcases hf6 a m with q | q | q
          · cases q
          · rcases q with q | ⟨z, y', e, m⟩
            · constructor
              · rintro rfl
                obtain ⟨o, e⟩ := X4.loc_dom
                rw [loc4, q] at e; cases e
              · rintro rfl; rw [hD4] at q; cases q
            · obtain ⟨z', c1, _⟩ := cap z y' e
              obtain ⟨o, e⟩ := srcEx z z' c1 a m
              exact ⟨Nat.ne_of_lt (Nat.lt_succ_of_lt (hgr a o e)), Nat.ne_of_lt (hgr a o e)⟩
          · exact ⟨Nat.ne_of_lt (Nat.lt_succ_of_lt (rdLt a q.1)), Nat.ne_of_lt (rdLt a q.1)⟩
        refine ⟨?_, off⟩
        rcases hf6 a m with q | q | q
        · cases q
        · rcases q with q | ⟨z, y', e, m⟩
          · exact .inl (back x04 q)
          · obtain ⟨z', c1, _⟩ := cap z y' e
            exact .inr ⟨z, z', c1, m⟩
        · exact (j1 a q.1).1.elim (o1 a) .inl
      refine h _ _ f s6 ?_ (notOld _ (Nat.le_refl _)) (notOld _ (Nat.le_succ _)) (Nat.ne_of_lt (Nat.lt_succ_self _)) (.lst hD6 r6) srcF ?_
      · refine x04.trans t6 (fun a m => .inr ?_) fun i m => .inr (j3 i m).1
        rcases List.mem_append.mp m with m | m
        · exact notOld a (Nat.le_of_succ_le (wlNew a m))
        · rcases List.mem_cons.mp m with rfl | m
          · exact notOld _ (Nat.le_refl _)
          · exact (j2 a m).1
      · obtain ⟨m', hm', _⟩ := X6.ns
        rw [loc4] at hm'
        exact ⟨m', hm'⟩
  refine codeAny_compStart_at (g := g) rfl (C.gens g (.head _)).1 fin (j5 A _ _ _ hr (.ext x24) fin)
theorem comp_head {sc : Scope} {pe : PE} {g : Comprehension} {r : List Comprehension} {env : Env} (ck : compOk sc pe g r = true) : firstAsync (g :: r) = false ∧ firstIter (g :: r) env = eval g.iter env := by
  have := ((compOk_iff ck).gens _ (.head _)).1
  obtain ⟨t, i, f, a⟩ := g
  dsimp only at this
  subst this
  exact ⟨rfl, rfl⟩
theorem EvTo.comp {κ : Cx} {pe : PE} {g : Comprehension} {r : List Comprehension} {elt : Expr} {scope : Scope} {p : Pos} {xs l : List V} {fr : Bool} (ck : compOk scope pe g r = true) (e1 : EiTo κ pe g.iter xs) (e2 : CsTo κ (relab scope pe.sc) (capB scope pe.b) g r elt xs l) (hz : l.length ≤ 1000000) (hf : fr = true → flatVs l = true) :
    EvTo κ pe (.ListComp elt (g :: r) scope p) (.lst l) fr := fun t Q h => by
  rw [eval_ListComp, (comp_head (env := t.env) ck).1, (comp_head (env := t.env) ck).2]
  refine comp_core (use := none) t ck e1 e2 hz fun D C f s' x dN cN dc rv sf hm => ?_
  obtain ⟨m, hm⟩ := hm
  refine ⟨m, hm, fun h' hs => h _ _ ?_⟩
  have st : Stp [C] [] s' { s' with heap := h' } := .of_same (tk := s'.toks) hs fun o e => by obtain ⟨o', es, ep, e1, e2, _⟩ := hm; rw [e] at e1; cases e1; exact fixed_dict e2
  refine ⟨D :: f, x.trans st (fun a m => .inr (by rw [List.mem_singleton.mp m]; exact cN)) (by first | exact nn | nofun), rv.stp st fun a m k => ?_, fun a m => ?_, fun q => ?_⟩
  · have k := List.mem_singleton.mp k
    rcases List.mem_cons.mp m with rfl | m
    · exact dc k
    · exact (sf a m).2.1 k
  · rcases List.mem_cons.mp m with rfl | m
    · exact .inl dN
    · exact (sf a m).1
  · have : f = [] := by
      cases rv with
      | lst _ rv => exact flats_nil rv (hf q)
    subst this
    exact ⟨List.nodup_cons.mpr ⟨by simp, .nil⟩, fun a m => by rw [List.mem_singleton.mp m]; exact dN⟩

inductive Fl where
  | next | brk | cont
  | ret (v : V)
noncomputable def noView (b : Loc) : Bool := b.all fun p => p.2.2 != .view
noncomputable def setF (fs : List (PySem.Str × V)) (a : PySem.Str) (u : V) : List (PySem.Str × V) := match fs with
  | [] => [(a, u)]
  | p :: r => if a == p.1 then (a, u) :: r else p :: setF r a u
theorem setF_c (p : PySem.Str × V) (r : List (PySem.Str × V)) (a : PySem.Str) (u : V) : setF (p :: r) a u = if a == p.1 then (a, u) :: r else p :: setF r a u := rfl
structure Frm (env : Env) (sc : Scope) (WL : List Addr) : Prop where
  pls : Pls env WL
  bnd : ∀ x, ownName sc x = true → Bnd env WL x
noncomputable def FlP (s s' : Shared) (O' : List Addr) : Fl → Flow → Prop
  | .next, .next => True
  | .brk, .brk => True
  | .cont, .cont => True
  | .ret v, .ret u => ∃ fp, VR s'.heap u v fp ∧ fp.Nodup ∧ ∀ a ∈ fp, a ∈ O' ∨ s.heap.get? a = none
  | _, _ => False
structure StP (Pin : List Addr) (h₀ : Heap) (env : Env) (sc : Scope) (b : Loc) (FP : PySem.Str → List Addr) (O WL : List Addr) (s : Shared) (b' : Loc) (s' : Shared) (FP' : PySem.Str → List Addr) (O' : List Addr) : Prop where
  env : EnvR Pin h₀ env ⟨sc, b'⟩ FP' O' s'.heap
  stp : Stp (WL ++ O) [] s s'
  dom : ∀ a o, s.heap.get? a = some o → ∃ o', s'.heap.get? a = some o'
  own : ∀ a ∈ O', a ∈ O ∨ s.heap.get? a = none
  src : ∀ x z, b'.lookup x = some z → ∀ a ∈ FP' x, Src s b FP a
section
variable {Pin : List Addr} {h₀ : Heap} {A : Around} {E : PySem.Value → Shared → Prop} {s s1 s2 : Shared} {env : Env} {pe : PE} {sc : Scope} {b b1 b2 : Loc} {FP FP1 FP2 : PySem.Str → List Addr} {O O1 O2 WL : List Addr}
theorem newBack {s s' : Shared} (d : ∀ a o, s.heap.get? a = some o → ∃ o', s'.heap.get? a = some o') {a : Addr} (e : s'.heap.get? a = none) : s.heap.get? a = none := by
  cases q : s.heap.get? a with
  | none => rfl
  | some o =>
    obtain ⟨o', q'⟩ := d a o q
    rw [e] at q'; cases q'
theorem Ext.dom {s s' : Shared} (x : Ext s s') : ∀ a o, s.heap.get? a = some o → ∃ o', s'.heap.get? a = some o' := fun a o e => ⟨o, x.keep a o e⟩
theorem StP.refl (X : EnvR Pin h₀ env ⟨sc, b⟩ FP O s.heap) : StP Pin h₀ env sc b FP O WL s b s FP O := ⟨X, .refl _ _ _, fun a o e => ⟨o, e⟩, fun a m => .inl m, fun x z e a m => .inr ⟨x, z, e, m⟩⟩
theorem StP.ext (X : EnvR Pin h₀ env ⟨sc, b⟩ FP O s.heap) (x : Ext s s1) : StP Pin h₀ env sc b FP O WL s b s1 FP O := ⟨X.ext x, x.mono (by first | exact nn | nofun) (by first | exact nn | nofun), x.dom, fun a m => .inl m, fun x z e a m => .inr ⟨x, z, e, m⟩⟩
theorem StP.trans (p : StP Pin h₀ env sc b FP O WL s b1 s1 FP1 O1) (q : StP Pin h₀ env sc b1 FP1 O1 WL s1 b2 s2 FP2 O2) : StP Pin h₀ env sc b FP O WL s b2 s2 FP2 O2 where
  env := q.env
  stp := p.stp.trans q.stp (fun a m => by
    rcases List.mem_append.mp m with m | m
    · exact .inl (List.mem_append_left _ m)
    · exact (p.own a m).imp (fun m => List.mem_append_right _ m) id) (by first | exact nn | nofun)
  dom := fun a o e => by obtain ⟨o', e'⟩ := p.dom a o e; exact q.dom a o' e'
  own := fun a m => by
    rcases q.own a m with m | m
    · exact p.own a m
    · exact .inr (newBack p.dom m)
  src := fun x z e a m => by
    rcases q.src x z e a m with k | ⟨y, z', e', m'⟩
    · exact .inl (newBack p.dom k)
    · exact p.src y z' e' a m'
theorem FlP.back {s s1 s' : Shared} {O' : List Addr} {fl : Fl} {f : Flow} (d : ∀ a o, s.heap.get? a = some o → ∃ o', s1.heap.get? a = some o') (h : FlP s1 s' O' fl f) : FlP s s' O' fl f := by
  cases fl <;> cases f <;> first | exact h | skip
  obtain ⟨fp, r, nd, m⟩ := h
  exact ⟨fp, r, nd, fun a k => (m a k).imp id (newBack d)⟩
end
noncomputable def Slot (s : Shared) (env : Env) (x : PySem.Str) (u : PySem.Value) : Prop := (env.kindOf x = some .local ∧ ∃ m, s.heap.Ns env.locals m ∧ m x = some u) ∨ (env.kindOf x ≠ some .local ∧ ∃ c, env.cells.lookup x = some c ∧ s.heap.IsCell c (some u))
section
variable {Pin : List Addr} {prog : Program} {w : World} {h₀ : Heap} {A : Around} {E : PySem.Value → Shared → Prop} {s : Shared} {env : Env} {pe : PE} {sc : Scope} {b b1 : Loc} {FP : PySem.Str → List Addr} {O WL : List Addr}
theorem EnvR.slot (X : EnvR Pin h₀ env pe FP O s.heap) {x : PySem.Str} {y : V × Sta} (e : pe.b.lookup x = some y) : ∃ u, Slot s env x u ∧ VR s.heap u y.1 (FP x) := by
  by_cases k : env.kindOf x = some .local
  · obtain ⟨m, hm, hv⟩ := X.ns
    obtain ⟨u, hu, r⟩ := hv x y e k
    exact ⟨u, .inl ⟨k, m, hm, hu⟩, r⟩
  · rcases X.kinds x y e with q | ⟨_, hc⟩
    · exact absurd q k
    · obtain ⟨c, hc⟩ := Option.isSome_iff_exists.mp hc
      obtain ⟨_, wv, hw, hh⟩ := X.cells x c hc
      obtain ⟨u, rfl, r⟩ := hh y e k
      exact ⟨u, .inr ⟨k, c, hc, hw⟩, r⟩
theorem Slot.ext {s s' : Shared} {x : PySem.Str} {u : PySem.Value} (h : Slot s env x u) (e : Ext s s') : Slot s' env x u := by
  rcases h with ⟨k, m, hm, hu⟩ | ⟨k, c, hc, hw⟩
  · exact .inl ⟨k, m, hm.keeps e.keep, hu⟩
  · exact .inr ⟨k, c, hc, hw.keeps e.keep⟩
theorem name_ok (X : EnvR Pin h₀ env ⟨sc, b⟩ FP O s.heap) {x : PySem.Str} {y : V × Sta} (e : b.lookup x = some y) (hd : (x == ("__debug__" : PySem.Str)) = false) (p : Pos) {Q : PySem.Value → Shared → Prop} (h : ∀ u, Slot s env x u → VR s.heap u y.1 (FP x) → Q u s) : wpAny (model prog w) A (eval (.Name x p) env) Q E s := by
  have hk : env.scope.kind = .function := X.kindF
  refine wpAny_Name ?_ hd
  obtain ⟨u, sl, r⟩ := X.slot e
  have := h u sl r
  rcases id sl with ⟨k, m, hm, hu⟩ | ⟨k, c, hc, hw⟩
  · exact wpAny_loadName_local hk k hm hu this
  · rcases X.kinds x y e with q | ⟨q, _⟩
    · exact absurd q k
    · rcases q with q | ⟨q, q'⟩
      · exact wpAny_loadName_cell hk q hc hw this
      · exact wpAny_loadName_free hk q hc hw this q'
theorem EnvR.mutY {s1 s2 s3 : Shared} {x : PySem.Str} {v v' : V} {u : PySem.Value} {W fp' Y : List Addr} (hb : ∀ z w, b1.lookup z = some w → b.lookup z = some w ∧ w.2 ≠ .view) (hY : ∀ a ∈ Y, h₀.get? a = none ∧ a ≠ env.locals ∧ ∀ z w, z ≠ x → b1.lookup z = some w → a ∉ FP z) (X1 : EnvR Pin h₀ env ⟨sc, b⟩ FP O s1.heap) (x12 : Ext s1 s2) (e : b.lookup x = some (v, .own)) (sl : Slot s2 env x u) (t : Stp W [] s2 s3) (hW : ∀ a ∈ W, a ∈ FP x) (r : VR s3.heap u v' fp') (nd : fp'.Nodup)
    (hf : ∀ a ∈ fp', (a ∈ FP x ∨ s1.heap.get? a = none) ∨ a ∈ Y) : EnvR Pin h₀ env ⟨sc, setL b1 x v' .own⟩ (setFP FP x fp') (O ++ fp') s3.heap := by
  have X := X1.ext x12
  have X' : EnvR Pin h₀ env ⟨sc, b1⟩ FP O s2.heap := X.weaken fun y z q => ⟨(hb _ _ q).1, rfl⟩
  have ex : ∀ y z, b.lookup y = some z → ∀ a ∈ FP y, ∃ o, s2.heap.get? a = some o ∧ fixedObj o = false ∧ ∀ c, o.data ≠ .cell c := fun y z q a m => by
    obtain ⟨u', _, r'⟩ := X.slot q
    exact r'.dom a m
  have apartW : ∀ y z, y ≠ x → b1.lookup y = some z → ∀ a ∈ FP y, a ∉ FP x := fun y z ne q a m k => by
    obtain ⟨q1, q2⟩ := hb _ _ q
    obtain ⟨z1, z2⟩ := z
    cases z2 with
    | own => exact X.apart y z1 x v ne q1 e a m k
    | frz => exact X.frz y z1 q1 a m ((X.own x v e).2 a k)
    | view => exact q2 rfl
  refine X'.set (st := .own) r (fun a m => ?_) ⟨nd, fun a m => ?_, fun y z ne q _ a m k => ?_⟩ (X.kinds x _ e) (fun a o q => t.heap a o (X.low a o q) (.inr fun k => ?_)) (fun k a ha => ?_) (fun y z ne q u' r' => r'.stp t fun a m k => apartW y z ne q a m (hW a k)) ?_ fun y c wv q1 q2 => ?_
  · rcases hf a m with (q | q) | q
    · exact X.off x _ e a q
    · exact X1.ne_new q
    · exact (hY a q).2.1
  · rcases hf a m with (q | q) | q
    · exact (X.newO a ((X.own x v e).2 a q)).1
    · cases q' : h₀.get? a with
      | none => rfl
      | some o => have := X1.low a o q'; rw [q] at this; cases this
    · exact (hY a q).1
  · rcases hf a m with (q' | q') | q'
    · exact apartW y z ne q a k q'
    · obtain ⟨u', _, r'⟩ := X1.slot (hb _ _ q).1
      obtain ⟨o, q'', _⟩ := r'.dom a k
      rw [q'] at q''; cases q''
    · exact (hY a q').2.2 y z ne q k
  · have := (X.newO a ((X.own x v e).2 a (hW a k))).1
    rw [this] at q; cases q
  · obtain ⟨m, ⟨o, es, ep, e1, e2⟩, q⟩ := X.pin k a ha
    exact ⟨m, ⟨o, es, ep, t.heap _ _ e1 (.inr fun k => X.off x _ e _ (hW _ k) rfl), e2⟩, q⟩
  · obtain ⟨m, hm, hv⟩ := X'.ns
    refine ⟨m, hm, hv, ?_⟩
    have lw : env.locals ∉ W := fun k => X.off x _ e _ (hW _ k) rfl
    have keepNs : s3.heap.Ns env.locals m := by
      obtain ⟨o, es, ep, e1, e2⟩ := hm
      exact ⟨o, es, ep, t.heap _ _ e1 (.inr lw), e2⟩
    split
    · rename_i k
      have : (fun y => if y = x then some u else m y) = m := by
        funext y
        split
        · rename_i q
          subst q
          rcases sl with ⟨_, m', hm', hu⟩ | ⟨k', _⟩
          · obtain ⟨o, es, ep, e1, e2, e3, e4⟩ := hm
            obtain ⟨o', es', ep', e1', e2', e3', e4'⟩ := hm'
            rw [e1] at e1'; cases e1'
            rw [e2] at e2'; cases e2'
            rw [← e4, e4', hu]
          · exact absurd k k'
        · rfl
      rw [this]; exact keepNs
    · exact keepNs
  · obtain ⟨o, e1, e2⟩ := q2
    have cw : c ∉ W := fun k => by
      obtain ⟨o', q3, _, q4⟩ := ex x _ e c (hW c k)
      rw [e1] at q3; cases q3
      exact q4 _ e2
    refine ⟨o, t.heap _ _ e1 (.inr cw), ?_⟩
    split
    · rename_i k
      obtain ⟨k1, rfl⟩ := k
      rcases sl with ⟨k', _⟩ | ⟨_, c', hc', o', e3, e4⟩
      · exact absurd k' k1
      · rw [q1] at hc'; cases hc'
        rw [e1] at e3; cases e3
        exact e4
    · exact e2
end
theorem noView_ok {b : Loc} (h : noView b = true) : ∀ z w, b.lookup z = some w → b.lookup z = some w ∧ w.2 ≠ .view := fun z w e => ⟨e, fun q => by
  have m : (z, w) ∈ b := mem_of_lookup e
  have := List.all_eq_true.mp h _ m
  rw [show ((z, w) : PySem.Str × V × Sta).2.2 = w.2 from rfl, q] at this
  cases this⟩
noncomputable def isComp : Expr → Bool
  | .ListComp _ _ _ _ => true
  | .SetComp _ _ _ _ => true
  | .DictComp _ _ _ _ _ => true
  | _ => false
structure AtS (c : Cx) (sc : Scope) (b : Loc) extends At c ⟨sc, b⟩ where
  WL : List Addr
  F : Frm env sc WL
noncomputable abbrev AtS.P {c : Cx} {sc : Scope} {b : Loc} (t : AtS c sc b) (b' : Loc) (s' : Shared) (FP' : PySem.Str → List Addr) (O' : List Addr) : Prop := StP c.Pin c.h₀ t.env sc b t.FP t.O t.WL t.s b' s' FP' O'
noncomputable abbrev AtS.next {c : Cx} {sc : Scope} {b b' : Loc} (t : AtS c sc b) {s' : Shared} {FP' : PySem.Str → List Addr} {O' : List Addr} (p : t.P b' s' FP' O') : AtS c sc b' := ⟨⟨t.A, t.E, s', t.env, FP', O', t.room, p.env⟩, t.WL, t.F⟩
noncomputable abbrev AtS.exts {c : Cx} {sc : Scope} {b : Loc} (t : AtS c sc b) {s1 : Shared} (x : Ext t.s s1) : AtS c sc b := ⟨t.toAt.ext x, t.WL, t.F⟩
noncomputable def StTo (c : Cx) (sc : Scope) (b : Loc) (st : Stmt) (fl : Fl) (b' : Loc) : Prop := ∀ (t : AtS c sc b) (Q : Flow → Shared → Prop), (∀ f s' FP' O', t.P b' s' FP' O' → FlP t.s s' O' fl f → Q f s') → wpAny t.M t.A (exec st t.env) Q t.E t.s
noncomputable def SsTo (c : Cx) (sc : Scope) (b : Loc) (st : List Stmt) (fl : Fl) (b' : Loc) : Prop := ∀ (t : AtS c sc b) (Q : Flow → Shared → Prop), (∀ f s' FP' O', t.P b' s' FP' O' → FlP t.s s' O' fl f → Q f s') → wpAny t.M t.A (execs st t.env) Q t.E t.s
noncomputable def PlTo (c : Cx) (sc : Scope) (b : Loc) (o : Expr) (y y' : V) (b' : Loc) : Prop := ∀ (t : AtS c sc b) (Q : PySem.Value → Shared → Prop), (∀ u s1 g, Ext t.s s1 → VR s1.heap u y g → g.Nodup → (∀ a ∈ g, a ∈ t.O ∧ ∃ x z, b.lookup x = some z ∧ a ∈ t.FP x) →
    (∀ s2 s3 W g', Ext s1 s2 → Stp W [] s2 s3 → (∀ a ∈ W, a ∈ g) → (∀ a ∈ W, ∃ o, s3.heap.get? a = some o) → VR s3.heap u y' g' → g'.Nodup → (∀ a ∈ g', a ∈ g ∨ s1.heap.get? a = none) → ∃ FP' O', t.P b' s3 FP' O') → Q u s1) → wpAny t.M t.A (eval o t.env) Q t.E t.s
section
variable {c : Cx} {sc : Scope} {b b1 b' : Loc} {st : Stmt} {ss : List Stmt} {fl : Fl} {y y' : V} {x : PySem.Str} {p p' : Pos}
theorem SsTo.nil : SsTo c sc b [] .next b := fun t Q h => wpAny_execs_nil (h _ _ _ _ (.refl t.X) trivial)
theorem SsTo.cons (h1 : StTo c sc b st .next b1) (h2 : SsTo c sc b1 ss fl b') : SsTo c sc b (st :: ss) fl b' := fun t Q h => wpAny_execs_cons (h1 t _ fun f s1 FP1 O1 p1 g1 => by
  cases f <;> first | exact g1.elim | skip
  exact h2 (t.next p1) _ fun f s2 FP2 O2 p2 g2 => h f s2 FP2 O2 (p1.trans p2) (g2.back p1.dom))
theorem SsTo.stop (h1 : StTo c sc b st fl b') (hf : (match fl with | .next => false | _ => true) = true) : SsTo c sc b (st :: ss) fl b' := fun t Q h => wpAny_execs_cons (h1 t _ fun f s1 FP1 O1 p1 g1 => by
  cases fl <;> first | cases hf; done | skip
  all_goals (cases f <;> first | exact g1.elim | exact h _ _ _ _ p1 g1))
theorem setL_own {z : PySem.Str} {w : V × Sta} {fp' : List Addr} {FP : PySem.Str → List Addr} {s2 : Shared} {v' : V} {st : Sta} (hf : ∀ a ∈ fp', Src s2 b FP a) : (setL b x v' st).lookup z = some w → ∀ a ∈ setFP FP x fp' z, Src s2 b FP a := by
  intro q a m
  unfold setFP at m
  by_cases h : z = x
  · rw [if_pos h] at m
    exact hf a m
  · rw [if_neg h] at m
    rw [lookup_setL, if_neg h] at q
    exact .inr ⟨z, w, q, m⟩
theorem mut_fin (t : AtS c sc b) (nv : noView b = true) {v v' : V} (hv : b.lookup x = some (v, .own)) {s1 s2 s3 : Shared} {u : PySem.Value} {W g' : List Addr} (x1 : Ext t.s s1) (x2 : Ext s1 s2) (sl : Slot s2 t.env x u) (tw : Stp W [] s2 s3) (hW : ∀ a ∈ W, a ∈ t.FP x) (dW : ∀ a ∈ W, ∃ o, s3.heap.get? a = some o) (r : VR s3.heap u v' g') (nd : g'.Nodup) (hg : ∀ a ∈ g', a ∈ t.FP x ∨ s1.heap.get? a = none) : ∃ FP' O', t.P (setL b x v' .own) s3 FP' O' := by
  have X1 := t.X.ext x1
  have own := (t.X.own x _ hv).2
  refine ⟨_, _, X1.mutY (Y := []) (noView_ok nv) (by first | exact nn | nofun) x2 hv sl tw hW r nd fun a m => .inl (hg a m), ?_, fun a ob e => ?_, fun a m => ?_, fun z w e a m => setL_own (fun a m => (hg a m).elim (fun k => .inr ⟨x, _, hv, k⟩) fun k => .inl (back x1 k)) e a m⟩
  · exact ((x1.ext x2).mono (by first | exact nn | nofun) (by first | exact nn | nofun)).trans tw (fun a m => .inl (List.mem_append_right _ (own a (hW a m)))) (by first | exact nn | nofun)
  · by_cases k : a ∈ W
    · exact dW a k
    · exact ⟨ob, tw.heap a ob ((x1.ext x2).keep a ob e) (.inr k)⟩
  · rcases List.mem_append.mp m with m | m
    · exact .inl m
    · exact (hg a m).elim (fun k => .inl (own a k)) fun k => .inr (back x1 k)
theorem PlTo.name (hv : b.lookup x = some (y, .own)) (hd : notDbg x = true) (nv : noView b = true) (eb : setL b x y' .own = b') : PlTo c sc b (.Name x p) y y' b' := fun t Q h => by
  subst eb
  have hd : (x == ("__debug__" : PySem.Str)) = false := by simpa [notDbg] using hd
  exact name_ok t.X hv hd p fun u sl r => h u _ (t.FP x) (.refl _ _ _) r (t.X.own x _ hv).1 (fun a m => ⟨(t.X.own x _ hv).2 a m, x, _, hv, m⟩) fun s2 s3 W g' x12 tw hW dW r' nd hg => mut_fin t nv hv (.refl _ _ _) x12 (sl.ext x12) tw hW dW r' nd hg
theorem VRf.split {h : Heap} {a : PySem.Str} {y : V} {fs : List (PySem.Str × V)} : ∀ {es : List DictEntry} {fp : List Addr}, VRf h es fs fp → fs.lookup a = some y →
    ∃ u p1 g p2, fp = p1 ++ (g ++ p2) ∧ getL a es = some (some u) ∧ VR h u y g ∧ ∀ (h' : Heap) (W : List Addr) (y' : V) (g' : List Addr), (∀ a o, h.get? a = some o → fixedObj o = true ∨ a ∉ W → h'.get? a = some o) → (∀ a ∈ p1, a ∉ W) → (∀ a ∈ p2, a ∉ W) → VR h' u y' g' → VRf h' es (setF fs a y') (p1 ++ (g' ++ p2)) := by
  induction fs with
  | nil => intro es fp r e; cases e
  | cons p fs ih =>
    obtain ⟨k, x⟩ := p
    intro es fp r e
    rw [List.lookup_cons] at e
    refine VRf.consE r fun en es t f g hk r rs => ?_
    cases q : a == k with
    | true =>
      rw [q] at e; cases e
      refine ⟨en.val, [], f, g, rfl, getL_hit (by rw [hk, beq_iff_eq.mp q]), r, fun h' W y' g' kp h1 h2 r' => ?_⟩
      rw [setF_c]
      rw [if_pos q, beq_iff_eq.mp q]
      show VRf h' _ _ (g' ++ g)
      exact .cons hk r' (rs.but kp h2)
    | false =>
      rw [q] at e
      obtain ⟨u, p1, g1, p2, e1, e2, e3, e4⟩ := ih rs e
      refine ⟨u, f ++ p1, g1, p2, by rw [e1, List.append_assoc], by rw [getL_miss hk q]; exact e2, e3, fun h' W y' g' kp h1 h2 r' => ?_⟩
      rw [setF_c]
      rw [if_neg (by rw [q]; decide), List.append_assoc]
      exact .cons hk (r.but kp fun a m => h1 a (List.mem_append_left _ m)) (e4 h' W y' g' kp (fun a m => h1 a (List.mem_append_right _ m)) h2 r')
theorem PlTo.fld {C : Addr} {fs : List (PySem.Str × V)} {a : PySem.Str} (hv : b.lookup x = some (.inst C fs, .own)) (hd : notDbg x = true) (hfl : c.Γ.fld C a = true) (hl : fs.lookup a = some y) (nvl : (notVal y).isSome = true) (nv : noView b = true) (eb : setL b x (.inst C (setF fs a y')) .own = b') : PlTo c sc b (.Attribute (.Name x p) a p') y y' b' := fun t Q h => by
  subst eb
  have hd : (x == ("__debug__" : PySem.Str)) = false := by simpa [notDbg] using hd
  obtain ⟨k1, k2, attr, k3, k4⟩ := c.ok.fld _ _ hfl
  rw [arm_eval_Attribute]
  refine wpAny_bind (name_ok t.X hv hd p fun u sl r => wpAny_bind (wpAny_standAt (wpAny_bind (wpAny_holding ?_))))
  have own := t.X.own x _ hv
  have tw0 := fun s3 v' g' s1 s2 W x1 x2 => mut_fin (s1 := s1) (s2 := s2) (s3 := s3) (v' := v') (u := u) (W := W) (g' := g') t nv hv x1 x2
  have old : ∀ d ∈ t.FP x, ∃ o, t.s.heap.get? d = some o := r.doms
  have hsub : ∀ d ∈ t.FP x, ∃ z w, b.lookup z = some w ∧ d ∈ t.FP z := fun d m => ⟨x, _, hv, m⟩
  revert own tw0 old sl hsub
  generalize hfx : t.FP x = fx at r ⊢
  refine VR.instE r fun ad dx es n' fp q1 q2 rf => ?_
  intro sl own tw0 old hsub
  obtain ⟨uf, p1, g, p2, rfl, e2, e3, tw⟩ := rf.split hl
  have nd1 := List.nodup_cons.mp own.1
  have nd2 := List.nodup_cons.mp nd1.2
  have nd3 := List.nodup_append.mp nd2.2
  have nd4 := List.nodup_append.mp nd3.2.1
  have inG : ∀ c ∈ g, c ∈ p1 ++ (g ++ p2) := fun c m => List.mem_append_right _ (List.mem_append_left _ m)
  refine get_value (c.ok.base.kin.keeps t.X.low) (⟨q1, rfl, rfl, q2⟩ : W.InstAt _ _ _ _ (some _)) (plainGet_of k1).1 (findObj_own k2 k3 k4 e2) (e3.handed nvl) (wpAny_bind (wpAny_letTemporaryGo (wpAny_pure (h uf _ g (.toks _ _) e3 nd4.1 (fun a m => ⟨own.2 a (.tail _ (.tail _ (inG a m))), hsub a (.tail _ (.tail _ (inG a m)))⟩) fun s2 s3 W g' x12 st hW dW r' ndg hg => ?_))))
  have x02 : Ext t.s s2 := (Ext.toks t.s _).ext x12
  have rf3 := tw s3.heap W y' g' (fun a o e c => st.heap a o (x02.keep a o e) c) (fun c m k => nd3.2.2 c m c (List.mem_append_left _ (hW c k)) rfl) (fun c m k => nd4.2.2 c (hW c k) c m rfl) r'
  have aW : ad ∉ W := fun k => nd1.1 (.tail _ (inG _ (hW _ k)))
  have dW' : dx ∉ W := fun k => nd2.1 (inG _ (hW _ k))
  have inN : ∀ c ∈ p1 ++ (g' ++ p2), c ∈ p1 ++ (g ++ p2) ∨ t.s.heap.get? c = none := fun c m => by
    rcases List.mem_append.mp m with m | m
    · exact .inl (List.mem_append_left _ m)
    · rcases List.mem_append.mp m with m | m
      · exact (hg c m).imp (inG c) id
      · exact .inl (List.mem_append_right _ (List.mem_append_right _ m))
  have off : ∀ c ∈ g', ∀ d ∈ ad :: dx :: (p1 ++ (g ++ p2)), d ∉ g → c ≠ d := fun c m d md nd' e => by
    subst e
    rcases hg c m with k | k
    · exact nd' k
    · obtain ⟨o, e⟩ := old c md
      have k : t.s.heap.get? c = none := k
      rw [k] at e; cases e
  have ndn : (ad :: dx :: (p1 ++ (g' ++ p2))).Nodup := by
    refine List.nodup_cons.mpr ⟨fun m => ?_, List.nodup_cons.mpr ⟨fun m => ?_, List.nodup_append.mpr ⟨nd3.1, List.nodup_append.mpr ⟨ndg, nd4.2.1, fun c m d m' => off c m d (.tail _ (.tail _ (List.mem_append_right _ (List.mem_append_right _ m')))) fun k => nd4.2.2 d k d m' rfl⟩, fun c m d m' k => ?_⟩⟩⟩
    · rcases List.mem_cons.mp m with k | m
      · exact nd1.1 (k ▸ .head _)
      · rcases List.mem_append.mp m with m | m
        · exact nd1.1 (.tail _ (List.mem_append_left _ m))
        · rcases List.mem_append.mp m with m | m
          · exact off _ m _ (.head _) (fun k => nd1.1 (.tail _ (inG _ k))) rfl
          · exact nd1.1 (.tail _ (List.mem_append_right _ (List.mem_append_right _ m)))
    · rcases List.mem_append.mp m with m | m
      · exact nd2.1 (List.mem_append_left _ m)
      · rcases List.mem_append.mp m with m | m
        · exact off _ m _ (.tail _ (.head _)) (fun k => nd2.1 (inG _ k)) rfl
        · exact nd2.1 (List.mem_append_right _ (List.mem_append_right _ m))
    · rcases List.mem_append.mp m' with m' | m'
      · exact off d m' c (.tail _ (.tail _ (List.mem_append_left _ m))) (fun k => nd3.2.2 c m c (List.mem_append_left _ k) rfl) k.symm
      · exact nd3.2.2 c m d (List.mem_append_right _ m') k
  refine tw0 s3 (.inst C (setF fs a y')) (ad :: dx :: (p1 ++ (g' ++ p2))) _ s2 W (.toks _ _) x12 (sl.ext x02) st (fun c k => .tail _ (.tail _ (inG c (hW c k)))) dW (.inst (st.heap _ _ (x02.keep _ _ q1) (.inr aW)) (st.heap _ _ (x02.keep _ _ q2) (.inr dW')) rf3) ndn fun c m => ?_
  rcases List.mem_cons.mp m with rfl | m
  · exact .inl (.head _)
  · rcases List.mem_cons.mp m with rfl | m
    · exact .inl (.tail _ (.head _))
    · exact (inN c m).imp (fun k => .tail _ (.tail _ k)) id
end

theorem mapSeq_lst (us : List PySem.Value) (n : Nat) (f : Array PySem.Value → Array PySem.Value) : ∃ n', Obj.mapSeq f (lstObj us n) = lstObj (f us.toArray).toList n' := ⟨_, by simp [Obj.mapSeq]; rfl⟩
section
variable {prog : Program} {w : World} {K : Frag} {A : Around} {E : PySem.Value → Shared → Prop} {s : Shared}
theorem upd_list {D : Addr} {us : List PySem.Value} {k : Nat} (f : Array PySem.Value → Array PySem.Value) (hD : s.heap.get? D = some (lstObj us k)) (tk : Nat) :
    ∃ k', (s.heap.update D (Obj.mapSeq f)).get? D = some (lstObj (f us.toArray).toList k') ∧ Stp [D] [] s { s with heap := s.heap.update D (Obj.mapSeq f), toks := tk } := by
  obtain ⟨k', e⟩ := mapSeq_lst us k f
  refine ⟨k', ?_, .of_same (Heap.SameBut.update ..) fun o e' => ?_⟩
  · rw [← e]; exact Heap.get?_update_self _ hD (by rw [e]; rfl)
  · rw [hD] at e'; cases e'; rfl
theorem ext_ok {D B : Addr} {us vs : List PySem.Value} {k k2 : Nat} (hD : s.heap.get? D = some (lstObj us k)) (hB : s.heap.get? B = some (lstObj vs k2)) (hz : us.length + vs.length ≤ 1000000) {Q : PySem.Value → Shared → Prop}
    (h : ∀ s' k', s'.heap.get? D = some (lstObj (us ++ vs) k') → Stp [D] [] s s' → Q .none s') : wpAny (model prog w) A (call (.builtin "list.extend") [.ref D, .ref B]) Q E s := by
  have e24 := sizeLine_eq
  refine call_meets PySem.F.slot_list_extend ⟨_, hD, rfl⟩ PySem.F.entry_list_extend (PySem.F.args_list_extend_2 _ _)
    (AutoSeq1.list_extend_list_list_0 D us.toArray k B vs.toArray k2 (by simp [Builtin.List.listTooLong, sizeLine]; omega) (by rw [List.size_toArray, e24]; omega) (by rw [List.size_toArray, List.size_toArray, e24]; omega)) ⟨hD, hB, ?_⟩
  obtain ⟨k', e1, e2⟩ := upd_list (s := s) (fun x => x ++ vs.toArray) hD s.toks
  exact h _ k' (by simpa using e1) e2
theorem set_ok {D : Addr} {us : List PySem.Value} {k : Nat} {i : Int} {t : Tok} {v : PySem.Value} (hD : s.heap.get? D = some (lstObj us k)) (h0 : 0 ≤ i) (hf : i < 2 ^ 62) (hn : i < us.length) {Q : Unit → Shared → Prop}
    (h : ∀ s' k', s'.heap.get? D = some (lstObj (us.set i.toNat v) k') → Stp [D] [] s s' → Q () s') : wpAny (model prog w) A (setItem (.ref D) (.int i t) v) Q E s := by
  have hl : s.heap.IsList D us.toArray := ⟨_, hD, rfl, _, rfl⟩
  unfold setItem
  try with_reducible refine wpAny_holding ?_
  refine wpAny_bind (wpAny_sequenceKey hl.typeIs (by decide) ?_)
  refine wpAny_bind (wpAny_callSpecial?_slot (name := Str.ofString "__setitem__") hl.typeIs slot_list_setitem
    (wpAny_call_entry slot_list_setitem hl.typeIs entry_list_setitem ?_ (args_list_setitem _ _ _)))
  show wpAny _ _ (Builtin.List.listSubscript? (.int i t) >>= _) _ _ s
  refine wpAny_bind (wpAny_listSubscript_int (fitsIndex_of h0 (by omega)) ?_)
  obtain ⟨j, rfl⟩ := Int.eq_ofNat_of_zero_le h0
  have hj : j < us.length := by omega
  have hx' : us.toArray[j]? = some us[j] := by simp [hj]
  show wpAny _ _ ((seqItemAt D j >>= fun r => pure (r.map (j, ·))) >>= _) _ _ s
  refine wpAny_bind (wpAny_bind (wpAny_seqItemAt hD rfl (wpAny_pure ?_)))
  rw [hx']
  show wpAny _ _ (setSeqItemAt D j v >>= _) _ _ s
  obtain ⟨k', e1, e2⟩ := upd_list (s := s) (fun x => x.setIfInBounds j v) hD s.toks
  refine wpAny_bind (wpAny_setSeqItemAt hD rfl ?_)
  have fin := h _ k' (by simpa using e1) e2
  first
    | exact wpAny_bind (wpAny_pure (wpAny_pure ⟨.none, rfl, wpAny_pure fin⟩))
    | exact wpAny_pure ⟨.none, rfl, wpAny_pure fin⟩
theorem attr_ok {x dx C : Addr} {es : List DictEntry} {n : Nat} {name : PySem.Str} {v : PySem.Value} {tk : Tok} (X : K.In s.heap) (q1 : s.heap.get? x = some (instObj C dx)) (q2 : s.heap.get? dx = some (dictOf es n)) (hp : plainOver K C = true) (ht : takerIn K C name = some none) (hh : (clsIn K C).any (·.hasDict) = true)
    (hl : (getL name es).isSome = true) (hz : es.length ≤ 900) {R : Result → Shared → Prop}
    (h : ∀ s' n' t', s'.heap.get? dx = some (dictOf (putL name (PyData.keyHash w.params name) (.str name t') v es) n') → Stp [dx] [] s s' → R (.ok (.ret .none)) s') :
    codeAny (model prog w) A (.call (.builtin "object.__setattr__") ⟨[.ref x, .str name tk, v], []⟩) R s := by
  have I : W.InstAt s.heap x (instObj C dx) C (some (dictOf es n)) := ⟨q1, rfl, rfl, q2⟩
  refine osa_open X I hp ht fun b => ?_
  obtain ⟨cd, hc, hd'⟩ := any_some hh
  refine wpAny_bind (wpAny_pure (wpAny_bind (wpAny_bind (wpAny_loadPart q1 (wpAny_bind ((looks_clsIn X hc).here ?_))))))
  rw [hd']
  refine wpAny_pure (a := some dx) (wpAny_bind (wpAny_pure (wpAny_bind ?_)))
  unfold nsSet
  refine wpAny_bind (wpAny_bind (wpAny_askSetting (wpAny_pure (wpAny_bind (wpAny_mkText (wpAny_bind (wpAny_loadPart q2 ?_)))))))
  dsimp only
  have c : aRefKeyMayBeTheName name es.toArray = false := by
    unfold getL at hl
    rw [aRefKeyMayBeTheName_at]
    rw [← Array.any_toList, ← Array.any_toList]
    split at hl
    · rename_i en he
      rw [List.any_eq_true.mpr ⟨en, List.mem_of_find?_eq_some he, List.find?_some he⟩]; rfl
    · split at hl
      · cases hl
      · rename_i z; rw [Bool.not_eq_true] at z; rw [z, Bool.and_false]
  rw [c]
  have e := putName_dict name (PyData.keyHash w.params name) (.str name s.toks) v es n
  have g : (s.heap.update dx (Obj.putName name (PyData.keyHash w.params name) (.str name s.toks) v)).get? dx = some (dictOf (putL name (PyData.keyHash w.params name) (.str name s.toks) v es) (putN name es n)) := by
    rw [← e]; exact Heap.get?_update_self _ q2 (by rw [e]; rfl)
  refine wpAny_updatePart q2 ?_
  have len : ∀ es : List DictEntry, (putL name (PyData.keyHash w.params name) (.str name s.toks) v es).length ≤ es.length + 1 := by
    intro es
    induction es with
    | nil => simp [putL]
    | cons p r ih => unfold putL; split <;> simp; omega
  have e24 := sizeLine_eq
  refine wpAny_bind (wpAny_lookBehind g (pastItsLine_dict (by rw [List.size_toArray, e24]; have := len es; omega)) ?_)
  exact wpAny_pure (h _ _ _ g (.of_same (tk := s.toks + 1) (Heap.SameBut.update ..) fun o e' => by rw [q2] at e'; cases e'; rfl))
end
section
variable {Pin : List Addr} {prog : Program} {w : World} {h₀ : Heap} {A : Around} {E : PySem.Value → Shared → Prop} {s s1 s2 : Shared} {env : Env} {sc : Scope} {b : Loc} {FP : PySem.Str → List Addr} {O WL : List Addr}
theorem assign1_ok {x : PySem.Str} {u : PySem.Value} {v : V} {st : Sta} {fp : List Addr} (X : EnvR Pin h₀ env ⟨sc, b⟩ FP O s.heap) (x1 : Ext s s1) (r : VR s1.heap u v fp) (o : ∀ a ∈ fp, Src s b FP a) (hst : st = .view ∨ (st = .own ∧ fp.Nodup ∧ ∀ a ∈ fp, s.heap.get? a = none)) (F : Frm env sc WL) (hx : Bnd env WL x)
    {Q : Unit → Shared → Prop} (h : ∀ s', StP Pin h₀ env sc b FP O WL s (setL b x v st) s' (setFP FP x fp) (grow O fp st) → Stp WL [] s1 s' → Q () s') : wpAny (model prog w) A (storeName env x u) Q E s1 := by
  have X1 := X.ext x1
  have off : ∀ a ∈ fp, a ≠ env.locals := fun a m => (o a m).off (pe := ⟨sc, b⟩) X
  have newSt : st = .own → ∀ a ∈ fp, s.heap.get? a = none := fun e => by
    rcases hst with q | ⟨_, _, q⟩
    · rw [q] at e; cases e
    · exact q
  refine store_ok X1 r off ?_ hx fun s' X' t ⟨h', tk, e⟩ => h s' ⟨X', (x1.mono (by first | exact nn | nofun) (by first | exact nn | nofun)).trans t (fun a m => .inl (List.mem_append_left _ m)) (by first | exact nn | nofun), fun a o' e' => ?_, fun a m => ?_, fun y z q a m => ?_⟩ t
  · rcases hst with rfl | ⟨rfl, nd, nw⟩
    · trivial
    · refine ⟨nd, fun a m => ?_, fun y z ne q _ a m k => ?_⟩
      · cases q : h₀.get? a with
        | none => rfl
        | some o => have := X.low a o q; rw [nw a m] at this; cases this
      · obtain ⟨u', _, r'⟩ := X.slot q
        obtain ⟨o, q', _⟩ := r'.dom a k
        rw [nw a m] at q'; cases q'
  · by_cases hw : a ∈ WL
    · exact F.pls.dom X' hw
    · exact ⟨o', t.heap a o' (x1.keep a o' e') (.inr hw)⟩
  · unfold grow at m
    split at m
    · rcases List.mem_append.mp m with m | m
      · exact .inl m
      · exact .inr (newSt rfl a m)
    · exact .inl m
  · unfold setFP at m
    by_cases k : y = x
    · rw [if_pos k] at m; exact o a m
    · rw [if_neg k] at m
      rw [lookup_setL, if_neg k] at q
      exact .inr ⟨y, z, q, m⟩
theorem keep_builtin (id : String) (M : Model) (h : Heap) : ∃ k, (k = Keeper.frame ∨ k = Keeper.machine ∨ k = Keeper.boundFrame) ∧ Looks M h (keeperOf (.builtin id)) k := ⟨.machine, .inr (.inl rfl), Looks.of_pure rfl⟩
theorem notInteractive (X : EnvR Pin h₀ env ⟨sc, b⟩ FP O s.heap) : interactive env = false := by
  unfold interactive
  rw [X.kindF]; rfl
end
theorem VRs.set {h : Heap} {u : PySem.Value} {x : V} (r0 : VR h u x []) {vs : List V} : ∀ {us : List PySem.Value} {fp : List Addr} (k : Nat), VRs h us vs fp → ∃ fp', VRs h (us.set k u) (vs.set k x) fp' ∧ fp'.Sublist fp := by
  induction vs with
  | nil => intro us fp k r; obtain ⟨rfl, rfl⟩ := r.nilE; exact ⟨[], .nil, .slnil⟩
  | cons v vs ih =>
    intro us fp k r
    refine VRs.consE r fun u us f g r rs => ?_
    cases k with
    | zero => exact ⟨_, .cons r0 rs, List.sublist_append_right f _⟩
    | succ k =>
      obtain ⟨g', r', s⟩ := ih k rs
      exact ⟨_, .cons r r', List.Sublist.append (List.Sublist.refl f) s⟩
noncomputable def RtTo (c : Cx) (sc : Scope) (b : Loc) (e : Expr) (v : V) : Prop := ∀ (t : AtS c sc b) (Q : PySem.Value → Shared → Prop), (∀ u s' fp, Ext t.s s' → VR s'.heap u v fp → fp.Nodup → (∀ a ∈ fp, a ∈ t.O ∨ t.s.heap.get? a = none) → Q u s') → wpAny t.M t.A (eval e t.env) Q t.E t.s
section
variable {c : Cx} {sc : Scope} {b b1 b' : Loc} {st : Stmt} {ss ss' : List Stmt} {fl : Fl} {v y y' : V} {x : PySem.Str} {p p' q pos apos cpos : Pos} {e e' o i ts l r : Expr} {fr : Bool} {name : PySem.Str}
theorem StTo.brk : StTo c sc b (.Break p) .brk b := fun t Q h => wpAny_Break (h _ _ _ _ (.refl t.X) trivial)
theorem RtTo.fresh (h : EvTo c ⟨sc, b⟩ e v true) : RtTo c sc b e v := fun t Q q => h t.toAt _ fun u s' p1 => by
  obtain ⟨fp, x, r, o, n⟩ := p1
  exact q u s' fp x r (n rfl).1 fun a m => .inr ((n rfl).2 a m)
theorem RtTo.own (hv : b.lookup x = some (v, .own)) (hd : notDbg x = true) : RtTo c sc b (.Name x p) v := fun t Q h => by
  have hd : (x == ("__debug__" : PySem.Str)) = false := by simpa [notDbg] using hd
  exact name_ok t.X hv hd p fun u sl r => h u _ _ (.refl _ _ _) r (t.X.own x _ hv).1 fun a m => .inl ((t.X.own x _ hv).2 a m)
theorem RtTo.ifT (h1 : EtTo c ⟨sc, b⟩ ts true) (h2 : RtTo c sc b l v) : RtTo c sc b (.IfExp ts l r p) v := fun t Q h => wpAny_IfExp (h1 t.toAt _ fun s1 x1 => h2 (t.exts x1) _ fun u s' fp x2 rv nd m => h u s' fp (x1.ext x2) rv nd fun a k => (m a k).imp id (back x1))
theorem StTo.ret (h1 : RtTo c sc b e v) : StTo c sc b (.Return (some e) p) (.ret v) b := fun t Q h => wpAny_Return_some (h1 t _ fun u s' fp x r nd m => h (.ret u) s' t.FP t.O (.ext t.X x) ⟨fp, r, nd, m⟩)
theorem StTo.ifT (h1 : EtTo c ⟨sc, b⟩ ts true) (h2 : SsTo c sc b ss fl b') : StTo c sc b (.If ts ss ss' p) fl b' := fun t Q h => wpAny_If (h1 t.toAt _ fun s1 x1 => h2 (t.exts x1) _ fun f s2 FP2 O2 P g => h f s2 FP2 O2 ((StP.ext t.X x1).trans P) (g.back x1.dom))
theorem StTo.ifF (h1 : EtTo c ⟨sc, b⟩ ts false) (h2 : SsTo c sc b ss' fl b') : StTo c sc b (.If ts ss ss' p) fl b' := fun t Q h => wpAny_If (h1 t.toAt _ fun s1 x1 => h2 (t.exts x1) _ fun f s2 FP2 O2 P g => h f s2 FP2 O2 ((StP.ext t.X x1).trans P) (g.back x1.dom))
theorem swaps_no {env : Env} (h : isComp e = false) (t : Option Expr) (l : Nat) : swapsWith e t l env = pure false := by
  cases e <;> first | rfl | cases h
theorem same_ok (t : AtS c sc b) {y : V × Sta} {s1 : Shared} {u : PySem.Value} (x1 : Ext t.s s1) (e : b.lookup x = some y) (r : VR s1.heap u y.1 (t.FP x)) (hx : Bnd t.env t.WL x)
    {Q : Unit → Shared → Prop} (h : ∀ s' O', t.P b s' t.FP O' → Q () s') : wpAny t.M t.A (storeName t.env x u) Q t.E s1 := by
  have X := t.X
  have X1 := X.ext x1
  refine store_ok (st := y.2) X1 r (X.off x y e) ?_ hx fun s' X' tt _ => h s' (grow t.O (t.FP x) y.2) ⟨X'.weaken fun z w q => ⟨?_, ?_⟩, (x1.mono (by first | exact nn | nofun) (by first | exact nn | nofun)).trans tt (fun a m => .inl (List.mem_append_left _ m)) (by first | exact nn | nofun), fun a o' e' => ?_, fun a m => ?_, fun y z q a m => .inr ⟨y, z, q, m⟩⟩
  · obtain ⟨v, st⟩ := y
    cases st with
    | view => trivial
    | frz => exact fun a m => X.frz x v e a m
    | own =>
      refine ⟨(X.own x v e).1, fun a m => (X.newO a ((X.own x v e).2 a m)).1, fun z w ne q hv a m k => ?_⟩
      obtain ⟨w1, w2⟩ := w
      cases w2 with
      | own => exact X.apart x v z w1 (Ne.symm ne) e q a m k
      | frz => exact X.frz z w1 q a k ((X.own x v e).2 a m)
      | view => exact hv rfl
  · rw [lookup_setL]
    split
    · rename_i k; subst k; rw [← q, e]
    · exact q
  · unfold setFP
    split
    · rename_i k; subst k; rfl
    · rfl
  · by_cases hw : a ∈ t.WL
    · exact t.F.pls.dom X' hw
    · exact ⟨o', tt.heap a o' (x1.keep a o' e') (.inr hw)⟩
  · obtain ⟨v, st⟩ := y
    cases st with
    | own => exact .inl ((List.mem_append.mp m).elim id ((X.own x v e).2 a))
    | frz => exact .inl m
    | view => exact .inl m
noncomputable def PkTo (c : Cx) (pe : PE) (e e' : Expr) : Prop := ∀ (t : At c pe) (Q : PySem.Value → Shared → Prop), (∀ s1, Ext t.s s1 → wpAny t.M t.A (eval e' t.env) Q t.E s1) → wpAny t.M t.A (eval e t.env) Q t.E t.s
theorem PkTo.ifT {pe : PE} (h1 : EtTo c pe ts true) : PkTo c pe (.IfExp ts l r p) l := fun t Q h => wpAny_IfExp (h1 t _ fun s1 x1 => h s1 x1)
theorem StTo.same {y : V × Sta} (ox : ownName sc x = true) (h1 : PkTo c ⟨sc, b⟩ e (.Name x q)) (hv : b.lookup x = some y) (hd : notDbg x = true) (hc : isComp e = false) : StTo c sc b (.Assign [.Name x p] e pos) .next b := fun t Q h => by
  have hd : (x == ("__debug__" : PySem.Str)) = false := by simpa [notDbg] using hd
  exact wpAny_Assign_Name (h1 t.toAt _ fun s1 x1 => name_ok (t.X.ext x1) hv hd q fun u sl rv => same_ok t x1 hv rv (t.F.bnd x ox) fun s' O' P => h .next s' _ _ P trivial) (swaps_no hc _ _)
theorem StTo.set {st : Sta} (ox : ownName sc x = true) (h1 : EvTo c ⟨sc, b⟩ e v fr) (hs : (match st with | .own => fr | .view => true | .frz => false) = true) (hc : isComp e = false) (eb : setL b x v st = b') : StTo c sc b (.Assign [.Name x p] e pos) .next b' := fun t Q h => by
  subst eb
  refine wpAny_Assign_Name (h1 t.toAt _ fun u s1 p1 => ?_) (swaps_no hc _ _)
  obtain ⟨f, x1, r1, o1, n1⟩ := p1
  refine assign1_ok t.X x1 r1 o1 ?_ t.F (t.F.bnd x ox) fun s' P _ => h .next s' _ _ P trivial
  cases st with
  | own => exact .inr ⟨rfl, n1 hs⟩
  | view => exact .inl rfl
  | frz => cases hs
theorem meth_ok {prog : Program} {w : World} {A : Around} {E : PySem.Value → Shared → Prop} {s : Shared} {env : Env} {args : List Expr} {Q : PySem.Value → Shared → Prop} (hb : ∀ env, attributeBase o name env (eval o env) = eval o env) (hn : decide (args.length < 20) = true) (hl : (apos.endLine == cpos.line) = true) (ha : ∀ e ∈ args, ∀ x p, e ≠ .Starred x p)
    (h : ∀ pl, wpAny (model prog w) A (eval o env) (fun u s1 => wpAny (model prog w) A (getMethod u name pl) (fun fx s2 => wpAny (model prog w) A (callWith cpos fx.1 fx.2 (backTo cpos (starEach args env)) (backToKw cpos (keywordEach [] env))) Q E s2) E s1) E s) :
    wpAny (model prog w) A (eval (.Call (.Attribute o name apos) args [] cpos) env) Q E s := by
  rw [arm_eval_Call, hb]
  have hn := of_decide_eq_true hn
  have hform : methodCallForm (args.length + ([] : List Keyword).length) (backTo cpos (starEach args env)) (backToKw cpos (keywordEach [] env)) = true := by
    unfold methodCallForm
    rw [star_plain ha]
    show (_ && true && decide _) = true
    simp only [Bool.and_true, Bool.and_eq_true, decide_eq_true_eq]
    refine ⟨?_, by split <;> (simp; omega)⟩
    rw [List.all_eq_true]
    intro x hx
    unfold backTo at hx
    simp only [List.map_map, List.mem_map] at hx
    obtain ⟨y, _, rfl⟩ := hx
    simp
  have hpos : methodCallPos true o env apos cpos = pure cpos := by unfold methodCallPos; rw [hl]; rfl
  refine wpAny_bind (wpAny_mono (h (do return (← importBound o env).getD true)) (fun u s1 h1 => wpAny_bind (wpAny_standAt ?_)) fun _ _ x => x)
  unfold methodCall
  rw [hform]
  exact wpAny_bind (wpAny_holding (wpAny_mono h1 (fun fx s2 h2 => wpAny_bind (wpAny_of_eq hpos h2)) fun _ _ x => x))
theorem args1_raw {prog : Program} {w : World} {A : Around} {E : PySem.Value → Shared → Prop} {s : Shared} {env : Env} {f : PySem.Value} {us₀ : List PySem.Value} (hk : ∀ h : Heap, ∃ k, (k = Keeper.frame ∨ k = Keeper.machine ∨ k = Keeper.boundFrame) ∧ Looks (model prog w) h (keeperOf f) k)
    (pl : starEach [e] env = [(false, eval e env)]) {Q : PySem.Value → Shared → Prop}
    (h : wpAny (model prog w) A (eval e env) (fun u s' => wpAny (model prog w) A (call f (us₀ ++ [u])) Q E s') E s) :
    wpAny (model prog w) A (callWith pos f us₀ (backTo pos (starEach [e] env)) (backToKw pos (keywordEach [] env))) Q E s := by
  refine callWith_of (P := fun _ => True) (by rw [pl]; rfl) (fun h _ => hk h) ?_
  refine evalArgs_kw2 rfl (wpAny_items_cons (wpAny_mono h (fun u s1 h1 => wpAny_items_nil (kwAll_nil ⟨trivial, h1⟩)) fun _ _ z => z) ?_) ?_
  all_goals (rw [pl]; rfl)
theorem notStar (hs : ∀ env, starEach [e] env = [(false, eval e env)]) : ∀ a ∈ [e], ∀ x p, a ≠ .Starred x p := fun a m x p q => by
  rw [List.mem_singleton.mp m] at q
  subst q
  have := congrArg (fun l => l.map (·.1)) (hs default)
  cases this
theorem StTo.app {l : List V} (hb : ∀ env, attributeBase o ("append" : PySem.Str) env (eval o env) = eval o env) (hl : (apos.endLine == cpos.line) = true) (hs : ∀ env, starEach [e] env = [(false, eval e env)]) (h1 : PlTo c sc b o (.lst l) (.lst (l ++ [v])) b') (h2 : EvTo c ⟨sc, b⟩ e v true) (hz : l.length ≤ 1000000) :
    StTo c sc b (.Expr (.Call (.Attribute o ("append" : PySem.Str) apos) [e] [] cpos) pos) .next b' := fun t Q h => by
  refine wpAny_Expr_any (meth_ok hb rfl hl (notStar hs) fun pl => h1 t _ fun u s1 g x1 r1 nd _ tw => ?_) (notInteractive t.X) rfl
  revert nd tw
  refine VR.lstE r1 fun D us k f q rs nd tw => ?_
  refine getMethod_builtin (T := "list") ⟨_, q, rfl⟩ PySem.F.plainAttrs_list PySem.F.slot_list_append PySem.F.type_list_append (fun a' e => by cases e; exact ⟨_, q, rfl⟩) ?_
  refine args1_raw (keep_builtin _ _) (hs _) (h2 (t.toAt.ext x1) _ fun z s2 p2 => ?_)
  obtain ⟨fa, x2, ra, oa, na⟩ := p2
  obtain ⟨a1, a2⟩ := na rfl
  have nd' := List.nodup_cons.mp nd
  refine app_ok (x2.keep _ _ q) (by rw [rs.length]; exact hz) fun s3 k3 hD st => ?_
  have fD : ∀ a ∈ fa, a ∉ [D] := fun a m k => by
    have := a2 a m
    rw [List.mem_singleton.mp k] at this
    rw [q] at this; cases this
  have disj : ∀ a ∈ f, ∀ c ∈ fa, a ≠ c := fun a m c m' e => by
    subst e
    obtain ⟨ob, eo, _⟩ := rs.dom a m
    rw [a2 a m'] at eo; cases eo
  obtain ⟨FP', O', p⟩ := tw s2 s3 [D] (D :: (f ++ (fa ++ []))) x2 st (fun a m => by rw [List.mem_singleton.mp m]; exact .head _) (fun a m => by rw [List.mem_singleton.mp m]; exact ⟨_, hD⟩)
    (.lst hD (VRs.append (.cons (ra.stp st fD) .nil) ((rs.ext x2).but st.heap fun a m k => nd'.1 ((List.mem_singleton.mp k) ▸ m))))
    (by
      rw [List.append_nil]
      refine List.nodup_cons.mpr ⟨fun m => (List.mem_append.mp m).elim nd'.1 fun m => fD _ m (.head _), List.nodup_append.mpr ⟨nd'.2, a1, disj⟩⟩)
    (fun a m => by
      rw [List.append_nil] at m
      rcases List.mem_cons.mp m with rfl | m
      · exact .inl (.head _)
      · exact (List.mem_append.mp m).imp (.tail _) (a2 a))
  exact h .next s3 FP' O' p trivial
theorem StTo.ext {l m : List V} {fr : Bool} (hb : ∀ env, attributeBase o ("extend" : PySem.Str) env (eval o env) = eval o env) (hl : (apos.endLine == cpos.line) = true) (hs : ∀ env, starEach [e] env = [(false, eval e env)]) (h1 : PlTo c sc b o (.lst l) (.lst (l ++ m)) b') (h2 : EvTo c ⟨sc, b⟩ e (.lst m) fr) (hf : flatVs m = true) (hz : l.length + m.length ≤ 1000000) :
    StTo c sc b (.Expr (.Call (.Attribute o ("extend" : PySem.Str) apos) [e] [] cpos) pos) .next b' := fun t Q h => by
  refine wpAny_Expr_any (meth_ok hb rfl hl (notStar hs) fun pl => h1 t _ fun u s1 g x1 r1 nd _ tw => ?_) (notInteractive t.X) rfl
  revert nd tw
  refine VR.lstE r1 fun D us k f q rs nd tw => ?_
  refine getMethod_builtin (T := "list") ⟨_, q, rfl⟩ PySem.F.plainAttrs_list PySem.F.slot_list_extend PySem.F.type_list_extend (fun a' e => by cases e; exact ⟨_, q, rfl⟩) ?_
  refine args1_raw (keep_builtin _ _) (hs _) (h2 (t.toAt.ext x1) _ fun z s2 p2 => ?_)
  obtain ⟨fa, x2, ra, oa, na⟩ := p2
  refine VR.lstE ra fun B vs k2 f2 q2 rs2 => ?_
  have f2n : f2 = [] := flats_nil rs2 hf
  subst f2n
  have nd' := List.nodup_cons.mp nd
  refine ext_ok (x2.keep _ _ q) q2 (by rw [rs.length, rs2.length]; exact hz) fun s3 k3 hD st => ?_
  obtain ⟨FP', O', p⟩ := tw s2 s3 [D] (D :: (f ++ [])) x2 st (fun a m => by rw [List.mem_singleton.mp m]; exact .head _) (fun a m => by rw [List.mem_singleton.mp m]; exact ⟨_, hD⟩)
    (.lst hD (VRs.append (rs2.but st.heap (by first | exact nn | nofun)) ((rs.ext x2).but st.heap fun a m k => nd'.1 ((List.mem_singleton.mp k) ▸ m)))) (by rw [List.append_nil]; exact nd) (by rw [List.append_nil]; exact fun a m => .inl m)
  exact h .next s3 FP' O' p trivial
theorem set_fin {l : List V} {t : AtS c sc b} {s1 s2 : Shared} {D : Addr} {us : List PySem.Value} {n : Nat} {f : List Addr} {j : Int} {tj : Tok} {w : PySem.Value} {Q : Unit → Shared → Prop} (q : s1.heap.get? D = some (lstObj us n)) (rs : VRs s1.heap us l f) (nd : (D :: f).Nodup) (x2 : Ext s1 s2) (rw' : VR s2.heap w v [])
    (tw : ∀ s2 s3 W g', Ext s1 s2 → Stp W [] s2 s3 → (∀ a ∈ W, a ∈ D :: f) → (∀ a ∈ W, ∃ o, s3.heap.get? a = some o) → VR s3.heap (.ref D) (.lst (l.set j.toNat v)) g' → g'.Nodup → (∀ a ∈ g', a ∈ D :: f ∨ s1.heap.get? a = none) → ∃ FP' O', t.P b' s3 FP' O') (h0 : 0 ≤ j) (h1 : j < l.length) (h2 : l.length ≤ 1000000)
    (h : ∀ s' FP' O', t.P b' s' FP' O' → Q () s') : wpAny t.M t.A (setItem (.ref D) (.int j tj) w) Q t.E s2 := by
  have nd' := List.nodup_cons.mp nd
  refine set_ok (x2.keep _ _ q) h0 (by omega) (by rw [rs.length]; exact h1) fun s4 k4 hD st => ?_
  obtain ⟨f', rs', sub⟩ := VRs.set (rw'.stp st (by first | exact nn | nofun)) j.toNat ((rs.ext x2).but st.heap fun a m k => nd'.1 ((List.mem_singleton.mp k) ▸ m))
  obtain ⟨FP', O', pp⟩ := tw s2 s4 [D] (D :: f') x2 st (fun a m => by rw [List.mem_singleton.mp m]; exact .head _) (fun a m => by rw [List.mem_singleton.mp m]; exact ⟨_, hD⟩)
    (.lst hD rs') (List.nodup_cons.mpr ⟨fun m => nd'.1 (sub.subset m), sub.nodup nd'.2⟩) (fun a m => .inl ((List.mem_cons.mp m).elim (fun k => k ▸ .head _) fun m => .tail _ (sub.subset m)))
  exact h s4 FP' O' pp
theorem StTo.setI {l : List V} {j : Int} {f1 f2 : Bool} (hc : isComp e = false) (h1 : EvTo c ⟨sc, b⟩ e v f1) (hf : flatV v = true) (h2 : PlTo c sc b o (.lst l) (.lst (l.set j.toNat v)) b') (h3 : EvTo c ⟨sc, b⟩ i (.int j) f2) (j0 : 0 ≤ j) (j1 : j < l.length) (hz : l.length ≤ 1000000) : StTo c sc b (.Assign [.Subscript o i p] e pos) .next b' := fun t Q h => by
  refine wpAny_Assign_Subscript (h1 t.toAt _ fun z s1 p1 => ?_) (swaps_no hc _ _)
  obtain ⟨fz, x1, rz, oz, _⟩ := p1
  have := flat_nil rz hf
  subst this
  refine h2 (t.exts x1) _ fun u s2 g x2 r2 nd _ tw => ?_
  refine h3 (t.toAt.ext (x1.ext x2)) _ fun iv s3 p3 => ?_
  obtain ⟨fi, x3, ri, oi, _⟩ := p3
  revert nd tw
  refine VR.lstE r2 fun D us k f q rs nd tw => VR.intE ri fun tj => ?_
  exact set_fin (t := t.exts x1) q rs nd x3 (rz.ext (x2.ext x3)) tw j0 j1 hz fun s4 FP' O' pp => h .next s4 FP' O' ((StP.ext t.X x1).trans pp) trivial
end

noncomputable def ownL (b : Loc) (FP : PySem.Str → List Addr) : List Addr := b.flatMap fun p => match b.lookup p.1 with
  | some (_, .own) => FP p.1
  | _ => []
theorem mem_ownL {b : Loc} {FP : PySem.Str → List Addr} {a : Addr} : a ∈ ownL b FP ↔ ∃ x v, b.lookup x = some (v, .own) ∧ a ∈ FP x := by
  unfold ownL
  rw [List.mem_flatMap]
  constructor
  · rintro ⟨p, m, h⟩
    split at h
    · rename_i v e; exact ⟨p.1, v, e, h⟩
    · cases h
  · rintro ⟨x, v, e, h⟩
    exact ⟨(x, v, .own), mem_of_lookup e, by simp only [e]; exact h⟩
section
variable {Pin : List Addr} {prog : Program} {w : World} {h₀ : Heap} {A : Around} {E : PySem.Value → Shared → Prop} {s s0 s1 s2 : Shared} {env : Env} {sc : Scope} {b b1 b2 bL : Loc} {FP FP1 FP2 FPL : PySem.Str → List Addr} {O O1 O2 OL WL : List Addr}
structure Softer (b bL : Loc) : Prop where
  val : ∀ x v t, bL.lookup x = some (v, t) → ∃ t', b.lookup x = some (v, t')
  own : ∀ x v, bL.lookup x = some (v, .own) → b.lookup x = some (v, .own)
theorem Softer.refl (b : Loc) : Softer b b := ⟨fun _ _ t e => ⟨t, e⟩, fun _ _ e => e⟩
theorem EnvR.soft {h : Heap} (X : EnvR Pin h₀ env ⟨sc, b⟩ FP O h) (f : Softer b bL) (hf : ∀ x v, bL.lookup x = some (v, .frz) → ∀ a ∈ FP x, a ∉ ownL bL FP) : EnvR Pin h₀ env ⟨sc, bL⟩ FP (ownL bL FP) h where
  sc := X.sc
  kind := X.kind
  glo := X.glo
  blt := X.blt
  low := X.low
  above := X.above
  ns := by
    obtain ⟨m, hm, hv⟩ := X.ns
    refine ⟨m, hm, fun x y e k => ?_⟩
    obtain ⟨v, t⟩ := y
    obtain ⟨t', e'⟩ := f.val x v t e
    exact hv x (v, t') e' k
  cells := fun x c e => by
    obtain ⟨a, wv, q, d⟩ := X.cells x c e
    refine ⟨a, wv, q, fun y e k => ?_⟩
    obtain ⟨v, t⟩ := y
    obtain ⟨t', e'⟩ := f.val x v t e
    exact d (v, t') e' k
  kinds := fun x y e => by
    obtain ⟨v, t⟩ := y
    obtain ⟨t', e'⟩ := f.val x v t e
    exact X.kinds x _ e'
  apartC := X.apartC
  off := fun x y e => by
    obtain ⟨v, t⟩ := y
    obtain ⟨t', e'⟩ := f.val x v t e
    exact X.off x _ e'
  own := fun x v e => ⟨(X.own x v (f.own x v e)).1, fun a m => mem_ownL.mpr ⟨x, v, e, m⟩⟩
  frz := hf
  apart := fun x v x' v' ne e e' => X.apart x v x' v' ne (f.own x v e) (f.own x' v' e')
  newO := fun a m => by
    obtain ⟨x, v, e, m⟩ := mem_ownL.mp m
    exact X.newO a ((X.own x v (f.own x v e)).2 a m)
  pin := X.pin
theorem ownL_sub {h : Heap} (X : EnvR Pin h₀ env ⟨sc, b⟩ FP O h) (f : Softer b bL) : ∀ a ∈ ownL bL FP, a ∈ O := fun a m => by
  obtain ⟨x, v, e, m⟩ := mem_ownL.mp m
  exact (X.own x v (f.own x v e)).2 a m
structure Mid (Pin : List Addr) (h₀ : Heap) (env : Env) (sc : Scope) (bL : Loc) (FPL : PySem.Str → List Addr) (OL WL rd wr : List Addr) (gs : List Nat) (s0 : Shared) (b : Loc) (s : Shared) (FP : PySem.Str → List Addr) (O : List Addr) : Prop where
  env : EnvR Pin h₀ env ⟨sc, b⟩ FP O s.heap
  stp : Stp (WL ++ (OL ++ wr)) gs s0 s
  dom : ∀ a o, s0.heap.get? a = some o → a ∉ wr → ∃ o', s.heap.get? a = some o'
  own : ∀ a ∈ O, a ∈ OL ∨ s0.heap.get? a = none
  src : ∀ x z, b.lookup x = some z → ∀ a ∈ FP x, Src s0 bL FPL a ∨ (a ∈ rd ∧ a ∉ wr)
theorem Mid.back {rd wr : List Addr} {gs : List Nat} (M : Mid Pin h₀ env sc bL FPL OL WL rd wr gs s0 b1 s1 FP1 O1) (ex : ∀ a ∈ wr, ∃ o, s1.heap.get? a = some o) {a : Addr} (e : s1.heap.get? a = none) : s0.heap.get? a = none := by
  cases q : s0.heap.get? a with
  | none => rfl
  | some o =>
    by_cases k : a ∈ wr
    · obtain ⟨o', e'⟩ := ex a k
      rw [e] at e'; cases e'
    · obtain ⟨o', e'⟩ := M.dom a o q k
      rw [e] at e'; cases e'
structure Src0 (h₀ : Heap) (env : Env) (rd wr : List Addr) (s0 : Shared) : Prop where
  off : ∀ a ∈ rd, a ≠ env.locals ∧ (∀ x c, env.cells.lookup x = some c → a ≠ c) ∧ ∃ o, s0.heap.get? a = some o
  wr : ∀ a ∈ wr, a ∈ rd ∧ h₀.get? a = none
theorem Mid.ofStP {rd wr : List Addr} {gs : List Nat} (F : Frm env sc WL) (M : Mid Pin h₀ env sc bL FPL OL WL rd wr gs s0 b1 s1 FP1 O1) (ex : ∀ a ∈ wr, ∃ o, s1.heap.get? a = some o) (p : StP Pin h₀ env sc b1 FP1 O1 WL s1 b2 s2 FP2 O2) : Mid Pin h₀ env sc bL FPL OL WL rd wr gs s0 b2 s2 FP2 O2 where
  env := p.env
  stp := M.stp.trans p.stp (fun a m => by
    rcases List.mem_append.mp m with m | m
    · exact .inl (List.mem_append_left _ m)
    · exact (M.own a m).imp (fun m => List.mem_append_right _ (List.mem_append_left _ m)) id) (by first | exact nn | nofun)
  dom := fun a o e k => by obtain ⟨o', e'⟩ := M.dom a o e k; exact p.dom a o' e'
  own := fun a m => by
    rcases p.own a m with m | m
    · exact M.own a m
    · exact .inr (M.back ex m)
  src := fun x z e a m => by
    rcases p.src x z e a m with k | ⟨y, z', e', m'⟩
    · exact .inl (.inl (M.back ex k))
    · exact M.src y z' e' a m'
theorem EnvR.shrink (X : EnvR Pin h₀ env ⟨sc, b⟩ FP O s.heap) : EnvR Pin h₀ env ⟨sc, b⟩ FP (O.filter fun a => (s.heap.get? a).isSome) s.heap where
  sc := X.sc
  kind := X.kind
  glo := X.glo
  blt := X.blt
  low := X.low
  above := X.above
  ns := X.ns
  cells := X.cells
  kinds := X.kinds
  apartC := X.apartC
  off := X.off
  own := fun x v e => ⟨(X.own x v e).1, fun a m => by
    refine List.mem_filter.mpr ⟨(X.own x v e).2 a m, ?_⟩
    obtain ⟨o, q, _⟩ := X.fpd e m
    rw [q]; rfl⟩
  frz := fun x v e a m k => X.frz x v e a m (List.mem_filter.mp k).1
  apart := X.apart
  newO := fun a m => X.newO a (List.mem_filter.mp m).1
  pin := X.pin
structure Cur (h₀ : Heap) (env : Env) (rd wr rdc wrc : List Addr) (s0 : Shared) : Prop where
  cwr : ∀ a ∈ wrc, a ∈ rdc ∧ h₀.get? a = none ∧ (a ∈ wr ∨ s0.heap.get? a = none)
  crd : ∀ a ∈ rdc, (a ∈ rd ∨ s0.heap.get? a = none) ∧ a ≠ env.locals ∧ ∀ x c, env.cells.lookup x = some c → a ≠ c
  csub : ∀ a ∈ wr, a ∈ wrc
end
inductive LpTo (step : Loc → V → Fl → Loc → Prop) : List V → Loc → Fl → Loc → Prop
  | nil (b : Loc) : LpTo step [] b .next b
  | next (b b1 b2 : Loc) (x : V) (xs : List V) (fl : Fl) : step b x .next b1 → LpTo step xs b1 fl b2 → LpTo step (x :: xs) b fl b2
  | brk (b b1 : Loc) (x : V) (xs : List V) : step b x .brk b1 → LpTo step (x :: xs) b .next b1
  | ret (b b1 : Loc) (x : V) (xs : List V) (v : V) : step b x (.ret v) b1 → LpTo step (x :: xs) b (.ret v) b1
inductive TnTo (c : Cx) (sc : Scope) (tg : Expr) (body : List Stmt) (b : Loc) (x : V) (fl : Fl) (b2 : Loc) : Prop
  | mk (b1 : Loc) : BdTo c.q tg x b b1 → SsTo c sc b1 body fl b2 → TnTo c sc tg body b x fl b2
theorem flp_back {s s1 s' : Shared} {O' : List Addr} {fl : Fl} {f : Flow} (d : ∀ a, s1.heap.get? a = none → s.heap.get? a = none) (h : FlP s1 s' O' fl f) : FlP s s' O' fl f := by
  cases fl <;> cases f <;> first | exact h | skip
  obtain ⟨fp, r, nd, m⟩ := h
  exact ⟨fp, r, nd, fun a k => (m a k).imp id (d a)⟩
theorem for_ok {c : Cx} {sc : Scope} {bL : Loc} {tg : Expr} {body : List Stmt} {I : Addr} {rd wr : List Addr} {gs : List Nat} {xs : List V} {fl : Fl} {b' : Loc} (q : LpTo (TnTo c sc tg body) xs bL fl b') (hok : (tNames tg).all (ownName sc) = true) {A : Around} {s0 : Shared} {env : Env} {FPL : PySem.Str → List Addr} {OL WL : List Addr} (F : Frm env sc WL) (Z : Src0 c.h₀ env rd wr s0) (hr : Room c.q c.h₀ c.R A)
    (it : It c.h₀ c.prog c.w A I rd wr gs xs s0) (X : EnvR c.Pin c.h₀ env ⟨sc, bL⟩ FPL OL s0.heap) (hap : xs ≠ [] → ∀ a ∈ rd, a ∉ OL) (hwF : ∀ x z, bL.lookup x = some z → ∀ a ∈ FPL x, a ∉ wr)
    {Res : Result → Shared → Prop} (h : ∀ f s' FP' O', Mid c.Pin c.h₀ env sc bL FPL OL WL rd wr gs s0 b' s' FP' O' → FlP s0 s' O' fl f → Res (.ok f) s') :
    codeAny (model c.prog c.w) A (.forLoop tg (.ref I) body [] env) Res s0 := by
  refine codeAny_forLoop_any (fun k s => ∃ xs' b FP O rdc wrc, xs'.length = k ∧ LpTo (TnTo c sc tg body) xs' b fl b' ∧ It c.h₀ c.prog c.w A I rdc wrc gs xs' s ∧ Mid c.Pin c.h₀ env sc bL FPL OL WL rd wr gs s0 b s FP O ∧ Cur c.h₀ env rd wr rdc wrc s0 ∧ (∀ x z, b.lookup x = some z → ∀ a ∈ FP x, a ∉ wrc) ∧ (xs' ≠ [] → ∀ a ∈ rdc, a ∉ O ∧ ∃ o, s.heap.get? a = some o)) ?_ xs.length
    ⟨xs, bL, FPL, OL, rd, wr, rfl, q, it, ⟨X, .refl _ _ _, fun a o e _ => ⟨o, e⟩, fun a m => .inl m, fun x z e a m => .inl (.inr ⟨x, z, e, m⟩)⟩, ⟨fun a m => ⟨(Z.wr a m).1, (Z.wr a m).2, .inl m⟩, fun a m => ⟨.inl m, (Z.off a m).1, (Z.off a m).2.1⟩, fun a m => m⟩, hwF, fun ne a m => ⟨hap ne a m, (Z.off a m).2.2⟩⟩
  rintro k s ⟨xs', b, FP, O00, rdc, wrc, rfl, q, it, M00, C, wrF, hap00⟩
  obtain ⟨O, M, hap, exO⟩ : ∃ O, Mid c.Pin c.h₀ env sc bL FPL OL WL rd wr gs s0 b s FP O ∧ (xs' ≠ [] → ∀ a ∈ rdc, a ∉ O ∧ ∃ o, s.heap.get? a = some o) ∧ ∀ a ∈ O, ∃ o, s.heap.get? a = some o :=
    ⟨_, ⟨M00.env.shrink, M00.stp, M00.dom, fun a m => M00.own a (List.mem_filter.mp m).1, M00.src⟩, fun ne a m => ⟨fun k => (hap00 ne a m).1 (List.mem_filter.mp k).1, (hap00 ne a m).2⟩, fun a m => Option.isSome_iff_exists.mp (List.mem_filter.mp m).2⟩
  have wrOff : ∀ (s1 : Shared), Stp wrc gs s s1 → EnvR c.Pin c.h₀ env ⟨sc, b⟩ FP O s1.heap := fun s1 t1 => M.env.stp t1 (fun m => (C.crd _ (C.cwr _ m).1).2.1 rfl) (fun x c e m => (C.crd _ (C.cwr _ m).1).2.2 x c e rfl) wrF fun a m => (C.cwr a m).2.1
  cases xs' with
  | nil =>
    cases q
    refine it s (.refl _ _ _ _) _ _ fun s1 t1 => wpAny_execs_nil (h .next s1 FP O ⟨wrOff s1 t1, ?_, fun a o e k => ?_, M.own, M.src⟩ trivial)
    · exact M.stp.trans t1 (fun a m => (C.cwr a m).2.2.imp (fun k => List.mem_append_right _ (List.mem_append_right _ k)) id) fun i m => .inl m
    · obtain ⟨o', e'⟩ := M.dom a o e k
      exact ⟨o', t1.heap a o' e' (.inr fun z => (C.cwr a z).2.2.elim k fun z => by rw [z] at e; cases e)⟩
  | cons x xs' =>
    obtain ⟨fl1, bt, b2, hbt, hbd, hrest⟩ : ∃ fl1 bt b2, BdTo c.q tg x b bt ∧ SsTo c sc bt body fl1 b2 ∧ ((fl1 = .next ∧ LpTo (TnTo c sc tg body) xs' b2 fl b') ∨ (fl1 = .brk ∧ fl = .next ∧ b2 = b') ∨ ∃ v, fl1 = .ret v ∧ fl = .ret v ∧ b2 = b') := by
      cases q with
      | next _ b1 _ _ _ _ h1 h2 => obtain ⟨bt, k1, k2⟩ := h1; exact ⟨_, bt, b1, k1, k2, .inl ⟨rfl, h2⟩⟩
      | brk _ _ _ _ h1 => obtain ⟨bt, k1, k2⟩ := h1; exact ⟨_, bt, _, k1, k2, .inr (.inl ⟨rfl, rfl, rfl⟩)⟩
      | ret _ _ _ _ v h1 => obtain ⟨bt, k1, k2⟩ := h1; exact ⟨_, bt, _, k1, k2, .inr (.inr ⟨v, rfl, rfl, rfl⟩)⟩
    have hap := hap (by simp)
    have ex0 : ∀ a ∈ wr, ∃ o, s.heap.get? a = some o := fun a m => (hap a (C.cwr a (C.csub a m)).1).2
    have bk : ∀ {a}, s.heap.get? a = none → s0.heap.get? a = none := fun e => M.back ex0 e
    refine it s (.refl _ _ _ _) _ _ fun u gv s1 rd' wr' t1 rv hgv go hex hexg gr it1 => ?_
    have X1 := wrOff s1 t1
    have C1 : Cur c.h₀ env rd wr rd' wr' s0 := by
      refine ⟨fun a m => ⟨(gr.newW a m).1, (gr.newW a m).2.1, (gr.newW a m).2.2.elim (fun k => (C.cwr a k).2.2) fun k => .inr (bk k)⟩, fun a m => ?_, fun a m => gr.subW a (C.csub a m)⟩
      rcases gr.newR a m with k | ⟨k, _⟩
      · exact C.crd a k
      · refine ⟨.inr (bk k), M.env.ne_new k, fun x c e => ?_⟩
        rintro rfl
        obtain ⟨_, wv, ⟨o', e1, _⟩, _⟩ := M.env.cells x _ e
        rw [k] at e1; cases e1
    have wrF1 : ∀ x z, b.lookup x = some z → ∀ a ∈ FP x, a ∉ wr' := fun x z e a m k => (gr.newW a k).2.2.elim (wrF x z e a m) fun k => by
      exact (M.env.fpo e m k).elim
    have hap1 : ∀ a ∈ rd', a ∉ O ∧ ∃ o, s1.heap.get? a = some o := fun a m => by
      rcases gr.newR a m with k | ⟨k, o, e⟩
      · refine ⟨(hap a k).1, ?_⟩
        by_cases z : a ∈ wr'
        · exact hex a z
        · obtain ⟨o, e⟩ := (hap a k).2
          exact ⟨o, t1.heap a o e (.inr fun y => z (gr.subW a y))⟩
      · refine ⟨fun z => ?_, o, e⟩
        obtain ⟨o', e'⟩ := exO a z
        rw [k] at e'; cases e'
    have offWL : ∀ a ∈ rd', a ∉ WL := fun a m k => by
      rcases F.pls a k with rfl | ⟨x, c, e, rfl⟩
      · exact (C1.crd _ m).2.1 rfl
      · exact (C1.crd _ m).2.2 x _ e rfl
    refine hbt.go rv go ?_
    refine hbt.asg X1 F.pls (fun y m => F.bnd y (List.all_eq_true.mp hok y m)) hr.no rv (fun a m => (C1.crd a (hgv a m).1).2.1) fun s2 FP2 X2 t2 n1 n2 => ?_
    have dom2 : ∀ a o, s1.heap.get? a = some o → ∃ o', s2.heap.get? a = some o' := fun a o e => by
      by_cases k : a ∈ WL
      · exact F.pls.dom X2 k
      · exact ⟨o, t2.heap a o e (.inr k)⟩
    have dom1 : ∀ a o, s.heap.get? a = some o → ∃ o', s1.heap.get? a = some o' := fun a o e => by
      by_cases k : a ∈ wr'
      · exact hex a k
      · exact ⟨o, t1.heap a o e (.inr fun y => k (gr.subW a y))⟩
    have M2 : Mid c.Pin c.h₀ env sc bL FPL OL WL rd wr gs s0 bt s2 FP2 O := by
      refine ⟨X2, ?_, fun a o e k => ?_, fun a m => M.own a m, fun y z e a m => ?_⟩
      · exact (M.stp.trans t1 (fun a m => (C.cwr a m).2.2.imp (fun k => List.mem_append_right _ (List.mem_append_right _ k)) id) fun i m => .inl m).trans t2 (fun a m => .inl (List.mem_append_left _ m)) (by first | exact nn | nofun)
      · obtain ⟨o1, e1⟩ := M.dom a o e k
        obtain ⟨o2, e2⟩ := dom1 a o1 e1
        exact dom2 a o2 e2
      · by_cases k : y ∈ tNames tg
        · obtain ⟨g1, g2⟩ := hgv a (n2 y k z e a m)
          rcases (C1.crd a g1).1 with z' | z'
          · exact .inr ⟨z', fun y => g2 (C1.csub a y)⟩
          · exact .inl (.inl z')
        · obtain ⟨k1, k2⟩ := n1 y k
          exact M.src y z (k1 ▸ e) a (k2 ▸ m)
    have wrF2 : ∀ y z, bt.lookup y = some z → ∀ a ∈ FP2 y, a ∉ wr' := fun y z e a m => by
      by_cases k : y ∈ tNames tg
      · exact (hgv a (n2 y k z e a m)).2
      · obtain ⟨k1, k2⟩ := n1 y k
        exact wrF1 y z (k1 ▸ e) a (k2 ▸ m)
    have wr2 : ∀ a ∈ wr', ∃ o, s2.heap.get? a = some o := fun a m => by
      obtain ⟨o, e⟩ := hex a m
      exact dom2 a o e
    refine hbd ⟨⟨A, _, s2, env, FP2, O, hr, X2⟩, WL, F⟩ _ fun f s3 FP3 O3 P3 g3 => ?_
    have M3 := M2.ofStP F (fun a m => wr2 a (C1.csub a m)) P3
    have wrF3 : ∀ y z, b2.lookup y = some z → ∀ a ∈ FP3 y, a ∉ wr' := fun y z e a m k => by
      rcases P3.src y z e a m with q | ⟨y', z', e', m'⟩
      · obtain ⟨o, e⟩ := wr2 a k
        rw [q] at e; cases e
      · exact wrF2 y' z' e' a m' k
    have rdW : ∀ a ∈ rd', a ∉ WL ++ O := fun a m k => by
      rcases List.mem_append.mp k with k | k
      · exact offWL a m k
      · exact (hap1 a m).1 k
    have plsNew : ∀ a ∈ WL, c.h₀.get? a = none := fun a k => by
      rcases F.pls a k with rfl | ⟨x, c, e, rfl⟩
      · exact X1.above
      · exact (X1.cells x _ e).1
    have nextI : LpTo (TnTo c sc tg body) xs' b2 fl b' → ∃ m, m < (x :: xs').length ∧ ∃ xs'' b FP O rdc wrc, xs''.length = m ∧ LpTo (TnTo c sc tg body) xs'' b fl b' ∧ It c.h₀ c.prog c.w A I rdc wrc gs xs'' s3 ∧ Mid c.Pin c.h₀ env sc bL FPL OL WL rd wr gs s0 b s3 FP O ∧ Cur c.h₀ env rd wr rdc wrc s0 ∧ (∀ x z, b.lookup x = some z → ∀ a ∈ FP x, a ∉ wrc) ∧ (xs'' ≠ [] → ∀ a ∈ rdc, a ∉ O ∧ ∃ o, s3.heap.get? a = some o) := fun q => by
      refine ⟨xs'.length, Nat.lt_succ_self _, xs', b2, FP3, O3, rd', wr', rfl, q, it1.agr ((Agr.of t2 (fun a m => offWL a m) (by first | exact nn | nofun) fun a k => plsNew a k).trans (.of P3.stp rdW (by first | exact nn | nofun) fun a k => (List.mem_append.mp k).elim (plsNew a) fun k => (X2.newO a k).1)), M3, C1, wrF3, fun _ a m => ⟨fun k => ?_, ?_⟩⟩
      · rcases P3.own a k with k | k
        · exact (hap1 a m).1 k
        · obtain ⟨o, e⟩ := (hap1 a m).2
          obtain ⟨o', e'⟩ := dom2 a o e
          rw [k] at e'; cases e'
      · obtain ⟨o, e⟩ := (hap1 a m).2
        obtain ⟨o', e'⟩ := dom2 a o e
        exact P3.dom a o' e'
    rcases hrest with ⟨rfl, q⟩ | ⟨rfl, rfl, rfl⟩ | ⟨v, rfl, rfl, rfl⟩
    · cases f <;> first | exact g3.elim | exact nextI q
    · cases f <;> first | exact g3.elim | exact h .next s3 FP3 O3 M3 trivial
    · cases f <;> first | exact g3.elim | exact h (.ret _) s3 FP3 O3 M3 (flp_back (fun a e => M2.back (fun a m => wr2 a (C1.csub a m)) e) g3)
structure FsTo (c : Cx) (sc : Scope) (b : Loc) (iter : Expr) (xs : List V) (bL : Loc) : Prop where
  fold : ∀ env x, foldedSetIterable iter env x = pure x
  go : ∀ (t : AtS c sc b) (Q : PySem.Value → Shared → Prop), (∀ I rd wr gs s' O', Ext t.s s' → EnvR c.Pin c.h₀ t.env ⟨sc, bL⟩ t.FP O' s'.heap → (∀ a ∈ O', a ∈ t.O) → (∀ x z, bL.lookup x = some z → ∃ z', b.lookup x = some z') → (∀ a ∈ rd, Src t.s b t.FP a ∧ ∃ o, s'.heap.get? a = some o) → (xs ≠ [] → ∀ a ∈ rd, a ∉ O') → (∀ a ∈ wr, t.s.heap.get? a = none ∧ a ∈ rd) → (∀ i ∈ gs, t.s.gens[i]? = none ∧ ∃ g, s'.gens[i]? = some g) →
      (∀ A' : Around, Room c.q c.h₀ c.R A' → It c.h₀ c.prog c.w A' I rd wr gs xs s') → Q (.ref I) s') → wpAny t.M t.A (eval iter t.env) (fun u s1 => wpAny t.M t.A (pyIter u) Q t.E s1) t.E t.s
section
variable {c : Cx} {sc : Scope} {b b' bL : Loc} {iter tg ts : Expr} {xs : List V} {v : V} {fl : Fl} {body : List Stmt} {p q : Pos} {x : PySem.Str} {fr : Bool}
theorem src_fin (t : AtS c sc b) {Q : PySem.Value → Shared → Prop} {u : PySem.Value} {s1 : Shared} {fp : List Addr} (x1 : Ext t.s s1) (o1 : ∀ a ∈ fp, Src t.s b t.FP a) (it : IterTo c.q c.h₀ c.prog c.w c.R t.s fp xs u s1) (sf : Softer b bL) (hf : ∀ x v, bL.lookup x = some (v, .frz) → ∀ a ∈ t.FP x, a ∉ ownL bL t.FP) (hap : xs ≠ [] → ∀ a ∈ fp, a ∉ ownL bL t.FP)
    (h : ∀ I rd wr gs s' O', Ext t.s s' → EnvR c.Pin c.h₀ t.env ⟨sc, bL⟩ t.FP O' s'.heap → (∀ a ∈ O', a ∈ t.O) → (∀ x z, bL.lookup x = some z → ∃ z', b.lookup x = some z') → (∀ a ∈ rd, Src t.s b t.FP a ∧ ∃ o, s'.heap.get? a = some o) → (xs ≠ [] → ∀ a ∈ rd, a ∉ O') → (∀ a ∈ wr, t.s.heap.get? a = none ∧ a ∈ rd) → (∀ i ∈ gs, t.s.gens[i]? = none ∧ ∃ g, s'.gens[i]? = some g) →
      (∀ A' : Around, Room c.q c.h₀ c.R A' → It c.h₀ c.prog c.w A' I rd wr gs xs s') → Q (.ref I) s') : wpAny t.M t.A (pyIter u) Q t.E s1 := by
  refine it t.A t.E Q t.room fun I rd wr gs s2 x2 k1 k2 k3 k4 _ => h I rd wr gs s2 _ (x1.ext x2) ((t.X.soft sf hf).ext (x1.ext x2)) (ownL_sub t.X sf) (fun x z e => let ⟨_, e'⟩ := sf.val x z.1 z.2 e; ⟨_, e'⟩) (fun a m => ⟨(k1 a m).1.elim (o1 a) .inl, (k1 a m).2⟩) (fun ne a m k => ?_) k2 k3 k4
  rcases (k1 a m).1 with q | q
  · exact hap ne a q k
  · obtain ⟨x, v, e, m'⟩ := mem_ownL.mp k
    exact t.X.fpo (sf.own x v e) m' q
theorem frzOff (t : AtS c sc b) : ∀ x v, b.lookup x = some (v, .frz) → ∀ a ∈ t.FP x, a ∉ ownL b t.FP := fun x v e a m k => t.X.frz x v e a m (ownL_sub t.X (.refl b) a k)
theorem FsTo.new (hf : ∀ env x, foldedSetIterable iter env x = pure x) (h1 : EvTo c ⟨sc, b⟩ iter v true) (i : ItTo c.q v xs) : FsTo c sc b iter xs b := ⟨hf, fun t Q h => h1 t.toAt _ fun u s1 p1 => by
  obtain ⟨f, x1, r1, o1, n1⟩ := p1
  exact src_fin t x1 o1 (IterTo.back x1 (i.go (t.X.ext x1).low r1)) (.refl b) (frzOff t) (fun _ a m k => by
    obtain ⟨x, v, e, m'⟩ := mem_ownL.mp k
    exact t.X.fpo e m' ((n1 rfl).2 a m)) h⟩
theorem FsTo.nil (hf : ∀ env x, foldedSetIterable iter env x = pure x) (h1 : EvTo c ⟨sc, b⟩ iter v fr) (i : ItTo c.q v []) : FsTo c sc b iter [] b := ⟨hf, fun t Q h => h1 t.toAt _ fun u s1 p1 => by
  obtain ⟨f, x1, r1, o1, n1⟩ := p1
  exact src_fin t x1 o1 (IterTo.back x1 (i.go (t.X.ext x1).low r1)) (.refl b) (frzOff t) (fun ne => absurd rfl ne) h⟩
theorem FsTo.frz (hv : b.lookup x = some (v, .frz)) (hd : notDbg x = true) (i : ItTo c.q v xs) : FsTo c sc b (.Name x p) xs b := ⟨fun _ _ => rfl, fun t Q h => by
  have hd : (x == ("__debug__" : PySem.Str)) = false := by simpa [notDbg] using hd
  exact name_ok t.X hv hd p fun u sl r => src_fin t (.refl _ _ _) (fun a m => .inr ⟨x, _, hv, m⟩) (i.go t.X.low r) (.refl b) (frzOff t) (fun _ a m => frzOff t x _ hv a m) h⟩
theorem FsTo.gen {f : PySem.Value} {f0 f1 : Bool} {args : List Expr} {vs ys : List V} (h0 : EvTo c ⟨sc, b⟩ (.Name x q) (.val f) f0) (h1 : EvsTo c ⟨sc, b⟩ args vs f1) (hf : flatVs vs = true) (e : c.Γ.gen f vs = some ys) : FsTo c sc b (.Call (.Name x q) args [] p) ys b := ⟨fun _ _ => rfl, fun t Q h => by
  refine wpAny_bind (h0 t.toAt _ fun u s1 p1 => ?_)
  obtain ⟨f0, x1, r1, o1, _⟩ := p1
  refine VR.valE r1 fun _ => ?_
  obtain ⟨k1, k2⟩ := c.ok.gen _ _ _ e
  refine call_ok (t.toAt.ext x1) k1 h1 .nil p fun us zs s2 fp g x2 ra rk so _ => ?_
  obtain ⟨rfl, rfl⟩ := rk.nilE
  have := flats_nil ra hf
  subst this
  exact k2 t.A t.E s2 _ [] _ t.room (t.X.ext (x1.ext x2)).low ra fun z s3 x3 it => src_fin t ((x1.ext x2).ext x3) (by first | exact nn | nofun) (it.back (x1.ext x2)) (.refl b) (frzOff t) (by first | exact nn | nofun) h⟩
theorem StTo.for (h1 : FsTo c sc b iter xs bL) (hok : (tNames tg).all (ownName sc) = true) (h2 : LpTo (TnTo c sc tg body) xs bL fl b') : StTo c sc b (.For tg iter body [] p) fl b' := fun t Q h => by
  refine wpAny_For ?_ (h1.fold _)
  have X := t.X
  refine h1.go t (fun it s₂ => codeAny t.M t.A (.forLoop tg it body [] t.env) (fun r s' => match r with | .ok f => Q f s' | .error e => cameBackBy t.M t.A t.env t.E e s') s₂) fun I rd wr gs s1 O' x1 X1 hO inB hrd hap hwr hgs it => ?_
  have wrF : ∀ x z, bL.lookup x = some z → ∀ a ∈ t.FP x, a ∉ wr := fun x z e a m k => by
    obtain ⟨z', e'⟩ := inB x z e
    exact X.fpo e' m (hwr a k).1
  refine for_ok h2 hok t.F ⟨fun a m => ⟨(hrd a m).1.off (pe := ⟨sc, b⟩) X, X.srcCell (hrd a m).1, (hrd a m).2⟩, fun a m => ⟨(hwr a m).2, X.low0 (hwr a m).1⟩⟩ t.room (it t.A t.room) X1 hap wrF fun f s2 FP2 O2 M g => ?_
  refine h f s2 FP2 O2 ⟨M.env, ?_, fun a o e => ?_, fun a m => ?_, fun x z e a m => ?_⟩ (flp_back (fun a e => back x1 e) g)
  · refine (x1.mono (by first | exact nn | nofun) (by first | exact nn | nofun)).trans M.stp (fun a m => ?_) fun i m => .inr (hgs i m).1
    rcases List.mem_append.mp m with m | m
    · exact .inl (List.mem_append_left _ m)
    · exact (List.mem_append.mp m).elim (fun m => .inl (List.mem_append_right _ (hO a m))) fun m => .inr (hwr a m).1
  · exact M.dom a o (x1.keep a o e) fun k => by rw [(hwr a k).1] at e; cases e
  · exact (M.own a m).imp (hO a) (back x1)
  · rcases M.src x z e a m with k | ⟨k, _⟩
    · rcases k with k | ⟨y, z', e', m'⟩
      · exact .inl (back x1 k)
      · obtain ⟨z'', e''⟩ := inB y z' e'
        exact .inr ⟨y, z'', e'', m'⟩
    · exact (hrd a k).1
inductive WhTo (c : Cx) (sc : Scope) (ts : Expr) (body : List Stmt) : Nat → Loc → Fl → Loc → Prop
  | done (n : Nat) (b : Loc) : EtTo c ⟨sc, b⟩ ts false → WhTo c sc ts body n b .next b
  | next (n : Nat) (b b1 b2 : Loc) (fl : Fl) : EtTo c ⟨sc, b⟩ ts true → SsTo c sc b body .next b1 → WhTo c sc ts body n b1 fl b2 → WhTo c sc ts body (n + 1) b fl b2
theorem StTo.while {n : Nat} (h1 : WhTo c sc ts body n b fl b') : StTo c sc b (.While ts body [] p) fl b' := fun t Q h => by
  refine wpAny_While (codeAny_whileLoop (fun k s1 => ∃ b1 FP1 O1, WhTo c sc ts body k b1 fl b' ∧ t.P b1 s1 FP1 O1) ?_ n ⟨b, t.FP, t.O, h1, .refl t.X⟩)
  rintro k s1 ⟨b1, FP1, O1, q, P⟩
  cases q with
  | done _ _ h1 =>
    exact h1 ⟨t.A, _, s1, t.env, FP1, O1, t.room, P.env⟩ _ fun s2 x2 => wpAny_execs_nil (h .next s2 FP1 O1 (P.trans (.ext P.env x2)) trivial)
  | next n _ b2 _ _ h1 h2 h3 =>
    refine h1 ⟨t.A, _, s1, t.env, FP1, O1, t.room, P.env⟩ _ fun s2 x2 => ?_
    have P2 := P.trans (.ext (WL := t.WL) P.env x2)
    refine h2 ⟨⟨t.A, _, s2, t.env, FP1, O1, t.room, P2.env⟩, t.WL, t.F⟩ _ fun f s3 FP3 O3 P3 g3 => ?_
    cases f <;> first | exact g3.elim | exact ⟨n, Nat.lt_succ_self _, b2, FP3, O3, h3, P2.trans P3⟩
end

theorem VRf.keys {h : Heap} {fs : List (PySem.Str × V)} : ∀ {es : List DictEntry} {fp : List Addr}, VRf h es fs fp → ∀ name, (getL name es).isSome = true := by
  induction fs with
  | nil => intro es fp r name; obtain ⟨rfl, rfl⟩ := r.nilE; rfl
  | cons p fs ih =>
    obtain ⟨k, x⟩ := p
    intro es fp r name
    refine VRf.consE r fun en es t g g' hk r rs => ?_
    cases q : name == k with
    | true => rw [getL_hit (by rw [hk, beq_iff_eq.mp q])]; rfl
    | false => rw [getL_miss hk q]; exact ih rs name
theorem VRf.length {h : Heap} {fs : List (PySem.Str × V)} : ∀ {es : List DictEntry} {fp : List Addr}, VRf h es fs fp → es.length = fs.length := by
  induction fs with
  | nil => intro es fp r; obtain ⟨rfl, rfl⟩ := r.nilE; rfl
  | cons p fs ih =>
    obtain ⟨k, x⟩ := p
    intro es fp r
    refine VRf.consE r fun en es t g g' hk r rs => ?_
    rw [List.length_cons, List.length_cons, ih rs]
theorem VRf.put {h : Heap} {name : PySem.Str} {u : PySem.Value} {x : V} {g : List Addr} {hsh : Int} {t : Tok} (r0 : VR h u x g) {fs : List (PySem.Str × V)} : ∀ {es : List DictEntry} {fp : List Addr}, VRf h es fs fp →
    ∃ p1 p2, (p1 ++ p2).Sublist fp ∧ VRf h (putL name hsh (.str name t) u es) (setF fs name x) (p1 ++ (g ++ p2)) := by
  induction fs with
  | nil => intro es fp r; obtain ⟨rfl, rfl⟩ := r.nilE; exact ⟨[], [], .slnil, by show VRf h _ [(name, x)] _; simpa [putL] using VRf.cons (t := t) rfl r0 .nil⟩
  | cons p fs ih =>
    obtain ⟨k, y⟩ := p
    intro es fp r
    refine VRf.consE r fun en es t' f g' hk r rs => ?_
    unfold putL
    rw [setF_c]
    cases q : name == k with
    | true =>
      have q' := beq_iff_eq.mp q
      subst q'
      have : en.key.isStr name = true := by rw [hk]; exact beq_self_eq_true name
      rw [if_pos this, if_pos rfl]
      refine ⟨[], g', List.sublist_append_right f g', ?_⟩
      show VRf h _ _ (g ++ g')
      exact .cons hk r0 rs
    | false =>
      have : en.key.isStr name = false := by
        rw [hk]
        show (k == name) = false
        rw [Bool.eq_false_iff] at q ⊢
        exact fun z => q (beq_iff_eq.mpr (beq_iff_eq.mp z).symm)
      rw [this]
      simp only [Bool.false_eq_true, if_false]
      obtain ⟨p1, p2, sub, r'⟩ := ih rs
      refine ⟨f ++ p1, p2, by rw [List.append_assoc]; exact List.Sublist.append (List.Sublist.refl f) sub, ?_⟩
      rw [List.append_assoc]
      exact .cons hk r r'
theorem setattr_ok {c : Cx} {sc : Scope} {b : Loc} (t : AtS c sc b) {x a : PySem.Str} {C : Addr} {fs : List (PySem.Str × V)} {v : V} {p p' : Pos} (hv : b.lookup x = some (.inst C fs, .own)) (hd : notDbg x = true) (hfl : c.Γ.fld C a = true) (hz : decide (fs.length ≤ 900) = true) {s1 : Shared} {u : PySem.Value} {f : List Addr} (x1 : Ext t.s s1)
    (rv : VR s1.heap u v f) (nf : f.Nodup) (hfx : ∀ d ∈ f, d ∉ t.FP x) {Q : Unit → Shared → Prop}
    (h : ∀ s2 s3 W fp' z, Ext s1 s2 → Slot s2 t.env x z → Stp W [] s2 s3 → (∀ d ∈ W, d ∈ t.FP x) → (∀ d ∈ W, ∃ o, s3.heap.get? d = some o) → VR s3.heap z (.inst C (setF fs a v)) fp' → fp'.Nodup → (∀ d ∈ fp', d ∈ t.FP x ∨ d ∈ f) → Q () s3) :
    wpAny t.M t.A (assign (.Attribute (.Name x p) a p') t.env u) Q t.E s1 := by
  have hd : (x == ("__debug__" : PySem.Str)) = false := by simpa [notDbg] using hd
  have SO := c.ok.setF _ _ hfl
  obtain ⟨k1, k2, attr, k3, k4⟩ := c.ok.fld _ _ hfl
  have X1 := t.X.ext x1
  rw [arm_assign_Attribute]
  refine wpAny_bind (wpAny_holding (name_ok X1 hv hd p fun z sl r => wpAny_bind (wpAny_standAt (wpAny_bind (wpAny_holding ?_)))))
  obtain ⟨nd, -⟩ := t.X.own x _ hv
  revert h nd hfx sl
  generalize t.FP x = fx at r ⊢
  refine VR.instE r fun ad dx es n' fp q1 q2 rf hfx h sl nd => ?_
  have kin := c.ok.base.kin.keeps X1.low
  refine set_plain kin (⟨q1, rfl, rfl, q2⟩ : W.InstAt s1.heap ad (instObj C dx) C (some (dictOf es n'))) SO.set ?_
  have xt : Ext s1 { s1 with toks := s1.toks + 1 } := .toks _ _
  refine attr_ok (s := { s1 with toks := s1.toks + 1 }) (kin.keeps xt.keep) q1 q2 SO.over SO.taker k2 (rf.keys a) (by rw [rf.length]; exact of_decide_eq_true hz) fun s3 n3 t3 hdx tt => ?_
  refine wpAny_release ?_
  obtain ⟨p1, p2, sub, rf'⟩ := (rf.keeps xt.keep).put (hsh := PyData.keyHash c.w.params a) (t := t3) (name := a) (rv.ext xt)
  have nd1 := List.nodup_cons.mp nd
  have nd2 := List.nodup_cons.mp nd1.2
  have subm : ∀ d ∈ p1 ++ p2, d ∈ fp := fun d m => sub.subset m
  have hfp : ∀ d ∈ f, d ∉ fp := fun d m k => hfx d m (.tail _ (.tail _ k))
  have inP : ∀ d ∈ p1 ++ (f ++ p2), d ∈ fp ∨ d ∈ f := fun d m => by
    rcases List.mem_append.mp m with m | m
    · exact .inl (subm _ (List.mem_append_left _ m))
    · exact (List.mem_append.mp m).elim .inr fun m => .inl (subm _ (List.mem_append_right _ m))
  have ndp' := List.nodup_append.mp (sub.nodup nd2.2)
  have adx : ad ∉ [dx] := fun k => nd1.1 ((List.mem_singleton.mp k) ▸ .head _)
  have dxP : ∀ d ∈ p1 ++ (f ++ p2), d ∉ [dx] := fun d m k => by
    have k := List.mem_singleton.mp k
    subst k
    exact (inP d m).elim nd2.1 fun m => hfx _ m (.tail _ (.head _))
  refine h _ s3 [dx] (ad :: dx :: (p1 ++ (f ++ p2))) _ xt (sl.ext xt) tt (fun d k => by rw [List.mem_singleton.mp k]; exact .tail _ (.head _)) (fun d k => by rw [List.mem_singleton.mp k]; exact ⟨_, hdx⟩) (.inst (tt.heap _ _ (xt.keep _ _ q1) (.inr adx)) hdx (rf'.but tt.heap dxP)) ?_ fun d m => ?_
  · refine List.nodup_cons.mpr ⟨fun m => ?_, List.nodup_cons.mpr ⟨fun m => dxP _ m (.head _), List.nodup_append.mpr ⟨ndp'.1, List.nodup_append.mpr ⟨nf, ndp'.2.1, fun d m e m' k => hfp d m (k ▸ subm _ (List.mem_append_right _ m'))⟩, fun d m e m' k => ?_⟩⟩⟩
    · rcases List.mem_cons.mp m with k | m
      · exact nd1.1 (k ▸ .head _)
      · exact (inP _ m).elim (fun m => nd1.1 (.tail _ m)) fun m => hfx _ m (.head _)
    · rcases List.mem_append.mp m' with m' | m'
      · exact hfp e m' (k ▸ subm _ (List.mem_append_left _ m))
      · exact ndp'.2.2 d m e m' k
  · rcases List.mem_cons.mp m with rfl | m
    · exact .inl (.head _)
    · rcases List.mem_cons.mp m with rfl | m
      · exact .inl (.tail _ (.head _))
      · exact (inP d m).imp (fun k => .tail _ (.tail _ k)) id
theorem EnvR.addView {Pin : List Addr} {h₀ : Heap} {s : Shared} {env : Env} {sc : Scope} {b : Loc} {FP : PySem.Str → List Addr} {O : List Addr} {y : PySem.Str} {u : PySem.Value} {v : V} {f : List Addr} (X : EnvR Pin h₀ env ⟨sc, b⟩ FP O s.heap) (sl : Slot s env y u) (r : VR s.heap u v f) (off : ∀ a ∈ f, a ≠ env.locals)
    (hk : env.kindOf y = some .local ∨ ((env.kindOf y = some .cell ∨ (env.kindOf y = some .free ∧ (y == ("__classdict__" : PySem.Str)) = false)) ∧ (env.cells.lookup y).isSome = true)) : EnvR Pin h₀ env ⟨sc, setL b y v .view⟩ (setFP FP y f) O s.heap := by
  have lk : ∀ {z w}, (setL b y v .view).lookup z = some w → (z = y ∧ w = (v, .view) ∧ setFP FP y f z = f) ∨ (b.lookup z = some w ∧ setFP FP y f z = FP z) := fun {z w} e => by
    rw [lookup_setL] at e
    by_cases q : z = y
    · rw [if_pos q] at e; cases e; exact .inl ⟨q, rfl, if_pos q⟩
    · rw [if_neg q] at e; exact .inr ⟨e, if_neg q⟩
  have lo : ∀ {z w st}, (setL b y v .view).lookup z = some (w, st) → st ≠ .view → b.lookup z = some (w, st) ∧ setFP FP y f z = FP z := fun {z w st} e n => (lk e).elim (fun q => absurd (congrArg Prod.snd q.2.1) n) id
  refine ⟨X.sc, X.kind, X.glo, X.blt, X.low, X.above, ?_, fun z c e => ?_, fun z w e => ?_, X.apartC, fun z w e a m => ?_, fun z w e => ?_, fun z w e => ?_, fun z w z' w' ne e e' => ?_, X.newO, X.pin⟩
  · obtain ⟨m, hm, hv⟩ := X.ns
    refine ⟨m, hm, fun z w e k => ?_⟩
    rcases lk e with ⟨rfl, rfl, q⟩ | ⟨e, q⟩
    · rw [q]
      rcases sl with ⟨_, m', hm', q⟩ | ⟨k', _⟩
      · rw [ns_eq hm hm']; exact ⟨u, q, r⟩
      · exact absurd k k'
    · rw [q]; exact hv z w e k
  · obtain ⟨a1, wv, a2, a3⟩ := X.cells z c e
    refine ⟨a1, wv, a2, fun w e' k => ?_⟩
    rcases lk e' with ⟨rfl, rfl, q⟩ | ⟨e', q⟩
    · rw [q]
      rcases sl with ⟨k', _⟩ | ⟨_, c', hc, q⟩
      · exact absurd k' k
      · rw [e] at hc; cases hc
        obtain ⟨o1, b1, b2⟩ := a2
        obtain ⟨o2, b3, b4⟩ := q
        rw [b1] at b3; cases b3
        rw [b2] at b4; cases b4
        exact ⟨u, rfl, r⟩
    · rw [q]; exact a3 w e' k
  · rcases lk e with ⟨rfl, _, _⟩ | ⟨e, _⟩
    · exact hk
    · exact X.kinds z w e
  · rcases lk e with ⟨_, _, q⟩ | ⟨e, q⟩
    · rw [q] at m; exact off a m
    · rw [q] at m; exact X.off z w e a m
  · obtain ⟨e, q⟩ := lo e (by first | exact nn | nofun)
    rw [q]; exact X.own z w e
  · obtain ⟨e, q⟩ := lo e (by first | exact nn | nofun)
    rw [q]; exact X.frz z w e
  · obtain ⟨e, q⟩ := lo e (by first | exact nn | nofun)
    obtain ⟨e', q'⟩ := lo e' (by first | exact nn | nofun)
    rw [q, q']; exact X.apart z w z' w' ne e e'
theorem lookup_drop {b : Loc} {y z : PySem.Str} {w : V × Sta} (e : (b.filter fun p => !(p.1 == y)).lookup z = some w) : z ≠ y ∧ b.lookup z = some w := by
  induction b with
  | nil => cases e
  | cons p r ih =>
    obtain ⟨k, q⟩ := p
    rw [List.filter_cons] at e
    cases hk : k == y with
    | true =>
      rw [show (!((k, q) : PySem.Str × V × Sta).1 == y) = false from by show (!(k == y)) = false; rw [hk]; rfl] at e
      obtain ⟨i1, i2⟩ := ih e
      refine ⟨i1, ?_⟩
      rw [List.lookup_cons]
      have : (z == k) = false := by
        rw [Bool.eq_false_iff]
        intro h
        exact i1 ((beq_iff_eq.mp h).trans (beq_iff_eq.mp hk))
      rw [this]; exact i2
    | false =>
      rw [show (!((k, q) : PySem.Str × V × Sta).1 == y) = true from by show (!(k == y)) = true; rw [hk]; rfl, if_pos rfl, List.lookup_cons] at e
      rw [List.lookup_cons]
      cases hz : z == k with
      | true =>
        rw [hz] at e
        refine ⟨fun h => ?_, e⟩
        rw [← beq_iff_eq.mp hz, h, beq_self_eq_true] at hk; cases hk
      | false => rw [hz] at e; exact ih e
theorem lookup_keep {b : Loc} {y z : PySem.Str} (h : z ≠ y) : (b.filter fun p => !(p.1 == y)).lookup z = b.lookup z := by
  induction b with
  | nil => rfl
  | cons p r ih =>
    obtain ⟨k, q⟩ := p
    rw [List.filter_cons]
    cases hk : k == y with
    | true =>
      rw [if_neg (by decide), List.lookup_cons]
      have : (z == k) = false := by
        rw [Bool.eq_false_iff]
        intro e
        exact h ((beq_iff_eq.mp e).trans (beq_iff_eq.mp hk))
      rw [this]; exact ih
    | false =>
      rw [if_pos (by decide), List.lookup_cons, List.lookup_cons, ih]
section
variable {c : Cx} {sc : Scope} {b b1 b' : Loc} {st : Stmt} {ss ss' : List Stmt} {fl : Fl} {v y y' v1 v2 : V} {x a : PySem.Str} {p p' q q' p1 p2 tp pos apos cpos : Pos} {e e' o i ts l r : Expr} {fr : Bool} {name : PySem.Str} {C : Addr} {fs : List (PySem.Str × V)} {f : PySem.Value} {args : List Expr} {vs : List V} {st1 st2 : Sta} {k : Nat}
theorem StTo.attr (h1 : EvTo c ⟨sc, b⟩ e v true) (hc : isComp e = false) (hv : b.lookup x = some (.inst C fs, .own)) (hd : notDbg x = true) (nv : noView b = true) (hf : c.Γ.fld C a = true) (hz : decide (fs.length ≤ 900) = true) (eb : setL b x (.inst C (setF fs a v)) .own = b') : StTo c sc b (.Assign [.Attribute (.Name x p) a p'] e pos) .next b' := fun t Q h => by
  subst eb
  refine wpAny_Assign_stores (h1 t.toAt _ fun u s1 p1 => ?_) (by unfold swapsWithSole; exact swaps_no hc _ _) (by unfold swappedStores; rfl)
  obtain ⟨f, x1, rv, ov, nv'⟩ := p1
  obtain ⟨n1, n2⟩ := nv' rfl
  refine setattr_ok t hv hd hf hz x1 rv n1 (fun c m k => t.X.fpo hv k (n2 c m)) fun s2 s3 W fp' z x2 sl tw hW dW r nd hg => ?_
  obtain ⟨FP', O', P⟩ := mut_fin t nv hv (.refl _ _ _) (x1.ext x2) sl tw hW dW r nd fun a m => (hg a m).imp id (n2 a)
  exact h .next s3 FP' O' P trivial
theorem StTo.move {y : PySem.Str} (hy : b.lookup y = some (v, .own)) (hdy : notDbg y = true) (hv : b.lookup x = some (.inst C fs, .own)) (hd : notDbg x = true) (ne : (y == x) = false) (nv : noView b = true) (hf : c.Γ.fld C a = true) (hz : decide (fs.length ≤ 900) = true) (eb : setL (setL b x (.inst C (setF fs a v)) .own) y v .view = b') : StTo c sc b (.Assign [.Attribute (.Name x p) a p'] (.Name y q) pos) .next b' := fun t Q h => by
  subst eb
  have hdy : (y == ("__debug__" : PySem.Str)) = false := by simpa [notDbg] using hdy
  have ne : y ≠ x := fun q => by rw [q, beq_self_eq_true] at ne; cases ne
  have X := t.X
  have ow := X.own y v hy
  have ap : ∀ d ∈ t.FP y, d ∉ t.FP x := X.apart y v x _ ne hy hv
  refine wpAny_Assign_stores (name_ok X hy hdy q fun u sly rv => ?_) (by unfold swapsWithSole; exact swaps_no rfl _ _) (by unfold swappedStores; rfl)
  refine setattr_ok t hv hd hf hz (.refl _ _ _) rv ow.1 ap fun s2 s3 W fp' z x2 sl tw hW dW r nd hg => ?_
  have X3 := EnvR.mutY (b1 := b.filter fun p => !(p.1 == y)) (Y := t.FP y) (fun z w e => (noView_ok nv) z w (lookup_drop e).2) (fun d m => ⟨(X.newO d (ow.2 d m)).1, X.off y _ hy d m, fun z w nz e => ?_⟩) X x2 hv sl tw hW r nd fun d m => (hg d m).imp .inl id
  rotate_left
  · obtain ⟨zy, e⟩ := lookup_drop e
    obtain ⟨w1, w2⟩ := w
    cases w2 with
    | own => exact X.apart y v z w1 (Ne.symm zy) hy e d m
    | frz => exact fun k => X.frz z w1 e d k (ow.2 d m)
    | view => exact absurd rfl ((noView_ok nv) _ _ e).2
  have cW : ∀ d ∈ W, ∀ o, s2.heap.get? d = some o → fixedObj o = false ∧ ∀ c, o.data ≠ .cell c := fun d m o e => by
    obtain ⟨o', e', k⟩ := (X.ext x2).fpd hv (hW d m)
    rw [e] at e'; cases e'; exact k
  have sl3 : Slot s3 t.env y u := by
    rcases sly.ext x2 with ⟨k, m, ⟨o, es, ep, e1, e2⟩, q⟩ | ⟨k, d, hc, o, e1, e2⟩
    · exact .inl ⟨k, m, ⟨o, es, ep, tw.heap _ _ e1 (.inr fun k => X.off x _ hv _ (hW _ k) rfl), e2⟩, q⟩
    · exact .inr ⟨k, d, hc, o, tw.heap _ _ e1 (.inr fun k => (cW d k o e1).2 _ e2), e2⟩
  have hs : ∀ z w, (setL (setL b x (.inst C (setF fs a v)) .own) y v .view).lookup z = some w → ∀ d ∈ setFP (setFP t.FP x fp') y (t.FP y) z, Src t.s b t.FP d := fun z w e d m => by
    unfold setFP at m
    by_cases zy : z = y
    · rw [if_pos zy] at m; exact .inr ⟨y, _, hy, m⟩
    · rw [if_neg zy] at m
      rw [lookup_setL, if_neg zy] at e
      exact setL_own (fun d m => (hg d m).elim (fun k => .inr ⟨x, _, hv, k⟩) fun k => .inr ⟨y, _, hy, k⟩) e d m
  refine h .next s3 (setFP (setFP t.FP x fp') y (t.FP y)) (t.O ++ fp') ⟨(X3.addView sl3 ((rv.ext x2).stp tw fun d m k => ap d m (hW d k)) (fun d m => X.off y _ hy d m) (X.kinds y _ hy)).weaken fun z w e => ⟨?_, rfl⟩, ?_, fun d ob e => ?_, fun d m => ?_, hs⟩ trivial
  · rw [lookup_setL] at e ⊢
    by_cases zy : z = y
    · rw [if_pos zy] at e ⊢; exact e
    · rw [if_neg zy] at e ⊢
      rw [lookup_setL] at e ⊢
      by_cases zx : z = x
      · rw [if_pos zx] at e ⊢; exact e
      · rw [if_neg zx] at e ⊢
        rw [lookup_keep zy]; exact e
  · exact (x2.mono (by first | exact nn | nofun) (by first | exact nn | nofun)).trans tw (fun d m => .inl (List.mem_append_right _ ((X.own x _ hv).2 d (hW d m)))) (by first | exact nn | nofun)
  · by_cases k : d ∈ W
    · exact dW d k
    · exact ⟨ob, tw.heap d ob (x2.keep d ob e) (.inr k)⟩
  · rcases List.mem_append.mp m with m | m
    · exact .inl m
    · exact .inl ((hg d m).elim (fun k => (X.own x _ hv).2 d k) fun k => ow.2 d k)
theorem StTo.eff (hb : ∀ env, attributeBase o name env (eval o env) = eval o env) (hn : decide (args.length < 20) = true) (hl : (apos.endLine == cpos.line) = true) (h1 : PlTo c sc b o (.inst C fs) y' b') (hnf : fs.lookup name = none) (ef : c.Γ.eff C name = some f) (h2 : EvsTo c ⟨sc, b⟩ args vs fr) (hf : flatVs vs = true) (ee : c.Γ.efn f (.inst C fs) vs = some y') :
    StTo c sc b (.Expr (.Call (.Attribute o name apos) args [] cpos) pos) .next b' := fun t Q h => by
  refine wpAny_Expr_any (meth_ok hb hn hl h2.1.1 fun pl => h1 t _ fun u s1 g x1 r1 nd own tw => ?_) (notInteractive t.X) rfl
  refine (c.ok.effM _ _ _ ef).2 t.A _ s1 u fs g _ _ t.room (t.X.ext x1).low r1 hnf fun s2 x2 => ?_
  refine call_ok (t.toAt.ext (x1.ext x2)) (c.ok.effM _ _ _ ef).1 h2 .nil cpos fun us zs s3 fa ga x3 ra rk _ _ => ?_
  obtain ⟨rfl, rfl⟩ := rk.nilE
  have := flats_nil ra hf
  subst this
  refine c.ok.effC _ _ _ ef _ _ _ ee t.A _ s3 u us g _ t.room (t.X.ext ((x1.ext x2).ext x3)).low (fun a m => (t.X.newO a (own a m).1).1) (r1.ext (x2.ext x3)) nd ra fun rr s4 g' st rv nd' hg hd => ?_
  obtain ⟨FP', O', P⟩ := tw s3 s4 g g' (x2.ext x3) st (fun a m => m) hd rv nd' fun a m => (hg a m).imp id (back (x2.ext x3))
  exact h .next s4 FP' O' P trivial
end

structure AgTo (op : Operator) (a b r : V) : Prop where
  go : ∀ {prog : Program} {w : World} {A : Around} {E : PySem.Value → Shared → Prop} {s : Shared} {u z : PySem.Value} {f g : List Addr} {Q : PySem.Value → Shared → Prop}, VR s.heap u a f → VR s.heap z b g → (∀ y s', Ext s s' → VR s'.heap y r [] → Q y s') → wpAny (model prog w) A (inplaceOp op u z) Q E s
theorem AgTo.addI {i j : Int} : AgTo .Add (.int i) (.int j) (.int (i + j)) := ⟨fun r1 r2 h => VR.intE r1 fun _ => VR.intE r2 fun _ => iadd_int (h _ _ (.toks _ _) (.int _ _))⟩
theorem AgTo.subI {i j : Int} : AgTo .Sub (.int i) (.int j) (.int (i - j)) := ⟨fun r1 r2 h => VR.intE r1 fun _ => VR.intE r2 fun _ => isub_int (h _ _ (.toks _ _) (.int _ _))⟩
noncomputable def setNs (b : Loc) (v : V) : List Expr → Loc
  | .Name x _ :: r => setNs (setL b x v .own) v r
  | _ => b
noncomputable def allNs (sc : Scope) : List Expr → Bool
  | [] => true
  | .Name x _ :: r => ownName sc x && allNs sc r
  | _ => false
theorem allNs_name {sc : Scope} {t : Expr} {ts : List Expr} (e : allNs sc (t :: ts) = true) : ∃ x p, t = .Name x p := by cases t <;> first | exact ⟨_, _, rfl⟩ | cases e
theorem assign_cons {env : Env} (t : Expr) (ts : List Expr) : ∃ a r, (assignEach (t :: ts) env).map (·.2) = a :: r := by cases t <;> exact ⟨_, _, rfl⟩
theorem names_ok {prog : Program} {w : World} {Pin : List Addr} {h₀ : Heap} {A : Around} {E : PySem.Value → Shared → Prop} {env : Env} {sc : Scope} {WL : List Addr} (F : Frm env sc WL) {v : V} {u : PySem.Value} {ts : List Expr} : ∀ {b : Loc} {FP : PySem.Str → List Addr} {O : List Addr} {s : Shared}, allNs sc ts = true → EnvR Pin h₀ env ⟨sc, b⟩ FP O s.heap → VR s.heap u v [] →
    ∀ {Q : Unit → Shared → Prop}, (∀ s' FP' O', StP Pin h₀ env sc b FP O WL s (setNs b v ts) s' FP' O' → Q () s') → wpAny (model prog w) A (assignAll u ((assignEach ts env).map (·.2))) Q E s := by
  induction ts with
  | nil => intro b FP O s e X r Q h; exact wpAny_pure (h s FP O (.refl X))
  | cons t ts ih =>
    intro b FP O s e X r Q h
    obtain ⟨x, p, rfl⟩ := allNs_name e
    obtain ⟨ox, e⟩ := Bool.and_eq_true_iff.mp e
    have one : ∀ {Q : Unit → Shared → Prop}, (∀ s', StP Pin h₀ env sc b FP O WL s (setL b x v .own) s' (setFP FP x []) (grow O [] .own) → VR s'.heap u v [] → Q () s') → wpAny (model prog w) A (assign (.Name x p) env u) Q E s := fun {Q} h =>
      assign_Name (assign1_ok X (.refl _ _ _) r (by first | exact nn | nofun) (.inr ⟨rfl, .nil, by first | exact nn | nofun⟩) F (F.bnd x ox) fun s' P t => h s' P (r.stp t (by first | exact nn | nofun)))
    rcases ts with _ | ⟨t2, ts⟩
    · exact one fun s' P _ => h s' _ _ P
    · have this : (assignEach (.Name x p :: t2 :: ts) env).map (·.2) = assign (.Name x p) env :: (assignEach (t2 :: ts) env).map (·.2) := rfl
      rw [this]
      obtain ⟨a, rr, ne⟩ := assign_cons (env := env) t2 ts
      have go : wpAny (model prog w) A (holding [u] (assign (.Name x p) env u) >>= fun _ => assignAll u ((assignEach (t2 :: ts) env).map (·.2))) Q E s :=
        wpAny_bind (wpAny_holding (one fun s1 P r1 => ih e P.env r1 fun s2 FP2 O2 P2 => h s2 FP2 O2 (P.trans P2)))
      rw [ne] at go ⊢
      exact go
theorem fm2 {f : Expr → Option PySem.Str} {a b : Expr} {x y : PySem.Str} (ha : f a = some x ∨ f a = none) (hb : f b = some y ∨ f b = none) (h : ([a, b].filterMap f).length = 2) : [a, b].filterMap f = [x, y] := by
  rcases ha with ha | ha <;> rcases hb with hb | hb
  · rw [List.filterMap_cons_some ha, List.filterMap_cons_some hb]; rfl
  · rw [List.filterMap_cons_some ha, List.filterMap_cons_none hb] at h; cases h
  · rw [List.filterMap_cons_none ha, List.filterMap_cons_some hb] at h; cases h
  · rw [List.filterMap_cons_none ha, List.filterMap_cons_none hb] at h; cases h
theorem ite_or {α : Type} {q : Prop} [Decidable q] (x : α) : (if q then some x else none) = some x ∨ (if q then some x else none) = none :=
  (Decidable.em q).imp (fun h => if_pos h) fun h => if_neg h
theorem swapped_two {env : Env} {x y : PySem.Str} {p1 p2 tp ep : Pos} {k k2 : Nat} {es : List Expr} (h : es.all (constantsAlone 8) = false) :
    swappedStores [.Tuple [.Name x p1, .Name y p2] k tp] (.Tuple es k2 ep) env = pure none ∨ swappedStores [.Tuple [.Name x p1, .Name y p2] k tp] (.Tuple es k2 ep) env = pure (some [x, y]) := by
  unfold swappedStores
  dsimp only
  split
  · exact .inl rfl
  · split
    · exact .inl rfl
    · split
      · exact .inl rfl
      · rename_i hn
        split
        · exact .inl rfl
        · rw [if_neg (by rw [h]; decide)]
          exact .inr (congrArg (fun l => (pure (some l) : Sem (Option (List PySem.Str)))) (fm2 (ite_or x) (ite_or y) (Decidable.byContradiction fun q => hn (Bool.or_eq_true_iff.mpr (.inl (bne_iff_ne.mpr q))))))
noncomputable def isTupE : Expr → Bool
  | .Tuple _ _ _ => true
  | _ => false
section
variable {c : Cx} {sc : Scope} {b b1 b' : Loc} {st : Stmt} {ss ss' : List Stmt} {fl : Fl} {v y' v1 v2 o r : V} {x y : PySem.Str} {p p' q q' p1 p2 tp ep pos apos cpos : Pos} {e i : Expr} {ts : List Expr} {fr : Bool} {name : PySem.Str} {st1 st2 : Sta} {k k2 : Nat}
theorem bd_fin (t : AtS c sc b) {tg : Expr} {u : PySem.Value} {s1 : Shared} {f : List Addr} (hb : BdTo c.q tg v b b') (hok : (tNames tg).all (ownName sc) = true) (x1 : Ext t.s s1) (ru : VR s1.heap u v f) (ou : ∀ a ∈ f, Src t.s b t.FP a) {Q : Unit → Shared → Prop} (h : ∀ s' FP', t.P b' s' FP' t.O → Q () s') : wpAny t.M t.A (assign tg t.env u) Q t.E s1 :=
  hb.asg (t.X.ext x1) t.F.pls (fun y m => t.F.bnd y (List.all_eq_true.mp hok y m)) t.room.no ru (fun a m => (ou a m).off (pe := ⟨sc, b⟩) t.X) fun s2 FP2 X2 t2 n1 n2 => h s2 FP2 ⟨X2, (x1.mono (by first | exact nn | nofun) (by first | exact nn | nofun)).trans t2 (fun a m => .inl (List.mem_append_left _ m)) (by first | exact nn | nofun), fun a ob e => (Classical.em (a ∈ t.WL)).elim (fun k => t.F.pls.dom X2 k) fun k => ⟨ob, t2.heap a ob (x1.keep a ob e) (.inr k)⟩, fun a m => .inl m, fun z w e a m => (Classical.em (z ∈ tNames tg)).elim (fun k => ou a (n2 z k w e a m)) fun k => by
    obtain ⟨k1, k2⟩ := n1 z k
    exact .inr ⟨z, w, k1 ▸ e, k2 ▸ m⟩⟩
theorem StTo.bind {tes : List Expr} (hb : BdTo c.q (.Tuple tes k tp) v b b') (hok : (tNames (.Tuple tes k tp)).all (ownName sc) = true) (ht : isTupE e = false) (hc : isComp e = false) (h1 : EvTo c ⟨sc, b⟩ e v fr) : StTo c sc b (.Assign [.Tuple tes k tp] e pos) .next b' := fun t Q h => by
  refine wpAny_Assign_stores (h1 t.toAt _ fun u s1 p1 => ?_) (by unfold swapsWithSole; exact swaps_no hc _ _) (by unfold swappedStores; cases e <;> first | rfl | cases ht)
  obtain ⟨f, x1, ru, ou, _⟩ := p1
  exact bd_fin t hb hok x1 ru ou fun s2 FP2 P => h .next s2 FP2 _ P trivial
theorem StTo.bind2 (hq : c.q = true) {es : List Expr} (ox : ownName sc x = true) (oy : ownName sc y = true) (ne : (x == y) = false) (hcn : es.all (constantsAlone 8) = false) (h1 : EvTo c ⟨sc, b⟩ (.Tuple es k2 ep) (.tup [v1, v2]) fr) (f1 : flatV v1 = true) (f2 : flatV v2 = true) (eb : setL (setL b x v1 .own) y v2 .own = b') : StTo c sc b (.Assign [.Tuple [.Name x p1, .Name y p2] k tp] (.Tuple es k2 ep) pos) .next b' := fun t Q h => by
  subst eb
  have ne : x ≠ y := fun q => by rw [q, beq_self_eq_true] at ne; cases ne
  rcases swapped_two (env := t.env) (x := x) (y := y) (p1 := p1) (p2 := p2) (tp := tp) (ep := ep) (k := k) (k2 := k2) hcn with hw | hw
  · refine wpAny_Assign_stores (h1 t.toAt _ fun u s1 p1 => ?_) rfl hw
    obtain ⟨f, x1, ru, ou, _⟩ := p1
    refine bd_fin t (BdTo.pair hq (n := k) (st1 := .own) (st2 := .own) f1 f2 rfl rfl) ?_ x1 ru ou fun s2 FP2 P => h .next s2 FP2 _ P trivial
    show ([x, y] : List PySem.Str).all (ownName sc) = true
    rw [List.all_cons, List.all_cons, ox, oy]; rfl
  · rw [exec_Assign_arm]
    refine wpAny_bind (wpAny_standAt ?_)
    rw [show swapsWithSole [Expr.Tuple [.Name x p1, .Name y p2] k tp] (.Tuple es k2 ep) pos.line t.env = pure false from rfl]
    refine wpAny_bind (wpAny_pure ?_)
    rw [if_neg (by decide)]
    refine wpAny_bind (h1 t.toAt _ fun u s1 p1 => ?_)
    obtain ⟨f, x1, ru, ou, _⟩ := p1
    rw [hw]
    refine wpAny_bind (wpAny_pure ?_)
    unfold assignStores
    dsimp only
    refine wpAny_bind (wpAny_rule ?_)
    revert ou
    refine VR.tupE ru fun a us n' q rs ou => ?_
    revert q ou
    refine VRs.consE rs fun u1 us g1 _ r1 rs => VRs.consE rs fun u2 us g2 _ r2 rs q ou => ?_
    obtain ⟨rfl, rfl⟩ := rs.nilE
    have := flat_nil r1 f1
    subst this
    have := flat_nil r2 f2
    subst this
    have ht : s1.heap.IsTuple a #[u1, u2] := ⟨_, q, rfl, _, rfl⟩
    refine wpAny_bind (wpAny_mono (wpAny_unpackItems_tuple (Q := fun l s2 => l = [u1, u2] ∧ Ext s1 s2) (items := #[u1, u2]) (t.room.no hq) ht fun h' hs => ⟨rfl, .of_heap (tk := s1.toks) fun a o e => hs a o (Nat.ne_of_lt (Heap.lt_size e)) e⟩) (fun l s2 hl => ?_) fun _ _ x => x)
    obtain ⟨rfl, x2⟩ := hl
    have x02 := x1.ext x2
    rw [show ([x, y].reverse.map fun n => bindName t.env n) = [bindName t.env y, bindName t.env x] from rfl, show [u1, u2].reverse = [u2, u1] from rfl]
    refine wpAny_bind (assignInOrder_cons (wpAny_bindName (assign1_ok t.X x02 (r2.ext x2) (by first | exact nn | nofun) (.inr ⟨rfl, .nil, by first | exact nn | nofun⟩) t.F (t.F.bnd y oy) fun s3 P3 t3 => ?_)))
    refine assignInOrder_cons (wpAny_bindName (assign1_ok P3.env (.refl _ _ _) ((r1.ext x2).stp t3 (by first | exact nn | nofun)) (by first | exact nn | nofun) (.inr ⟨rfl, .nil, by first | exact nn | nofun⟩) t.F (t.F.bnd x ox) fun s4 P4 t4 => wpAny_pure (wpAny_pure ?_)))
    have P := P3.trans P4
    have lk : ∀ z w, (setL (setL b x v1 .own) y v2 .own).lookup z = some w → (setL (setL b y v2 .own) x v1 .own).lookup z = some w := fun z w e => by
      rw [lookup_setL, lookup_setL] at e ⊢
      by_cases zx : z = x
      · subst zx
        rw [if_neg ne, if_pos rfl] at e
        rw [if_pos rfl]; exact e
      · by_cases zy : z = y
        · rw [if_pos zy] at e
          rw [if_neg zx, if_pos zy]; exact e
        · rw [if_neg zy, if_neg zx] at e
          rw [if_neg zx, if_neg zy]; exact e
    exact h .next s4 _ _ ⟨P.env.weaken fun z w e => ⟨lk z w e, rfl⟩, P.stp, P.dom, P.own, fun z w e => P.src z w (lk z w e)⟩ trivial
theorem StTo.names {t1 t2 : Expr} (hn : allNs sc (t1 :: t2 :: ts) = true) (h1 : EvTo c ⟨sc, b⟩ e v fr) (hf : flatV v = true) (eb : setNs b v (t1 :: t2 :: ts) = b') : StTo c sc b (.Assign (t1 :: t2 :: ts) e pos) .next b' := fun t Q h => by
  subst eb
  obtain ⟨x, p, rfl⟩ : ∃ x p, t1 = .Name x p := by cases t1 <;> first | exact ⟨_, _, rfl⟩ | cases hn
  refine wpAny_Assign_stores (h1 t.toAt _ fun u s1 p1 => ?_) rfl (by unfold swappedStores; cases e <;> rfl)
  obtain ⟨f, x1, ru, ou, _⟩ := p1
  have := flat_nil ru hf
  subst this
  exact names_ok t.F hn (t.X.ext x1) ru fun s2 FP2 O2 P => h .next s2 FP2 O2 ((StP.ext t.X x1).trans P) trivial
theorem StTo.aug {op : Operator} (ox : ownName sc x = true) (hx : b.lookup x = some (o, st1)) (h1 : EvTo c ⟨sc, b⟩ e v fr) (h2 : AgTo op o v r) (eb : setL b x r .own = b') : StTo c sc b (.AugAssign (.Name x p) op e pos) .next b' := fun t Q h => by
  subst eb
  refine wpAny_AugAssign_Name (look_loc t.toAt hx fun u ru => h1 t.toAt _ fun z s1 p1 => ?_)
  obtain ⟨f, x1, rz, oz, _⟩ := p1
  exact h2.go (ru.ext x1) rz fun y s2 x2 ry => assign1_ok t.X (x1.ext x2) ry (by first | exact nn | nofun) (.inr ⟨rfl, .nil, by first | exact nn | nofun⟩) t.F (t.F.bnd x ox) fun s3 P _ => h .next s3 _ _ P trivial
theorem StTo.setC {st : Sta} {g : Comprehension} {rr : List Comprehension} {elt : Expr} {scope : Scope} {xs l : List V} (ox : ownName sc x = true) (ck : compOk scope ⟨sc, b⟩ g rr = true) (e1 : EiTo c ⟨sc, b⟩ g.iter xs) (e2 : CsTo c (relab scope sc) (capB scope b) g rr elt xs l) (hz : l.length ≤ 1000000) (hs : (match st with | .own => flatVs l | .view => true | .frz => false) = true) (eb : setL b x (.lst l) st = b') :
    StTo c sc b (.Assign [.Name x p] (.ListComp elt (g :: rr) scope cpos) pos) .next b' := fun t Q h => by
  subst eb
  have fin : ∀ {D : Addr} {f : List Addr} {s1 : Shared}, Ext t.s s1 → t.s.heap.get? D = none → VR s1.heap (.ref D) (.lst l) (D :: f) → (∀ a ∈ f, Src t.s b t.FP a) → ∀ {Q : Unit → Shared → Prop}, (∀ s', t.P (setL b x (.lst l) st) s' (setFP t.FP x (D :: f)) (grow t.O (D :: f) st) → Stp t.WL [] s1 s' → Q () s') → wpAny t.M t.A (storeName t.env x (.ref D)) Q t.E s1 := fun {D f s1} x1 dN rv sf {Q} h => by
    refine assign1_ok t.X x1 rv (fun a m => (List.mem_cons.mp m).elim (fun k => .inl (k ▸ dN)) (sf a)) ?_ t.F (t.F.bnd x ox) h
    cases st with
    | view => exact .inl rfl
    | frz => cases hs
    | own =>
      refine .inr ⟨rfl, ?_⟩
      have : f = [] := by
        cases rv with
        | lst _ rv => exact flats_nil rv hs
      subst this
      exact ⟨List.nodup_cons.mpr ⟨by first | exact nn | nofun, .nil⟩, fun a m => by rw [List.mem_singleton.mp m]; exact dN⟩
  have hd := comp_head (env := t.env) ck
  obtain ⟨q, sw⟩ : ∃ q, swapsWith (.ListComp elt (g :: rr) scope cpos) (some (.Name x p)) pos.line t.env = pure q := ⟨_, rfl⟩
  have post : ∀ {D C : Addr} {f : List Addr} {s1 s2 : Shared} {m : PySem.Str → Option PySem.Value}, t.s.heap.get? C = none → D ≠ C → (∀ a ∈ f, a ≠ C) → s1.heap.Ns C m → Stp t.WL [] s1 s2 → t.P (setL b x (.lst l) st) s2 (setFP t.FP x (D :: f)) (grow t.O (D :: f) st) →
      s2.heap.Ns C m ∧ ∀ h', Heap.SameBut C s2.heap h' → t.P (setL b x (.lst l) st) { s2 with heap := h' } (setFP t.FP x (D :: f)) (grow t.O (D :: f) st) := fun {D C f s1 s2 m} cN dc fc hm tt P => by
    have hm2 : s2.heap.Ns C m := by
      obtain ⟨o, es, ep, e1, e2⟩ := hm
      exact ⟨o, es, ep, tt.heap _ _ e1 (.inr fun k => by
        obtain ⟨o, e⟩ := t.F.pls.dom t.X k
        rw [cN] at e; cases e), e2⟩
    refine ⟨hm2, fun h' hs => ?_⟩
    have st : Stp [C] [] s2 { s2 with heap := h' } := .of_same (tk := s2.toks) hs fun o e => by obtain ⟨o', es, ep, e1, e2, _⟩ := hm2; rw [e] at e1; cases e1; exact fixed_dict e2
    refine ⟨P.env.stp st (fun k => ?_) (fun y c e k => ?_) (fun y z q a k kk => ?_) (fun a k => ?_), P.stp.trans st (fun a k => .inr (by rw [List.mem_singleton.mp k]; exact cN)) (by first | exact nn | nofun), fun a o e => ?_, P.own, P.src⟩
    · obtain ⟨o, e⟩ := t.X.loc_dom
      rw [List.mem_singleton.mp k, cN] at e; cases e
    · exact t.X.celln e ((List.mem_singleton.mp k) ▸ cN)
    · have kk := List.mem_singleton.mp kk
      unfold setFP at k
      by_cases yx : y = x
      · rw [if_pos yx] at k
        exact (List.mem_cons.mp k).elim (fun q => dc (q.symm.trans kk)) fun k => fc a k kk
      · rw [if_neg yx] at k
        rw [lookup_setL, if_neg yx] at q
        exact t.X.fpo q k (kk ▸ cN)
    · rw [List.mem_singleton.mp k]
      exact t.X.low0 cN
    · obtain ⟨o', e'⟩ := P.dom a o e
      exact ⟨o', st.heap a o' e' (.inr fun k => by rw [List.mem_singleton.mp k, cN] at e; cases e)⟩
  cases q with
  | false =>
    refine wpAny_Assign_Name ?_ sw
    rw [eval_ListComp, hd.1, hd.2]
    refine comp_core (use := none) t.toAt ck e1 e2 hz fun D C f s1 x1 dN cN dc rv sf hm => ?_
    obtain ⟨m, hm⟩ := hm
    refine ⟨m, hm, fun h' hs => ?_⟩
    have st' : Stp [C] [] s1 { s1 with heap := h' } := .of_same (tk := s1.toks) hs fun o e => by obtain ⟨o', es, ep, e1, e2, _⟩ := hm; rw [e] at e1; cases e1; exact fixed_dict e2
    exact fin (x1.trans st' (fun a m => .inr (by rw [List.mem_singleton.mp m]; exact cN)) (by first | exact nn | nofun)) dN (rv.stp st' fun a m k => by
      have k := List.mem_singleton.mp k
      rcases List.mem_cons.mp m with rfl | m
      · exact dc k
      · exact (sf a m).2.1 k) (fun a m => (sf a m).1) fun s2 P _ => h .next s2 _ _ P trivial
  | true =>
    rw [exec_Assign_Name_used _ _ _ _ sw]
    refine wpAny_bind (wpAny_standAt (wpAny_bind ?_))
    show wpAny _ _ (comprehension (.ListComp elt (g :: rr) scope cpos) scope t.env (firstIterPos (g :: rr) cpos) (newList []) (firstAsync (g :: rr)) (firstIter (g :: rr) t.env) (some (assign (.Name x p) t.env)) >>= fun _ => pure ()) _ _ _
    rw [hd.1, hd.2]
    refine wpAny_bind (comp_core (use := some (assign (.Name x p) t.env)) t.toAt ck e1 e2 hz fun D C f s1 x1 dN cN dc rv sf hm => ?_)
    obtain ⟨m, hm⟩ := hm
    refine assign_Name (fin x1 dN rv (fun a m => (sf a m).1) fun s2 P tt => ?_)
    obtain ⟨hm2, fn⟩ := post cN dc (fun a m => (sf a m).2.1) hm tt P
    exact ⟨m, hm2, fun h' hs => wpAny_pure (wpAny_pure (h .next _ _ _ (fn h' hs) trivial))⟩
end

section
variable {c : Cx} {sc : Scope} {b b1 b' : Loc} {ss body : List Stmt} {fl : Fl} {x y z : PySem.Str} {p p' q q1 q2 pos pos' apos apos' cpos cpos' : Pos} {o e1 e2 tg : Expr} {fr f1 f2 : Bool} {st : Sta} {k1 k2 : Nat}
theorem StTo.items0 (hq : c.q = true) (hx : b.lookup x = some (.dic, st)) (hd : notDbg x = true) (hl : (apos.endLine == cpos.line) = true) : StTo c sc b (.For tg (.Call (.Attribute (.Name x p) ("items" : PySem.Str) apos) [] [] cpos) body [] pos) .next b := fun t Q h => by
  have hd : (x == ("__debug__" : PySem.Str)) = false := by simpa [notDbg] using hd
  refine wpAny_For ?_ (fun _ => rfl)
  refine meth_ok (fun _ => rfl) rfl hl (by first | exact nn | nofun) fun pl => name_ok t.X hx hd _ fun u sl rv => ?_
  revert rv
  generalize t.FP x = fpx
  intro rv
  cases rv with
  | @dic d q nm =>
  have hm : ∀ s' : Shared, (∀ a o, t.s.heap.get? a = some o → s'.heap.get? a = some o) → s'.heap.DictAt (strKind c.prog c.w) d [] 0 := fun s' k => ⟨_, #[], k _ _ q, ⟨rfl, rfl, rfl⟩, rfl, by intro e m; simp at m, .nil, .nil⟩
  refine getMethod_builtin (T := "dict") ⟨_, q, rfl⟩ PySem.F.plainAttrs_dict PySem.F.slot_dict_items PySem.F.type_dict_items (fun a' e => by cases e; exact ⟨_, q, rfl⟩) ?_
  refine callWith_of (P := fun _ => True) rfl (fun h _ => keep_builtin _ _ h) (evalArgs_kw2_nil rfl (kwAll_nil ⟨trivial, ?_⟩))
  refine call_meetsIn PySem.F.slot_dict_items ⟨_, q, rfl⟩ PySem.F.entry_dict_items (PySem.F.args_dict_items_1 _) (meets_dict_items (strKind c.prog c.w) d nm) ⟨⟨[], (hm t.s fun _ _ e => e).dictOf⟩, ?_⟩
  have k1 : ∀ a o, t.s.heap.get? a = some o → (t.s.heap.push { cls := .type "dict_items", data := .fields #[.ref d] } : Heap).get? a = some o := fun a o e => Heap.get?_push_of_some _ e
  refine wpAny_pyIter_items (knd := strKind c.prog c.w) (kvs := []) (ep := 0) ⟨_, Heap.get?_push_size _ rfl, rfl, rfl⟩ (hm _ k1) ?_
  have k2 : ∀ (h1 : Heap) (ob : Obj) (a : Addr) (o : Obj), h1.get? a = some o → (h1.push ob).get? a = some o := fun h1 ob a o e => Heap.get?_push_of_some _ e
  refine codeAny_forLoop_any (fun k s' => s' = { t.s with heap := ((t.s.heap.push { cls := .type "dict_items", data := .fields #[.ref d] }).push { cls := .type "dict_itemiterator", data := .fields #[.none, .bool false, .ref d, .int 0 0, .int ([] : List (PySem.Str × PySem.Value)).length 0, .int 0 0, .none, .none] }) }) ?_ 0 rfl
  rintro k s1 rfl
  refine wpAny_pyNext_items_end (knd := strKind c.prog c.w) (kvs := []) (i := 0) (ep := 0) (t.room.no hq) (Heap.get?_push_size _ rfl) (hm _ fun a o e => k2 _ _ a o (k2 _ _ a o e)) rfl fun h' hs => wpAny_execs_nil ?_
  refine h .next _ t.FP t.O (.ext t.X (.of_heap (tk := t.s.toks) fun a o e => ?_)) trivial
  exact hs a o (Nat.ne_of_lt (Nat.lt_of_lt_of_le (Heap.lt_size e) (by simp))) (k2 _ _ a o (k2 _ _ a o e))
end

section
variable {kindOf : PySem.Str → Option NameKind} {x : PySem.Str} {u : PySem.Value} {binds : List (PySem.Str × PySem.Value)}
theorem bindL_cons {n : PySem.Str} {v : PySem.Value} {r : List (PySem.Str × PySem.Value)} {m : PySem.Str → Option PySem.Value} : bindL kindOf ((n, v) :: r) m = bindL kindOf r (if kindOf n = some .local then (fun y => if y = n then some v else m y) else m) := rfl
theorem bindC_cons {n : PySem.Str} {v : PySem.Value} {r : List (PySem.Str × PySem.Value)} {m : PySem.Str → Option PySem.Value} : bindC kindOf ((n, v) :: r) m = bindC kindOf r (if kindOf n = some .local then m else (fun y => if y = n then some v else m y)) := rfl
theorem bindL_skip : ∀ {m : PySem.Str → Option PySem.Value}, (∀ p ∈ binds, p.1 ≠ x) → bindL kindOf binds m x = m x := by
  induction binds with
  | nil => intro m h; rfl
  | cons p r ih =>
    obtain ⟨n, v⟩ := p
    intro m h
    rw [bindL_cons, ih fun p hp => h p (.tail _ hp)]
    split
    · exact if_neg (Ne.symm (h (n, v) (.head _)))
    · rfl
theorem bindC_skip : ∀ {m : PySem.Str → Option PySem.Value}, (∀ p ∈ binds, p.1 ≠ x) → bindC kindOf binds m x = m x := by
  induction binds with
  | nil => intro m h; rfl
  | cons p r ih =>
    obtain ⟨n, v⟩ := p
    intro m h
    rw [bindC_cons, ih fun p hp => h p (.tail _ hp)]
    split
    · rfl
    · exact if_neg (Ne.symm (h (n, v) (.head _)))
theorem bind_at : ∀ {m : PySem.Str → Option PySem.Value}, (binds.map (·.1)).Nodup → (x, u) ∈ binds → (kindOf x = some .local → bindL kindOf binds m x = some u) ∧ (kindOf x ≠ some .local → bindC kindOf binds m x = some u) := by
  induction binds with
  | nil => intro m nd h; cases h
  | cons p r ih =>
    obtain ⟨n, v⟩ := p
    intro m nd h
    rw [List.map_cons] at nd
    have nd := List.nodup_cons.mp nd
    rcases List.mem_cons.mp h with e | h
    · cases e
      refine ⟨fun k => ?_, fun k => ?_⟩
      · rw [bindL_cons, bindL_skip fun p hp e => nd.1 (List.mem_map.mpr ⟨p, hp, e⟩), if_pos k, if_pos rfl]
      · rw [bindC_cons, bindC_skip fun p hp e => nd.1 (List.mem_map.mpr ⟨p, hp, e⟩), if_neg k, if_pos rfl]
    · exact ⟨fun k => (ih nd.2 h).1 k, fun k => (ih nd.2 h).2 k⟩
end
structure Ent (h₀ : Heap) (sc : Scope) (binds : List (PySem.Str × PySem.Value)) (b : Loc) (FP : PySem.Str → List Addr) (O Pin : List Addr) (s : Shared) : Prop where
  names : (binds.map (·.1)).Nodup
  kinds : ∀ x u, (x, u) ∈ binds → sc.names.lookup x = some .local ∨ sc.names.lookup x = some .cell
  vals : ∀ x y, b.lookup x = some y → ∃ u, (x, u) ∈ binds ∧ VR s.heap u y.1 (FP x)
  own : ∀ x v, b.lookup x = some (v, .own) → (FP x).Nodup ∧ ∀ a ∈ FP x, a ∈ O
  frz : ∀ x v, b.lookup x = some (v, .frz) → ∀ a ∈ FP x, a ∉ O
  apart : ∀ x v x' v', x ≠ x' → b.lookup x = some (v, .own) → b.lookup x' = some (v', .own) → ∀ a ∈ FP x, a ∉ FP x'
  newO : ∀ a ∈ O, h₀.get? a = none ∧ ∃ o, s.heap.get? a = some o
  pin : ∀ a ∈ Pin, (("self" : PySem.Str), PySem.Value.ref a) ∈ binds
theorem entry_okF {Pin : List Addr} {prog : Program} {w : World} {h₀ : Heap} {A : Around} {E : PySem.Value → Shared → Prop} {s : Shared} {sc : Scope} {b : Loc} {FP : PySem.Str → List Addr} {O : List Addr} {binds : List (PySem.Str × PySem.Value)} {qual : PySem.Str} {func : Option Addr} {code : PySem.Value} (hk : sc.kind = .function) (lo : Low h₀ s) (N : Ent h₀ sc binds b FP O Pin s) {Q : Env → Shared → Prop}
    (h : ∀ env s' WL, EnvR Pin h₀ env ⟨sc, b⟩ FP O s'.heap → Frm env sc WL → (∀ a ∈ WL, s.heap.get? a = none) → (env.locals ∈ WL ∧ ∀ x c, env.cells.lookup x = some c → c ∈ WL) → Ext s s' → env.frame = some env.locals → Q env s') :
    wpAny (model prog w) A (newFunctionEnv sc mainGlobals [] binds qual func code none builtinsNs) Q E s := by
  have hcell : ∀ x, (x, NameKind.cell) ∈ sc.names → ((cellsFrom (s.heap.objs.size + 1) sc.names []).lookup x).isSome = true := fun x m => (cellsFrom_has (n := s.heap.objs.size + 1) (acc := []) m).elim fun c m => lookup_mem m
  refine wpAny_newFunctionEnv_cells hk (fun x hx => (N.kinds x.1 x.2 hx).imp id fun q => ⟨q, hcell _ (mem_of_lookup q)⟩) fun env he s' I => ?_
  have hs : env.scope = sc := by rw [he]; rfl
  have hl : env.locals = s.heap.objs.size := by rw [he]; rfl
  have hc : env.cells = cellsFrom (s.heap.objs.size + 1) sc.names [] := by rw [he]; rfl
  have ks : ∀ x, env.kindOf x = sc.names.lookup x := fun x => by
    show env.scope.names.lookup x = _
    rw [hs]
  obtain ⟨h', tk, hsame, keep⟩ := I.done
  have ext : Ext s s' := by rw [hsame]; exact .of_heap keep
  have newHi : ∀ a, s.heap.objs.size ≤ a → h₀.get? a = none := fun a q => lo.none (get_none_of_ge q)
  have oldNe : ∀ {a o}, s.heap.get? a = some o → a ≠ env.locals := fun q => by rw [hl]; exact Nat.ne_of_lt (Heap.lt_size q)
  generalize hWL : env.locals :: env.cells.filterMap (fun p => env.cells.lookup p.1) = WL
  have wl : ∀ a ∈ WL, a = env.locals ∨ ∃ x, env.cells.lookup x = some a := fun a m => by
    rw [← hWL] at m
    rcases List.mem_cons.mp m with rfl | m
    · exact .inl rfl
    · obtain ⟨⟨x, c⟩, _, q⟩ := List.mem_filterMap.mp m
      exact .inr ⟨x, q⟩
  have inW : ∀ x c, env.cells.lookup x = some c → c ∈ WL := fun x c q => by rw [← hWL]; exact .tail _ (List.mem_filterMap.mpr ⟨(x, c), mem_of_lookup q, q⟩)
  have locW : env.locals ∈ WL := by rw [← hWL]; exact .head _
  have cellHi : ∀ x c, env.cells.lookup x = some c → s.heap.objs.size ≤ c := fun x c e => by
    have := I.above x c (mem_of_lookup e)
    rw [hl] at this
    exact Nat.le_of_lt this
  have eqs : env.globals = mainGlobals ∧ env.builtins = builtinsNs := by rw [he]; exact ⟨rfl, rfl⟩
  refine h env s' WL ⟨hs, by rw [← hs] at hk; rw [← hs]; exact hk, eqs.1, eqs.2, fun a o e => I.toInCall.keep a o (lo a o e), ?_, ⟨_, I.toInCall.ns, fun x y e k => ?_⟩, fun x c e => ?_, fun x y e => ?_, fun x x' c e e' => ?_, fun x y e a m => ?_, N.own, N.frz, N.apart, fun a m => ⟨(N.newO a m).1, (N.newO a m).2.elim fun o q => oldNe q⟩, fun k a ha => ⟨_, I.toInCall.ns, (bind_at N.names (N.pin a ha)).1 k⟩⟩ ⟨fun a m => ?_, fun x q => ?_⟩ (fun a m => ?_) ⟨locW, inW⟩ ext (by rw [he]; rfl)
  · rw [hl]; exact newHi _ (Nat.le_refl _)
  · obtain ⟨u, hu, r⟩ := N.vals x y e
    exact ⟨u, (bind_at N.names hu).1 k, r.ext ext⟩
  · refine ⟨newHi c (cellHi x c e), _, I.cell x c e, fun y ey k => ?_⟩
    obtain ⟨u, hu, r⟩ := N.vals x y ey
    exact ⟨u, (bind_at N.names hu).2 k, r.ext ext⟩
  · obtain ⟨u, hu, r⟩ := N.vals x y e
    rcases N.kinds x u hu with q | q
    · exact .inl ((ks x).trans q)
    · exact .inr ⟨.inl ((ks x).trans q), by rw [hc]; exact hcell x (mem_of_lookup q)⟩
  · exact name_of_addr I.apart (mem_of_lookup e) (mem_of_lookup e')
  · obtain ⟨u, _, r⟩ := N.vals x y e
    obtain ⟨o, q, _⟩ := r.dom a m
    exact oldNe q
  · exact (wl a m).imp id fun ⟨x, q⟩ => ⟨x, a, q, rfl⟩
  · unfold ownName at q
    simp only [Bool.and_eq_true, Bool.or_eq_true, bne_iff_ne, ne_eq, beq_iff_eq] at q
    refine ⟨q.1, ?_⟩
    rw [ks]
    rcases q.2 with q | q
    · exact .inl ⟨q, locW⟩
    · obtain ⟨c, m⟩ := cellsFrom_has (n := s.heap.objs.size + 1) (acc := []) (mem_of_lookup q)
      rw [← hc] at m
      obtain ⟨c', hc'⟩ := Option.isSome_iff_exists.mp (lookup_mem m)
      exact .inr ⟨q, c', hc', inW _ _ hc'⟩
  · rcases wl a m with q | ⟨x, q⟩
    · rw [q, hl]; exact get_none_of_size
    · exact get_none_of_ge (cellHi x a q)
theorem entry_ok {Pin : List Addr} {prog : Program} {w : World} {h₀ : Heap} {A : Around} {E : PySem.Value → Shared → Prop} {s : Shared} {sc : Scope} {b : Loc} {FP : PySem.Str → List Addr} {O : List Addr} {binds : List (PySem.Str × PySem.Value)} {qual : PySem.Str} {func : Option Addr} {code : PySem.Value} (hk : sc.kind = .function) (lo : Low h₀ s) (N : Ent h₀ sc binds b FP O Pin s) {Q : Env → Shared → Prop}
    (h : ∀ env s' WL, EnvR Pin h₀ env ⟨sc, b⟩ FP O s'.heap → Frm env sc WL → (∀ a ∈ WL, s.heap.get? a = none) → (env.locals ∈ WL ∧ ∀ x c, env.cells.lookup x = some c → c ∈ WL) → Ext s s' → Q env s') :
    wpAny (model prog w) A (newFunctionEnv sc mainGlobals [] binds qual func code none builtinsNs) Q E s := entry_okF hk lo N fun env s' WL a b c d e _ => h env s' WL a b c d e
noncomputable def retV : Fl → Option V
  | .ret v => some v
  | .next => some .none
  | _ => none
theorem retV_ok {s s' : Shared} {O' : List Addr} {fl : Fl} {f : Flow} {v : V} (g : FlP s s' O' fl f) (hv : retV fl = some v) : (f = .next ∧ v = .none) ∨ ∃ u, f = .ret u ∧ ∃ fp, VR s'.heap u v fp ∧ fp.Nodup ∧ ∀ a ∈ fp, a ∈ O' ∨ s.heap.get? a = none := by
  cases fl with
  | next => cases hv; cases f <;> first | exact g.elim | exact .inl ⟨rfl, rfl⟩
  | ret v' => cases hv; cases f <;> first | exact g.elim | exact .inr ⟨_, rfl, g⟩
  | brk => cases hv
  | cont => cases hv
noncomputable abbrev Cx.pin (c : Cx) (l : List Addr) : Cx := { c with Pin := l }
noncomputable def prmOf : Stmt → Arguments
  | .FunctionDef _ a _ _ _ _ _ _ _ _ => a
  | _ => default
noncomputable def bodOf : Stmt → List Stmt
  | .FunctionDef _ _ b _ _ _ _ _ _ _ => b
  | _ => []
noncomputable def scpOf : Stmt → Scope
  | .FunctionDef _ _ _ _ _ _ sc _ _ _ => sc
  | _ => default
noncomputable def plainSc (sc : Scope) : Bool := sc.kind == .function && !sc.isCoroutine && !sc.isGenerator
structure FnIn (K : Frag) (f : Addr) (st : Stmt) (dV kV : PySem.Value) : Prop where
  ex : ∃ name qual doc pm cdv ct oc an od osl, K.lookup f = some ⟨oc, od, .func (fnOf name qual (prmOf st) (bodOf st) (scpOf st) dV kV doc pm an cdv ct), osl⟩ ∧ codeIn K cdv qual = true
  kp : keepIn K (.ref f) = true
noncomputable def BndTo (c : Cx) (st : Stmt) (dV kV : PySem.Value) (pos : List PySem.Value) (kw : List (PySem.Str × PySem.Value)) (s : Shared) (b : Loc) (FP : PySem.Str → List Addr) (O : List Addr) : Prop := ∀ name qual doc pm cdv ct an (A : Around) (E : PySem.Value → Shared → Prop) (Q : List (PySem.Str × PySem.Value) → Shared → Prop), (∀ binds s1, Ext s s1 → Ent c.h₀ (scpOf st) binds b FP O c.Pin s1 → Q binds s1) → wpAny (model c.prog c.w) A (bindArgs (fnOf name qual (prmOf st) (bodOf st) (scpOf st) dV kV doc pm an cdv ct) ⟨pos, kw⟩) Q E s
theorem fun_ok {c : Cx} {A : Around} {E : PySem.Value → Shared → Prop} {s : Shared} {b b' : Loc} {FP : PySem.Str → List Addr} {O : List Addr} {f : Addr} {st : Stmt} {dV kV : PySem.Value} {pos : List PySem.Value} {kw : List (PySem.Str × PySem.Value)}
    (I : FnIn c.K f st dV kV) (hsc : plainSc (scpOf st) = true) (hr : Room c.q c.h₀ (c.R + 1) A) (lo : Low c.h₀ s) (hbind : BndTo c st dV kV pos kw s b FP O)
    {fl : Fl} (q : SsTo c (scpOf st) b (bodOf st) fl b') {v : V} (hv : retV fl = some v) {Q : PySem.Value → Shared → Prop}
    (h : ∀ u env s' FP' O', EnvR c.Pin c.h₀ env ⟨scpOf st, b'⟩ FP' O' s'.heap → Stp O [] s s' → (∀ a o, s.heap.get? a = some o → ∃ o', s'.heap.get? a = some o') → (∀ a ∈ O', a ∈ O ∨ s.heap.get? a = none) → (∃ fp, VR s'.heap u v fp ∧ fp.Nodup ∧ ∀ a ∈ fp, a ∈ O' ∨ s.heap.get? a = none) → Q u s') :
    codeAny (model c.prog c.w) A (.call (.ref f) ⟨pos, kw⟩) (fun r s' => match r with | .ok (.ret v) => Q v s' | .ok _ => False | .error e => E e s') s := by
  have kin : c.K.In s.heap := c.ok.base.kin.keeps lo
  obtain ⟨⟨name, qual, doc, pm, cdv, ct, oc, an, od, osl, i1, i3⟩, _⟩ := I
  simp only [plainSc, Bool.and_eq_true, Bool.not_eq_true', beq_iff_eq] at hsc
  obtain ⟨⟨i4, i5⟩, i6⟩ := hsc
  refine codeAny_call_function (body := bodOf st) hr.depth (kin _ _ i1) rfl i5 i6 rfl (codeRec_of kin i3) (hbind _ _ _ _ _ _ _ _ _ _ fun binds s1 x1 N => ?_)
  have lo1 : Low c.h₀ s1 := lo.ext x1
  refine entry_ok i4 lo1 N fun env s2 WL X F hWL _ x2 => ⟨(c.ok.base.lim.keeps lo1).keeps x2.keep, codeAny_func ?_⟩
  have x12 := x1.ext x2
  refine q ⟨⟨A.deeper env, _, s2, env, FP, O, Room.deeper hr, X⟩, WL, F⟩ _ fun fw s3 FP3 O3 P g => ?_
  have fin : ∀ u, (∃ fp, VR s3.heap u v fp ∧ fp.Nodup ∧ ∀ a ∈ fp, a ∈ O3 ∨ s2.heap.get? a = none) → Q u s3 := fun u ⟨fp, r, nd, m⟩ =>
    h u env s3 FP3 O3 P.env ((x12.mono (by first | exact nn | nofun) (by first | exact nn | nofun)).trans P.stp (fun a m => (List.mem_append.mp m).elim (fun k => .inr (back x1 (hWL a k))) .inl) (by first | exact nn | nofun)) (fun a o e => P.dom a o (x12.keep a o e)) (fun a k => (P.own a k).imp id (back x12)) ⟨fp, r, nd, fun a k => (m a k).imp id (back x12)⟩
  rcases retV_ok g hv with ⟨rfl, rfl⟩ | ⟨u, rfl, gg⟩
  · exact fin .none ⟨[], .none, .nil, by first | exact nn | nofun⟩
  · exact fin u gg
theorem fun_eff {c : Cx} {A : Around} {E : PySem.Value → Shared → Prop} {s : Shared} {b b' : Loc} {FP : PySem.Str → List Addr} {O : List Addr} {f x : Addr} {st : Stmt} {dV kV : PySem.Value} {pos : List PySem.Value} {kw : List (PySem.Str × PySem.Value)}
    (I : FnIn c.K f st dV kV) (hsc : plainSc (scpOf st) = true) (hr : Room c.q c.h₀ (c.R + 1) A) (lo : Low c.h₀ s) (hself : (scpOf st).names.lookup ("self" : PySem.Str) = some .local) (hbind : BndTo (c.pin [x]) st dV kV pos kw s b FP O) (ex : ∀ a ∈ O, ∃ o, s.heap.get? a = some o)
    {fl : Fl} (q : SsTo (c.pin [x]) (scpOf st) b (bodOf st) fl b') {v : V} (hv : retV fl = some v) {y : V} (hy : b'.lookup ("self" : PySem.Str) = some (y, .own)) {Q : PySem.Value → Shared → Prop}
    (h : ∀ u s' g', (∃ fp, VR s'.heap u v fp) → Stp O [] s s' → VR s'.heap (.ref x) y g' → g'.Nodup → (∀ a ∈ g', a ∈ O ∨ s.heap.get? a = none) → (∀ a ∈ O, ∃ o, s'.heap.get? a = some o) → Q u s') :
    codeAny (model c.prog c.w) A (.call (.ref f) ⟨pos, kw⟩) (fun r s' => match r with | .ok (.ret v) => Q v s' | .ok _ => False | .error e => E e s') s := by
  refine fun_ok (c := c.pin [x]) I hsc hr lo hbind q hv fun u env s' FP' O' X t dom hO hret => ?_
  obtain ⟨u2, sl, r⟩ := X.slot hy
  have kl : env.kindOf ("self" : PySem.Str) = some .local := by
    show env.scope.names.lookup _ = _
    rw [X.sc]; exact hself
  obtain ⟨m, hm, e1⟩ := X.pin kl x (.head _)
  have : u2 = .ref x := by
    rcases sl with ⟨_, m', hm', e2⟩ | ⟨k, _⟩
    · rw [ns_eq hm hm', e2] at e1; cases e1; rfl
    · exact absurd kl k
  subst this
  obtain ⟨o1, o2⟩ := X.own _ _ hy
  exact h u s' _ (let ⟨fp, r, _⟩ := hret; ⟨fp, r⟩) t r o1 (fun a k => hO a (o2 a k)) fun a k => by
    obtain ⟨o, e⟩ := ex a k
    exact dom a o e

noncomputable def isRef (f : PySem.Value) (a : Addr) : Bool := match f with
  | .ref b => b == a
  | _ => false
theorem isRef_eq {f : PySem.Value} {a : Addr} (h : isRef f a = true) : f = .ref a := by
  unfold isRef at h
  split at h
  · rw [beq_iff_eq.mp h]
  · cases h
structure FnOk (c : Cx) (f : Addr) (al : Bool) (F : List V → List (PySem.Str × V) → Option V) : Prop where
  keep : ∀ h, c.K.In h → ∃ k, (k = Keeper.frame ∨ k = Keeper.machine ∨ k = Keeper.boundFrame) ∧ Looks (model c.prog c.w) h (keeperOf (.ref f)) k
  call : ∀ args kws r, F args kws = some r → ∀ (A : Around) (E : PySem.Value → Shared → Prop) (s : Shared) (us ks : List PySem.Value) (fp g : List Addr) (Q : PySem.Value → Shared → Prop), Room c.q c.h₀ (c.R + 2) A → Low c.h₀ s → (al = true → ∀ a ∈ fp ++ g, c.h₀.get? a = none) →
    VRs s.heap us args fp → VRs s.heap ks (kws.map (·.2)) g → (∀ u q s', Stp (if al = true then fp ++ g else []) [] s s' → VR s'.heap u r q → NewP s al (fp ++ g) q → Q u s') → wpAny (model c.prog c.w) A (PySem.call (.ref f) us ((kws.map (·.1)).zip ks)) Q E s
structure GenOk (c : Cx) (f : Addr) (F : List V → Option (List V)) : Prop where
  keep : ∀ h, c.K.In h → ∃ k, (k = Keeper.frame ∨ k = Keeper.machine ∨ k = Keeper.boundFrame) ∧ Looks (model c.prog c.w) h (keeperOf (.ref f)) k
  call : ∀ args ys, F args = some ys → ∀ (A : Around) (E : PySem.Value → Shared → Prop) (s : Shared) (us : List PySem.Value) (fp : List Addr) (Q : PySem.Value → Shared → Prop), Room c.q c.h₀ (c.R + 2) A → Low c.h₀ s →
    VRs s.heap us args fp → (∀ u s', Ext s s' → IterTo c.q c.h₀ c.prog c.w (c.R + 2) s fp ys u s' → Q u s') → wpAny (model c.prog c.w) A (PySem.call (.ref f) us) Q E s
structure EffOk (c : Cx) (f : Addr) (F : V → List V → Option V) : Prop where
  keep : ∀ h, c.K.In h → ∃ k, (k = Keeper.frame ∨ k = Keeper.machine ∨ k = Keeper.boundFrame) ∧ Looks (model c.prog c.w) h (keeperOf (.ref f)) k
  call : ∀ C fs vs y', F (.inst C fs) vs = some y' → ∀ (A : Around) (E : PySem.Value → Shared → Prop) (s : Shared) (u : PySem.Value) (us : List PySem.Value) (g : List Addr) (Q : PySem.Value → Shared → Prop), Room c.q c.h₀ (c.R + 2) A → Low c.h₀ s →
    (∀ a ∈ g, c.h₀.get? a = none) → VR s.heap u (.inst C fs) g → g.Nodup → VRs s.heap us vs [] → (∀ r s' g', Stp g [] s s' → VR s'.heap u y' g' → g'.Nodup → (∀ a ∈ g', a ∈ g ∨ s.heap.get? a = none) → (∀ a ∈ g, ∃ o, s'.heap.get? a = some o) → Q r s') →
    wpAny (model c.prog c.w) A (PySem.call (.ref f) (u :: us)) Q E s
theorem IterTo.mono {q : Bool} {h₀ : Heap} {prog : Program} {w : World} {R R' : Nat} {s₀ s : Shared} {fp : List Addr} {xs : List V} {u : PySem.Value} (h : R ≤ R') (x : IterTo q h₀ prog w R s₀ fp xs u s) : IterTo q h₀ prog w R' s₀ fp xs u s := fun A E Q hr k =>
  x A E Q (hr.mono h) fun I rd wr gs s' a1 a2 a3 a4 a5 a6 => k I rd wr gs s' a1 a2 a3 a4 (fun A' r => a5 A' (r.mono h)) fun A' E' Q' s'' r => a6 A' E' Q' s'' (r.mono h)
theorem GloS.mono {q : Bool} {prog : Program} {w : World} {K : Frag} {Γ : Glo} {h₀ : Heap} {R R' : Nat} (h : R ≤ R') (x : GloS q prog w K Γ h₀ R) : GloS q prog w K Γ h₀ R' where
  base := x.base
  keep := x.keep
  call := fun f args kws r e A E s us ks fp g Q hr => x.call f args kws r e A E s us ks fp g Q (hr.mono h)
  gen := fun f args ys e => ⟨(x.gen f args ys e).1, fun A E s us fp Q hr lo r k => (x.gen f args ys e).2 A E s us fp Q (hr.mono h) lo r fun u s' x' i => k u s' x' (i.mono h)⟩
  meth := fun v name f e => ⟨(x.meth v name f e).1, fun A E s u fp pl Q hr => (x.meth v name f e).2 A E s u fp pl Q (hr.mono h)⟩
  catt := fun v name r e A E s Q hr => x.catt v name r e A E s Q (hr.mono h)
  fld := x.fld
  setF := x.setF
  effM := fun C name f e => ⟨(x.effM C name f e).1, fun A E s u fs fp pl Q hr => (x.effM C name f e).2 A E s u fs fp pl Q (hr.mono h)⟩
  effC := fun C name f e fs vs y' e' A E s u us g Q hr => x.effC C name f e fs vs y' e' A E s u us g Q (hr.mono h)
  del := fun C f e A E s u i fs fp Q hr => x.del C f e A E s u i fs fp Q (hr.mono h)
noncomputable def Glo.addFn (Γ : Glo) (a : Addr) (F : List V → List (PySem.Str × V) → Option V) : Glo :=
  { Γ with fn := fun f vs ks => if isRef f a then F vs ks else Γ.fn f vs ks }
noncomputable def Glo.addGen (Γ : Glo) (a : Addr) (F : List V → Option (List V)) : Glo :=
  { Γ with gen := fun f vs => if isRef f a then F vs else Γ.gen f vs }
noncomputable def Glo.addEff (Γ : Glo) (C : Addr) (name : PySem.Str) (a : Addr) (F : V → List V → Option V) : Glo :=
  { Γ with
    eff := fun C' n => if C' == C && n == name then some (.ref a) else Γ.eff C' n
    efn := fun f y vs => if isRef f a then F y vs else Γ.efn f y vs }
section
variable {c : Cx} {f : Addr}
noncomputable def Cx.addFn (c : Cx) (f : Addr) (F : List V → List (PySem.Str × V) → Option V) (y : FnOk c f (c.Γ.al (.ref f)) F) : Cx := { c with
  Γ := c.Γ.addFn f F
  R := c.R + 2
  ok := { (GloS.mono (Nat.le_add_right _ 2) c.ok) with
    base := ⟨c.ok.base.kin, c.ok.base.lim, c.ok.base.names⟩
    keep := fun g args kws r e => by
      dsimp only [Glo.addFn] at e
      split at e
      · rename_i q; rw [isRef_eq q]; exact y.keep
      · exact c.ok.keep _ _ _ _ e
    call := fun g args kws r e => by
      dsimp only [Glo.addFn] at e
      split at e
      · rename_i q; have q := isRef_eq q; subst q; exact y.call _ _ _ e
      · exact (GloS.mono (Nat.le_add_right _ 2) c.ok).call _ _ _ _ e } }
noncomputable def Cx.addGen (c : Cx) (f : Addr) (F : List V → Option (List V)) (y : GenOk c f F) : Cx := { c with
  Γ := c.Γ.addGen f F
  R := c.R + 2
  ok := { (GloS.mono (Nat.le_add_right _ 2) c.ok) with
    base := ⟨c.ok.base.kin, c.ok.base.lim, c.ok.base.names⟩
    gen := fun g args ys e => by
      dsimp only [Glo.addGen] at e
      split at e
      · rename_i q; have q := isRef_eq q; subst q; exact ⟨y.keep, y.call _ _ e⟩
      · exact (GloS.mono (Nat.le_add_right _ 2) c.ok).gen _ _ _ e } }
end

noncomputable def methIn (K : Frag) (p : (Addr × PySem.Str) × Addr) : Bool := plainGet K p.1.1 p.1.2 && findIn K (.ref p.1.1) p.1.2 == some (some (.ref p.2)) && isFn K (.ref p.2)
theorem getL_none {h : Heap} {name : PySem.Str} {fs : List (PySem.Str × V)} : ∀ {es : List DictEntry} {fp : List Addr}, VRf h es fs fp → fs.lookup name = none → getL name es = some none := by
  induction fs with
  | nil => intro es fp r e; obtain ⟨rfl, rfl⟩ := r.nilE; rfl
  | cons p fs ih =>
    obtain ⟨k, x⟩ := p
    intro es fp r e
    rw [List.lookup_cons] at e
    refine VRf.consE r fun en es t g g' hk r rs => ?_
    cases q : name == k with
    | true => rw [q] at e; cases e
    | false =>
      rw [q] at e
      rw [getL_miss hk q]; exact ih rs e
section
variable {prog : Program} {w : World} {K : Frag} {A : Around} {E : PySem.Value → Shared → Prop} {s : Shared}
theorem meth_inst {C f : Addr} {name : PySem.Str} {u : PySem.Value} {fs : List (PySem.Str × V)} {fp : List Addr} {pl : Sem Bool} {Q : PySem.Value × List PySem.Value → Shared → Prop} (X : K.In s.heap) (hm : methIn K ((C, name), f) = true) (r : VR s.heap u (.inst C fs) fp) (hn : fs.lookup name = none)
    (h : Q (.ref f, [u]) s) : wpAny (model prog w) A (getMethod u name pl) Q E s := by
  simp only [methIn, Bool.and_eq_true, beq_iff_eq] at hm
  revert h
  refine VR.instE r fun a dx es n fp q1 q2 r1 h => ?_
  refine method_fn X (⟨q1, rfl, rfl, q2⟩ : W.InstAt _ _ _ _ (some _)) (plainGet_of hm.1.1).1 (plainGet_of hm.1.1).2 hm.1.2 (beq_iff_eq.mp hm.2) ?_ h
  show (lookIn name (dictOf _ _)).map _ = _
  rw [lookIn_dict, getL_none r1 hn]; rfl
theorem del_inst {C f : Addr} {u i : PySem.Value} {fs : List (PySem.Str × V)} {fp : List Addr} {Q : Unit → Shared → Prop} (X : K.In s.heap) (r : VR s.heap u (.inst C fs) fp) (hq : noSeq K C = true) (hs : findIn K (.ref C) "__delitem__" = some (some (.ref f))) (hf : isFn K (.ref f) = true)
    (h : wpAny (model prog w) A (PySem.call (.ref f) [u, i]) (fun _ s' => Q () s') E s) : wpAny (model prog w) A (delItem u i) Q E s := by
  revert h
  refine VR.instE r fun a dx es n fp q1 q2 r1 h => ?_
  have I : W.InstAt s.heap _ _ C (some _) := ⟨q1, rfl, rfl, q2⟩
  unfold delItem sequenceKey
  refine wpAny_holding (wpAny_bind (wpAny_bind (I.type.here ?_)))
  refine wpAny_bind ((anyM_none X hq).here ?_)
  rw [if_pos (show (!false) = true from rfl)]
  exact wpAny_pure (wpAny_bind (special_fn X I hs (beq_iff_eq.mp hf) (wpAny_mono h (fun _ _ z => wpAny_pure z) fun _ _ z => z)))
end
noncomputable def refP : PySem.Value → Option Addr
  | .ref a => some a
  | _ => none
theorem refP_some {v : PySem.Value} {a : Addr} (h : refP v = some a) : v = .ref a := by
  cases v <;> first | (cases h; rfl) | cases h
noncomputable def instP : V → Option (Addr × List (PySem.Str × V))
  | .inst C fs => some (C, fs)
  | _ => none
theorem instP_some {v : V} {p : Addr × List (PySem.Str × V)} (h : instP v = some p) : v = .inst p.1 p.2 := by
  cases v <;> first | (cases h; rfl) | cases h
noncomputable def cfP : CFound → Option PySem.Str
  | .val (.str x _) => some x
  | _ => none
theorem cfP_some {o : CFound} {x : PySem.Str} (h : cfP o = some x) : ∃ t, o = .val (.str x t) := by
  cases o with
  | val v => cases v <;> first | (cases h; exact ⟨_, rfl⟩) | cases h
  | _ => cases h
structure Tab where
  glob : List (PySem.Str × PySem.Value)
  fld : List (Addr × PySem.Str)
  meth : List ((Addr × PySem.Str) × Addr)
  catt : List ((Addr × PySem.Str) × PySem.Str)
  al : List Addr
noncomputable def globIn (K : Frag) (p : PySem.Str × PySem.Value) : Bool := isVal p.2 && (nsIn K mainGlobals p.1 == some (some p.2) || (nsIn K mainGlobals p.1 == some none && bootBuiltins p.1 == some p.2 && p.1 != "__name__"))
noncomputable def fldIn (K : Frag) (p : Addr × PySem.Str) : Bool := plainGet K p.1 p.2 && hasDictIn K p.1 && (findIn K (.ref p.1) p.2).any (noGet K)
  && findIn K (.ref p.1) "__setattr__" == some (some (.builtin "object.__setattr__")) && plainOver K p.1 && takerIn K p.1 p.2 == some none
noncomputable def cattIn (K : Frag) (p : (Addr × PySem.Str) × PySem.Str) : Bool := readsIn K p.1.1 (.type "type") && ((findCls K (.ref p.1.1) (.type "type") p.1.2).bind cfP) == some p.2
structure Tab.Ok (T : Tab) (K : Frag) : Prop where
  glob : T.glob.all (globIn K) = true
  fld : T.fld.all (fldIn K) = true
  meth : T.meth.all (methIn K) = true
  catt : T.catt.all (cattIn K) = true
  al : (T.meth.all fun p => !T.al.contains p.2) = true
noncomputable def Tab.glo (T : Tab) : Glo where
  glob := fun x => T.glob.lookup x
  fld := fun C a => T.fld.contains (C, a)
  meth := fun v name => (instP v).bind fun p => if (p.2.lookup name).isNone then (T.meth.lookup (p.1, name)).map PySem.Value.ref else none
  catt := fun v name => (refP v).bind fun C => (T.catt.lookup (C, name)).map V.str
  fn := fun _ _ _ => none
  al := fun f => (refP f).any T.al.contains
  gen := fun _ _ => none
  eff := fun _ _ => none
  efn := fun _ _ _ => none
theorem mem_lookup {α β : Type} [BEq α] [LawfulBEq α] {x : α} {v : β} {l : List (α × β)} (h : l.lookup x = some v) : (x, v) ∈ l := by
  induction l with
  | nil => cases h
  | cons p r ih =>
    obtain ⟨y, u⟩ := p
    rw [List.lookup_cons] at h
    cases q : x == y with
    | true => rw [q] at h; cases h; rw [beq_iff_eq.mp q]; exact .head _
    | false => rw [q] at h; exact .tail _ (ih h)
theorem Tab.gloS {q : Bool} {prog : Program} {w : World} {K : Frag} {h₀ : Heap} {T : Tab} {mg mb : PySem.Str → Option PySem.Value} (ok : T.Ok K) (kin : K.In h₀) (lim : h₀.NoLimit) (ng : h₀.Ns mainGlobals mg) (nb : h₀.Ns builtinsNs mb) (hb : ∀ x : PySem.Str, x ≠ "__name__" → mb x = bootBuiltins x) : GloS q prog w K T.glo h₀ 1 := by
  obtain ⟨o1, o2, o3, o4, o5⟩ := ok
  rw [List.all_eq_true] at o1 o2 o3 o4 o5
  have fl : ∀ {C name}, T.glo.fld C name = true → (plainGet K C name = true ∧ hasDictIn K C = true ∧ ∃ attr, findIn K (.ref C) name = some attr ∧ noGet K attr = true) ∧ SetOk K C name := fun {C name} e => by
    have z := o2 _ (List.contains_iff_mem.mp e)
    simp only [fldIn, Bool.and_eq_true, beq_iff_eq] at z
    obtain ⟨⟨⟨⟨⟨z1, z2⟩, z3⟩, z4⟩, z5⟩, z6⟩ := z
    obtain ⟨a, h1, h2⟩ := any_some z3
    exact ⟨⟨z1, z2, a, h1, h2⟩, z4, z5, z6⟩
  refine { base := ⟨kin, lim, mg, mb, ng, nb, fun x v e => ?_⟩, keep := fun _ _ _ _ e => ns e, call := fun _ _ _ _ e => ns e, gen := fun _ _ _ e => ns e, meth := ?_, catt := ?_, fld := fun C name e => (fl e).1, setF := fun C name e => (fl e).2, effM := fun _ _ _ e => ns e, effC := fun _ _ _ e => ns e, del := fun _ _ e => ns e }
  · have z := o1 _ (mem_lookup e)
    simp only [globIn, Bool.and_eq_true, Bool.or_eq_true, beq_iff_eq, bne_iff_ne] at z
    refine ⟨z.1, ?_⟩
    rcases z.2 with z | z
    · exact .inl (mg_of kin ng z)
    · exact .inr ⟨mg_none_of kin ng z.1.1, (hb x z.2).trans z.1.2⟩
  · intro v name f e
    obtain ⟨p, q, e2⟩ := Option.bind_eq_some_iff.mp e
    clear e
    cases instP_some q
    by_cases hn : (p.2.lookup name).isNone = true
    · rw [if_pos hn] at e2
      obtain ⟨g, e1, rfl⟩ := Option.map_eq_some_iff.mp e2
      have m := mem_lookup e1
      exact ⟨by simpa [Tab.glo, refP] using o5 _ m, fun A E s u fp pl Q hr lo r h => meth_inst (kin.keeps lo) (o3 _ m) r (Option.isNone_iff_eq_none.mp hn) (h s (.refl _ _ _))⟩
    · rw [if_neg hn] at e2; cases e2
  · intro v name r e A E s Q hr lo h
    obtain ⟨C, q, e2⟩ := Option.bind_eq_some_iff.mp e
    clear e
    cases refP_some q
    obtain ⟨x, e1, rfl⟩ := Option.map_eq_some_iff.mp e2
    obtain ⟨z1, z2⟩ := Bool.and_eq_true_iff.mp (o4 _ (mem_lookup e1))
    obtain ⟨o, ec, q⟩ := Option.bind_eq_some_iff.mp (beq_iff_eq.mp z2)
    obtain ⟨t, rfl⟩ := cfP_some q
    exact cls_value (kin.keeps lo) z1 ec rfl (h _ _ (.toks _ _) (.str _ _))
noncomputable def Cx.addEff (c : Cx) (C : Addr) (name : PySem.Str) (f : Addr) (F : V → List V → Option V) (y : EffOk c f F) (hm : methIn c.K ((C, name), f) = true) (hd : name = ("__delitem__" : PySem.Str) → noSeq c.K C = true) : Cx := { c with
  Γ := c.Γ.addEff C name f F
  R := c.R + 2
  ok := { (GloS.mono (Nat.le_add_right _ 2) c.ok) with
    base := ⟨c.ok.base.kin, c.ok.base.lim, c.ok.base.names⟩
    effM := fun C' n' g e => by
      dsimp only [Glo.addEff] at e
      split at e
      · rename_i q
        simp only [Bool.and_eq_true, beq_iff_eq] at q
        obtain ⟨rfl, rfl⟩ := q
        cases e
        exact ⟨y.keep, fun A E s u fs fp pl Q hr lo r hn h => meth_inst (c.ok.base.kin.keeps lo) hm r hn (h s (.refl _ _ _))⟩
      · exact (GloS.mono (Nat.le_add_right _ 2) c.ok).effM _ _ _ e
    effC := fun C' n' g e fs vs y' e' A E s u us gg Q hr lo => by
      dsimp only [Glo.addEff] at e e'
      split at e'
      · rename_i q; have q := isRef_eq q; subst q; exact y.call _ _ _ _ e' A E s u us gg Q hr lo
      · rename_i q
        split at e
        · cases e; exact absurd (beq_self_eq_true f) q
        · exact (GloS.mono (Nat.le_add_right _ 2) c.ok).effC _ _ _ e _ _ _ e' A E s u us gg Q hr lo
    del := fun C' g e A E s u i fs fp Q hr lo r h => by
      dsimp only [Glo.addEff] at e
      split at e
      · rename_i q
        simp only [Bool.and_eq_true, beq_iff_eq] at q
        obtain ⟨rfl, rfl⟩ := q
        cases e
        simp only [methIn, Bool.and_eq_true, beq_iff_eq] at hm
        exact del_inst (c.ok.base.kin.keeps lo) r (hd rfl) hm.1.2 hm.2 h
      · exact (GloS.mono (Nat.le_add_right _ 2) c.ok).del C' g e A E s u i fs fp Q hr lo r h } }

noncomputable def entB : List PySem.Str → List V → Loc
  | x :: xs, v :: vs => (x, v, if flatV v then .own else .frz) :: entB xs vs
  | _, _ => []
noncomputable def entOk (sc : Scope) (xs : List PySem.Str) : Bool := decide xs.Nodup && xs.all fun x => sc.names.lookup x == some .local || sc.names.lookup x == some .cell
theorem entOk_of {sc : Scope} {xs : List PySem.Str} (h : entOk sc xs = true) : xs.Nodup ∧ ∀ x ∈ xs, sc.names.lookup x = some .local ∨ sc.names.lookup x = some .cell := by
  obtain ⟨h1, h2⟩ := Bool.and_eq_true_iff.mp h
  refine ⟨of_decide_eq_true h1, fun x m => ?_⟩
  have := List.all_eq_true.mp h2 x m
  simpa only [Bool.or_eq_true, beq_iff_eq] using this
theorem zip_names {us : List PySem.Value} {xs : List PySem.Str} (h : xs.length = us.length) : (xs.zip us).map (·.1) = xs := by
  rw [← List.unzip_fst, List.unzip_zip h]
section
variable {h₀ : Heap} {s : Shared} {sc : Scope}
theorem entB_ok {h : Heap} {xs : List PySem.Str} : ∀ {us : List PySem.Value} {vs : List V} {fp : List Addr}, VRs h us vs fp → xs.length = us.length → xs.Nodup → ∃ FP : PySem.Str → List Addr, ∀ x y, (entB xs vs).lookup x = some y →
    (∃ u, (x, u) ∈ xs.zip us ∧ VR h u y.1 (FP x)) ∧ (∀ a ∈ FP x, a ∈ fp) ∧ (y.2 = .own → FP x = []) := by
  induction xs with
  | nil => intro us vs fp r hl nd; exact ⟨fun _ => [], fun x y e => by cases (show (none : Option (V × Sta)) = some y from e)⟩
  | cons z xs ih =>
    intro us vs fp r hl nd
    cases vs with
    | nil => obtain ⟨rfl, rfl⟩ := r.nilE; cases hl
    | cons v vs =>
      revert hl
      refine VRs.consE r fun u us g g' r rs hl => ?_
      have nd := List.nodup_cons.mp nd
      obtain ⟨FP, hFP⟩ := ih rs (Nat.succ.inj hl) nd.2
      refine ⟨fun y => if y = z then g else FP y, fun x y e => ?_⟩
      have e : List.lookup x ((z, v, if flatV v then .own else .frz) :: entB xs vs) = some y := e
      rw [List.lookup_cons] at e
      cases q : x == z with
      | true =>
        rw [q] at e
        cases e
        have q := beq_iff_eq.mp q
        subst q
        dsimp only
        rw [if_pos rfl]
        refine ⟨⟨u, .head _, r⟩, fun a m => List.mem_append_left _ m, fun k => ?_⟩
        split at k
        · rename_i fl; exact flat_nil r fl
        · cases k
      | false =>
        rw [q] at e
        dsimp only
        rw [if_neg fun k => by rw [k, beq_self_eq_true] at q; cases q]
        obtain ⟨⟨u', a1, a2⟩, b, c⟩ := hFP x y e
        exact ⟨⟨u', .tail _ a1, a2⟩, fun a m => List.mem_append_right _ (b a m), c⟩
theorem entF_ok {xs : List PySem.Str} {us : List PySem.Value} {vs : List V} {fp : List Addr} (r : VRs s.heap us vs fp) (hl : xs.length = us.length) (ok : entOk sc xs = true) : ∃ FP, Ent h₀ sc (xs.zip us) (entB xs vs) FP [] [] s := by
  obtain ⟨nd, hk⟩ := entOk_of ok
  obtain ⟨FP, hFP⟩ := entB_ok r hl nd
  refine ⟨FP, by rw [zip_names hl]; exact nd, fun x u m => hk x (List.of_mem_zip m).1, fun x y e => (hFP x y e).1, fun x v e => ?_, fun x v e a m k => (by cases k), fun x v x' v' _ e e' a m => ?_, by first | exact nn | nofun, by first | exact nn | nofun⟩
  · rw [(hFP x _ e).2.2 rfl]; exact ⟨.nil, by first | exact nn | nofun⟩
  · rw [(hFP x _ e).2.2 rfl] at m; cases m
theorem entM_ok {x : Addr} {y : V} {g : List Addr} {xs : List PySem.Str} {us : List PySem.Value} {vs : List V} (r0 : VR s.heap (.ref x) y g) (ng : g.Nodup) (hg : ∀ a ∈ g, h₀.get? a = none) (r : VRs s.heap us vs []) (hl : xs.length = us.length) (ok : entOk sc (("self" : PySem.Str) :: xs) = true) :
    ∃ FP, Ent h₀ sc ((("self" : PySem.Str) :: xs).zip (.ref x :: us)) ((("self" : PySem.Str), y, .own) :: entB xs vs) FP g [x] s := by
  obtain ⟨nd, hk⟩ := entOk_of ok
  obtain ⟨FP, hFP⟩ := entB_ok r hl (List.nodup_cons.mp nd).2
  have hz : ∀ {z : PySem.Str} {v : V × Sta}, ((("self" : PySem.Str), y, Sta.own) :: entB xs vs).lookup z = some v → (z = ("self" : PySem.Str) ∧ v = (y, .own)) ∨ (z ≠ ("self" : PySem.Str) ∧ (entB xs vs).lookup z = some v) := fun {z v} e => by
    rw [List.lookup_cons] at e
    cases q : z == ("self" : PySem.Str) with
    | true => rw [q] at e; cases e; exact .inl ⟨beq_iff_eq.mp q, rfl⟩
    | false => rw [q] at e; exact .inr ⟨fun k => (by rw [k, beq_self_eq_true] at q; cases q), e⟩
  have hnil : ∀ z v, (entB xs vs).lookup z = some v → FP z = [] := fun z v e => List.eq_nil_iff_forall_not_mem.mpr fun a m => by cases (hFP z v e).2.1 a m
  refine ⟨fun z => if z = ("self" : PySem.Str) then g else FP z, by rw [zip_names (by rw [List.length_cons, List.length_cons, hl])]; exact nd, fun z u m => hk z (List.of_mem_zip m).1, fun z v e => ?_, fun z v e => ?_, fun z v e a m k => ?_, fun z v z' v' hne e e' a m => ?_, fun a m => ⟨hg a m, r0.doms a m⟩, fun a m => by rw [List.mem_singleton.mp m]; exact .head _⟩
  · rcases hz e with ⟨rfl, rfl⟩ | ⟨q, e⟩
    · rw [if_pos rfl]; exact ⟨_, .head _, r0⟩
    · rw [if_neg q]
      obtain ⟨u, m, k⟩ := (hFP z v e).1
      exact ⟨u, .tail _ m, k⟩
  · rcases hz e with ⟨rfl, q⟩ | ⟨q, e⟩
    · rw [if_pos rfl]; exact ⟨ng, fun a m => m⟩
    · rw [if_neg q, hnil z _ e]; exact ⟨.nil, by first | exact nn | nofun⟩
  · rcases hz e with ⟨rfl, q⟩ | ⟨q, e⟩
    · cases q
    · rw [if_neg q, hnil z _ e] at m; cases m
  · rcases hz e' with ⟨rfl, q'⟩ | ⟨q', e'⟩
    · rcases hz e with ⟨rfl, q⟩ | ⟨q, e⟩
      · exact absurd rfl hne
      · rw [if_neg q, hnil z _ e] at m; cases m
    · rw [if_neg q', hnil z' _ e']; first | exact nn | nofun
theorem ent_more {binds : List (PySem.Str × PySem.Value)} {b : Loc} {FP : PySem.Str → List Addr} {O Pin : List Addr} (N : Ent h₀ sc binds b FP O Pin s) {pn : PySem.Str} {d : Addr} {v : V} (hp : pn ∉ binds.map (·.1)) (hk : sc.names.lookup pn = some .local ∨ sc.names.lookup pn = some .cell) (r : VR s.heap (.ref d) v [d]) {st : Sta} {O' : List Addr} (hst : (st = .frz ∧ d ∉ O ∧ O' = O) ∨ (st = .own ∧ d ∉ O ∧ O' = O ++ [d] ∧ h₀.get? d = none ∧ (∀ x y, b.lookup x = some y → d ∉ FP x))) :
    Ent h₀ sc (binds ++ [(pn, .ref d)]) (b ++ [(pn, v, st)]) (fun x => if x = pn then [d] else FP x) O' Pin s := by
  have inb : ∀ {x y}, b.lookup x = some y → x ≠ pn := fun {x y} e => by
    rintro rfl
    obtain ⟨u, m, _⟩ := N.vals _ _ e
    exact hp (List.mem_map.mpr ⟨_, m, rfl⟩)
  have look : ∀ {x : PySem.Str} {y : V × Sta}, (b ++ [(pn, v, st)]).lookup x = some y → (b.lookup x = some y ∧ (if x = pn then [d] else FP x) = FP x) ∨ (x = pn ∧ y = (v, st) ∧ (if x = pn then [d] else FP x) = [d]) := fun {x y} e => by
    rw [lookup_append] at e
    cases q : b.lookup x with
    | some z => rw [q] at e; exact .inl ⟨e, if_neg (inb q)⟩
    | none =>
      rw [q, Option.none_or, List.lookup_cons] at e
      cases q2 : x == pn with
      | true => rw [q2] at e; cases e; exact .inr ⟨beq_iff_eq.mp q2, rfl, if_pos (beq_iff_eq.mp q2)⟩
      | false => rw [q2] at e; cases e
  have dO : d ∉ O := hst.elim (fun h => h.2.1) fun h => h.2.1
  have sub : ∀ a ∈ O, a ∈ O' := fun a m => hst.elim (fun h => h.2.2 ▸ m) fun h => h.2.2.1 ▸ List.mem_append_left _ m
  have nO : ∀ a ∈ O', a ∈ O ∨ (a = d ∧ st = .own) := fun a m => by
    rcases hst with ⟨_, _, rfl⟩ | ⟨h1, _, rfl, _⟩
    · exact .inl m
    · exact (List.mem_append.mp m).imp id fun m => ⟨List.mem_singleton.mp m, h1⟩
  refine ⟨?_, fun x u m => ?_, fun x y e => ?_, fun x v' e => ?_, fun x v' e a m k => ?_, fun x v1 x' v2 ne e e' => ?_, fun a m => ?_, fun a m => List.mem_append_left _ (N.pin a m)⟩
  · rw [List.map_append, List.nodup_append]
    refine ⟨N.names, List.nodup_cons.mpr ⟨by first | exact nn | nofun, .nil⟩, fun a m c m' q => ?_⟩
    have m' : c = pn := List.mem_singleton.mp m'
    exact hp (m' ▸ q ▸ m)
  · rcases List.mem_append.mp m with m | m
    · exact N.kinds x u m
    · cases List.mem_singleton.mp m; exact hk
  · rcases look e with ⟨e, q⟩ | ⟨rfl, rfl, q⟩
    · rw [q]
      obtain ⟨u, m, r'⟩ := N.vals x y e
      exact ⟨u, List.mem_append_left _ m, r'⟩
    · rw [q]; exact ⟨_, List.mem_append_right _ (.head _), r⟩
  · rcases look e with ⟨e, q⟩ | ⟨rfl, q', q⟩
    · rw [q]; exact ⟨(N.own x v' e).1, fun a m => sub a ((N.own x v' e).2 a m)⟩
    · rw [q]
      cases q'
      refine ⟨List.nodup_cons.mpr ⟨by first | exact nn | nofun, .nil⟩, fun a m => ?_⟩
      rcases hst with ⟨h, _⟩ | ⟨_, _, rfl, _⟩
      · cases h
      · exact List.mem_append_right _ m
  · rcases look e with ⟨e, q⟩ | ⟨rfl, q', q⟩
    · rw [q] at m
      rcases nO a k with k | ⟨rfl, k⟩
      · exact N.frz x v' e a m k
      · rcases hst with ⟨h, _⟩ | ⟨_, _, _, _, h⟩
        · rw [h] at k; cases k
        · exact h _ _ e m
    · rw [q] at m
      cases q'
      rcases nO a k with k | ⟨_, k⟩
      · exact dO ((List.mem_singleton.mp m) ▸ k)
      · cases k
  · rcases look e with ⟨e1, q⟩ | ⟨rfl, z, q⟩
    · rcases look e' with ⟨e2, q'⟩ | ⟨rfl, z', q'⟩
      · rw [q, q']; exact N.apart x v1 x' v2 ne e1 e2
      · rw [q, q']
        intro a m k
        exact dO ((List.mem_singleton.mp k) ▸ (N.own x v1 e1).2 a m)
    · rcases look e' with ⟨e2, q'⟩ | ⟨rfl, z', q'⟩
      · rw [q, q']
        intro a m k
        exact dO ((List.mem_singleton.mp m) ▸ (N.own x' v2 e2).2 a k)
      · exact absurd rfl ne
  · rcases nO a m with m | ⟨rfl, k⟩
    · exact N.newO a m
    · rcases hst with ⟨h, _⟩ | ⟨_, _, _, h, _⟩
      · rw [h] at k; cases k
      · exact ⟨h, r.doms _ (.head _)⟩
end

section
variable {c : Cx} {f : Addr} {st : Stmt} {dV kV : PySem.Value}
theorem BndTo.of {us : List PySem.Value} {kw binds : List (PySem.Str × PySem.Value)} {s : Shared} {b : Loc} {FP : PySem.Str → List Addr} {O : List Addr} (hb : ∀ name qual doc pm cdv ct an, BindsTo s (fnOf name qual (prmOf st) (bodOf st) (scpOf st) dV kV doc pm an cdv ct) ⟨us, kw⟩ binds) (N : Ent c.h₀ (scpOf st) binds b FP O c.Pin s) : BndTo c st dV kV us kw s b FP O :=
  fun name qual doc pm cdv ct an A E Q k => hb name qual doc pm cdv ct an _ A E Q (k _ s (.refl _ _ _) N)
theorem fnOk_of {al : Bool} {na : Nat} {names kwn : List PySem.Str} {F : List V → List (PySem.Str × V) → Option V} (I : FnIn c.K f st dV kV) (hsc : plainSc (scpOf st) = true) (ok : entOk (scpOf st) names = true) (hl : names.length = na + kwn.length)
    (hb : ∀ name qual doc pm cdv ct an (s : Shared) (us ks : List PySem.Value), us.length = na → ks.length = kwn.length → BindsTo s (fnOf name qual (prmOf st) (bodOf st) (scpOf st) dV kV doc pm an cdv ct) ⟨us, kwn.zip ks⟩ (names.zip (us ++ ks)))
    (hF : ∀ args kws r, F args kws = some r → args.length = na ∧ kws.map (·.1) = kwn ∧ ∃ fl b', SsTo (c.pin []) (scpOf st) (entB names (args ++ kws.map (·.2))) (bodOf st) fl b' ∧ retV fl = some r) : FnOk c f al F := by
  refine ⟨fun h X => keeps_K I.kp h X, fun args kws r e A E s us ks fp g Q hr lo _ r1 r2 h => ?_⟩
  obtain ⟨e1, e2, fl, b', q, hv⟩ := hF _ _ _ e
  have l1 := r1.length
  have l2 : ks.length = kwn.length := by rw [r2.length, ← e2, List.length_map, List.length_map]
  rw [e2]
  obtain ⟨FP, N⟩ := entF_ok (h₀ := c.h₀) (sc := scpOf st) (xs := names) (VRs.append r2 r1) (by rw [hl, List.length_append, l1, l2, e1]) ok
  refine wpAny_call (fun_ok (c := c.pin []) I hsc (hr.mono (Nat.le_succ _)) lo (.of (fun n q dc p cd ct an => hb n q dc p cd ct an s us ks (l1.trans e1) l2) N) q hv fun u env s' FP' O' X t dom hO ⟨fp', r, nd, m⟩ => h u fp' s' (t.mono (by first | exact nn | nofun) (by first | exact nn | nofun)) r ?_)
  have nw : ∀ a ∈ fp', s.heap.get? a = none := fun a k => (m a k).elim (fun k => (hO a k).elim (by first | exact nn | nofun) id) id
  exact ⟨fun a k => .inl (nw a k), fun _ => ⟨nd, nw⟩, fun _ => nd⟩
theorem effOk_of {F : V → List V → Option V} (I : FnIn c.K f st dV kV) (hsc : plainSc (scpOf st) = true) (hself : ((scpOf st).names.lookup ("self" : PySem.Str) == some .local) = true)
    (hF : ∀ C fs vs y', F (.inst C fs) vs = some y' → ∀ (s : Shared) (x : Addr) (us : List PySem.Value) (g : List Addr), VR s.heap (.ref x) (.inst C fs) g → g.Nodup → (∀ a ∈ g, c.h₀.get? a = none) → VRs s.heap us vs [] → Low c.h₀ s →
      ∃ b FP fl b' v, BndTo (c.pin [x]) st dV kV (.ref x :: us) [] s b FP g ∧ SsTo (c.pin [x]) (scpOf st) b (bodOf st) fl b' ∧ retV fl = some v ∧ b'.lookup ("self" : PySem.Str) = some (y', .own)) : EffOk c f F := by
  refine ⟨fun h X => keeps_K I.kp h X, fun C fs vs y' e A E s u us g Q hr lo hg r0 ng r1 h => ?_⟩
  obtain ⟨x, rfl⟩ : ∃ x, u = .ref x := by cases r0; exact ⟨_, rfl⟩
  obtain ⟨b, FP, fl, b', v, hb, q, hv, hy⟩ := hF _ _ _ _ e s x us g r0 ng hg r1 lo
  exact wpAny_call (fun_eff I hsc (hr.mono (Nat.le_succ _)) lo (beq_iff_eq.mp hself) hb r0.doms q hv hy fun u' s' g' hu t r nd' hg' dom => h u' s' g' t r nd' hg' dom)
theorem bndM {x : Addr} {y : V} {g : List Addr} {names : List PySem.Str} {us : List PySem.Value} {vs : List V} {s : Shared} (ok : entOk (scpOf st) (("self" : PySem.Str) :: names) = true) (r0 : VR s.heap (.ref x) y g) (ng : g.Nodup) (hg : ∀ a ∈ g, c.h₀.get? a = none) (r : VRs s.heap us vs []) (hl : names.length = vs.length)
    (hb : ∀ name qual doc pm cdv ct an (s : Shared) (u : PySem.Value) (us : List PySem.Value), us.length = names.length → BindsTo s (fnOf name qual (prmOf st) (bodOf st) (scpOf st) dV kV doc pm an cdv ct) ⟨u :: us, []⟩ ((("self" : PySem.Str) :: names).zip (u :: us))) :
    ∃ FP, BndTo (c.pin [x]) st dV kV (.ref x :: us) [] s ((("self" : PySem.Str), y, .own) :: entB names vs) FP g := by
  obtain ⟨FP, N⟩ := entM_ok (h₀ := c.h₀) (sc := scpOf st) (xs := names) r0 ng hg r (hl.trans r.length.symm) ok
  exact ⟨FP, .of (fun n q dc p cd ct an => hb n q dc p cd ct an s (.ref x) us (r.length.trans hl.symm)) N⟩
theorem bndD {x : Addr} {y : V} {g : List Addr} {names : List PySem.Str} {pn : PySem.Str} {us : List PySem.Value} {vs : List V} {s : Shared} (ok : entOk (scpOf st) (("self" : PySem.Str) :: names ++ [pn]) = true) (r0 : VR s.heap (.ref x) y g) (ng : g.Nodup) (hg : ∀ a ∈ g, c.h₀.get? a = none) (lo : Low c.h₀ s) (r : VRs s.heap us vs []) (hl : names.length = vs.length)
    (hb : ∀ name qual doc pm cdv ct an (A : Around) (E : PySem.Value → Shared → Prop) (Q : List (PySem.Str × PySem.Value) → Shared → Prop) (s : Shared) (u : PySem.Value) (us : List PySem.Value), us.length = names.length → Q ((("self" : PySem.Str) :: names).zip (u :: us) ++ [(pn, .ref s.heap.objs.size)]) { s with heap := s.heap.push W.emptyDict } → wpAny (model c.prog c.w) A (bindArgs (fnOf name qual (prmOf st) (bodOf st) (scpOf st) dV kV doc pm an cdv ct) ⟨u :: us, []⟩) Q E s) :
    ∃ FP, BndTo (c.pin [x]) st dV kV (.ref x :: us) [] s ((("self" : PySem.Str), y, .own) :: entB names vs ++ [(pn, .dic, .frz)]) FP g := by
  have x1 : Ext s { s with heap := s.heap.push W.emptyDict } := .push s _ s.toks
  have sysne : (s.heap.objs.size == sysModules) = false := by
    obtain ⟨mg, mb, ⟨o, _, _, e3, _⟩, _⟩ := c.ok.base.names
    have := Heap.lt_size (lo _ _ e3)
    rw [beq_eq_false_iff_ne]
    exact Nat.ne_of_gt (Nat.lt_trans (by decide : sysModules < mainGlobals) this)
  obtain ⟨nd, hk⟩ := entOk_of ok
  have nd' := List.nodup_append.mp nd
  have ok' : entOk (scpOf st) (("self" : PySem.Str) :: names) = true := by
    refine Bool.and_eq_true_iff.mpr ⟨decide_eq_true nd'.1, List.all_eq_true.mpr fun z m => ?_⟩
    simpa only [Bool.or_eq_true, beq_iff_eq] using hk z (List.mem_append_left _ m)
  obtain ⟨FP, N0⟩ := entM_ok (s := { s with heap := s.heap.push W.emptyDict }) (h₀ := c.h₀) (sc := scpOf st) (xs := names) (r0.ext x1) ng hg (r.ext x1) (hl.trans r.length.symm) ok'
  have dO : s.heap.objs.size ∉ g := fun m => (r0.doms _ m).elim fun o e => Nat.lt_irrefl _ (Heap.lt_size e)
  have N := ent_more N0 (pn := pn) (d := s.heap.objs.size) (v := .dic) (by
    rw [zip_names (by rw [List.length_cons, List.length_cons, hl, r.length])]
    exact fun m => nd'.2.2 pn m pn (.head _) rfl) (hk pn (List.mem_append_right _ (.head _))) (.dic (Heap.get?_push_size _ rfl) sysne) (st := .frz) (.inl ⟨rfl, dO, rfl⟩)
  exact ⟨_, fun n q dc p cd ct an A E Q kk => hb n q dc p cd ct an A E Q s _ us (r.length.trans hl.symm) (kk _ _ x1 N)⟩
structure ClsIn (K : Frag) (C fI : Addr) : Prop where
  kp : keepIn K (.ref C) = true
  make : makesIn K C = true
  ini : findIn K (.ref C) "__init__" = some (some (.ref fI))
  fn : typeIn K (.ref fI) = some (.type "function")
theorem cls_ok {C fI : Addr} {rest : List PySem.Value} {A : Around} {E : PySem.Value → Shared → Prop} {s : Shared} (kin : c.K.In s.heap) (H : ClsIn c.K C fI) {R : Nat} (hr : Room c.q c.h₀ (R + 1) A)
    {Q : PySem.Value → Shared → Prop}
    (h : ∀ (A' : Around) (E' : PySem.Value → Shared → Prop) (x dx : Addr) (s1 : Shared), Room c.q c.h₀ R A' → Ext s s1 → s.heap.get? x = none → s.heap.get? dx = none → x ≠ dx → VR s1.heap (.ref x) (.inst C []) [x, dx] →
      codeAny (model c.prog c.w) A' (.call (.ref fI) ⟨.ref x :: rest, []⟩) (fun r s' => match r with | .ok (.ret v) => v = .none ∧ Q (.ref x) s' | .ok _ => False | .error e => E' e s') s1) : wpAny (model c.prog c.w) A (call (.ref C) rest []) Q E s := by
  obtain ⟨hh, g, d, t, os⟩ := s
  refine wpAny_call (make_core (makes_of kin H.make) (looks_findIn kin H.ini) (fun self => bind_fn kin self H.fn) (.inl rfl) ?_)
  have x1 : Ext ⟨hh, g, d, t, os⟩ ⟨(hh.push emptyDict).push (instObj C hh.objs.size), g, d, t, os⟩ := .of_heap (s := ⟨hh, g, d, t, os⟩) (tk := t) fun a o e => Heap.get?_push_of_some _ (Heap.get?_push_of_some _ e)
  have e1 : ((hh.push emptyDict).push (instObj C hh.objs.size)).get? (hh.objs.size + 1) = some (instObj C hh.objs.size) := by
    have := Heap.get?_push_size (hh.push emptyDict) (o := instObj C hh.objs.size) rfl
    rwa [Heap.size_push] at this
  have e2 : ((hh.push emptyDict).push (instObj C hh.objs.size)).get? hh.objs.size = some (dictOf [] 0) := Heap.get?_push_of_some _ (Heap.get?_push_size _ rfl)
  have hA : Room c.q c.h₀ R (A.under (.builtin "type.__call__" ⟨.ref C :: rest, []⟩)) := by
    refine ⟨⟨hr.hd.no, hr.hd.ex⟩, ?_, ?_⟩
    · have := hr.dp
      show A.depth + 1 + R ≤ 900
      omega
    · have := hr.un
      have hu : (A.under (.builtin "type.__call__" ⟨.ref C :: rest, []⟩)).units = A.units + Code.cUnits (.builtin "type.__call__" ⟨.ref C :: rest, []⟩) := rfl
      have hc : Code.cUnits (.builtin "type.__call__" ⟨.ref C :: rest, []⟩) ≤ 20 := by
        have hfr : Code.frames (.builtin "type.__call__" ⟨.ref C :: rest, []⟩) ≤ 1 := by
          show (0 : Nat) ≤ 1
          decide
        simp only [Code.cUnits]
        omega
      rw [hu]; omega
  have z := h (A.under (.builtin "type.__call__" ⟨.ref C :: rest, []⟩)) (fun e s' => E e s') (hh.objs.size + 1) hh.objs.size _ hA x1 (get_none_of_ge (Nat.le_succ _)) get_none_of_size (Nat.succ_ne_self _) (.inst e1 e2 .nil)
  refine codeAny_mono z fun r s' q => ?_
  rcases r with e | (v | _ | _ | _) <;> exact q
theorem clsOk_of {C fI : Addr} {al : Bool} {F : List V → List (PySem.Str × V) → Option V} (H : ClsIn c.K C fI) (I : FnIn c.K fI st dV kV) (hsc : plainSc (scpOf st) = true) (hself : ((scpOf st).names.lookup ("self" : PySem.Str) == some .local) = true)
    (hF : ∀ args kws r, F args kws = some r → kws = [] ∧ ∀ (s : Shared) (x dx : Addr) (us : List PySem.Value) (fp : List Addr), VR s.heap (.ref x) (.inst C []) [x, dx] → [x, dx].Nodup → (∀ a ∈ [x, dx], c.h₀.get? a = none ∧ a ∉ fp) → (al = true → ∀ a ∈ fp, c.h₀.get? a = none) → VRs s.heap us args fp → Low c.h₀ s →
      ∃ b FP O fl b', BndTo (c.pin [x]) st dV kV (.ref x :: us) [] s b FP O ∧ (∀ a ∈ O, a ∈ [x, dx] ∨ (al = true ∧ a ∈ fp)) ∧ SsTo (c.pin [x]) (scpOf st) b (bodOf st) fl b' ∧ retV fl = some .none ∧ b'.lookup ("self" : PySem.Str) = some (r, .own)) : FnOk c C al F := by
  refine ⟨fun h X => keeps_K H.kp h X, fun args kws r e A E s us ks fp g Q hr lo hal r1 r2 h => ?_⟩
  obtain ⟨rfl, hF⟩ := hF _ _ _ e
  obtain ⟨rfl, rfl⟩ := r2.nilE
  rw [List.append_nil] at hal h
  refine cls_ok (R := c.R + 1) (c.ok.base.kin.keeps lo) H hr fun A' E' x dx s1 hr' x1 nx ndx ne r0 => ?_
  have lo1 : Low c.h₀ s1 := lo.ext x1
  have hg : ∀ a ∈ [x, dx], s.heap.get? a = none := fun a m => (List.mem_cons.mp m).elim (fun m => m ▸ nx) fun m => (List.mem_singleton.mp m) ▸ ndx
  obtain ⟨b, FP, O, fl, b', hb, hO, q, hv, hy⟩ := hF s1 x dx us fp r0 (List.nodup_cons.mpr ⟨fun m => ne (List.mem_singleton.mp m), List.nodup_cons.mpr ⟨by first | exact nn | nofun, .nil⟩⟩) (fun a m => ⟨lo.none (hg a m), fun k => by
    obtain ⟨o, e⟩ := r1.dom a k
    rw [hg a m] at e; cases e.1⟩) hal (r1.ext x1) lo1
  have src : ∀ a ∈ O, s.heap.get? a = none ∨ (al = true ∧ a ∈ fp) := fun a m => (hO a m).imp (hg a) id
  refine codeAny_mono (fun_eff (E := E') (Q := fun v s' => v = .none ∧ Q (.ref x) s') I hsc hr' lo1 (beq_iff_eq.mp hself) hb (fun a m => (hO a m).elim (fun m => r0.doms a m) fun m => let ⟨o, e, _⟩ := (r1.ext x1).dom a m.2; ⟨o, e⟩) q hv hy fun u' s' g' hu t r nd' hg' dom => ⟨?_, ?_⟩) fun r s' z => ?_
  · obtain ⟨fp, hu⟩ := hu
    cases hu; rfl
  · have nwg : ∀ a ∈ g', s.heap.get? a = none ∨ (al = true ∧ a ∈ fp) := fun a m => (hg' a m).elim (src a) fun k => .inl (back x1 k)
    refine h (.ref x) g' s' ((x1.mono (by first | exact nn | nofun) (by first | exact nn | nofun)).trans t (fun a m => (src a m).elim .inr fun k => .inl (by rw [if_pos k.1]; exact k.2)) (by first | exact nn | nofun)) r ⟨fun a m => (nwg a m).imp id fun k => k.2, fun e => ⟨nd', fun a m => (nwg a m).elim id fun k => ?_⟩, fun _ => nd'⟩
    rw [e] at k; cases k.1
  · rcases r with e | (v | _ | _ | _) <;> exact z
end

noncomputable def BiTo (q : Bool) (f : PySem.Value) (vs : List V) (r : V) : Prop := (∀ (M : Model) (h : Heap), ∃ k, (k = Keeper.frame ∨ k = Keeper.machine ∨ k = Keeper.boundFrame) ∧ Looks M h (keeperOf f) k) ∧
  ∀ {prog : Program} {w : World} {A : Around} {E : PySem.Value → Shared → Prop} {s : Shared} {us : List PySem.Value} {fp : List Addr} {Q : PySem.Value → Shared → Prop}, (q = true → A.handled = none) → VRs s.heap us vs fp → (∀ u q s', Ext s s' → VR s'.heap u r q → q.Nodup → (∀ a ∈ q, s.heap.get? a = none) → Q u s') → wpAny (model prog w) A (PySem.call f us) Q E s
theorem keep_type (id : String) (M : Model) (h : Heap) : ∃ k, (k = Keeper.frame ∨ k = Keeper.machine ∨ k = Keeper.boundFrame) ∧ Looks M h (keeperOf (.type id)) k := ⟨.machine, .inr (.inl rfl), Looks.of_pure rfl⟩
@[elab_as_elim] theorem VRs.oneE {h : Heap} {P : List PySem.Value → List Addr → Prop} {us : List PySem.Value} {x : V} {fp : List Addr} (r : VRs h us [x] fp) (H : ∀ u f, VR h u x f → P [u] f) : P us fp := by
  refine VRs.consE r fun u us f g r rs => ?_
  obtain ⟨rfl, rfl⟩ := rs.nilE
  rw [List.append_nil]; exact H _ _ r
@[elab_as_elim] theorem VRs.twoE {h : Heap} {P : List PySem.Value → List Addr → Prop} {us : List PySem.Value} {x y : V} {fp : List Addr} (r : VRs h us [x, y] fp) (H : ∀ u w f g, VR h u x f → VR h w y g → P [u, w] (f ++ g)) : P us fp := by
  refine VRs.consE r fun u us f g r rs => VRs.oneE rs fun w g r2 => H _ _ _ _ r r2
section
variable {l : List V} {x y : PySem.Str} {i m n : Int} {is : List Int} {xs : List PySem.Str}
theorem BiTo.lenL {kq : Bool} (hz : l.length ≤ 1000000) : BiTo kq (.builtin "len") [.lst l] (.int l.length) := ⟨keep_builtin _, fun {_ _ _ _ s _ _ _} hd r h => by
  revert h
  refine VRs.oneE r fun u f r => VR.lstE r fun a us n f q rs h => ?_
  have e := rs.length
  refine call_len_list (items := us.toArray) ⟨_, q, rfl, _, rfl⟩ (by rw [List.size_toArray]; omega) ?_
  rw [show ((us.toArray.size : Nat) : Int) = (l.length : Int) from by rw [List.size_toArray, e]]
  exact h _ [] _ (.toks _ _) (.int _ _) .nil (by first | exact nn | nofun)⟩
theorem BiTo.lenT {kq : Bool} (hz : l.length ≤ 1000000) : BiTo kq (.builtin "len") [.tup l] (.int l.length) := ⟨keep_builtin _, fun {_ _ _ _ s _ _ _} hd r h => by
  revert h
  refine VRs.oneE r fun u f r => VR.tupE r fun a us n q rs h => ?_
  have e := rs.length
  refine len_tuple (items := us.toArray) ⟨_, q, rfl, _, rfl⟩ (by rw [List.size_toArray]; omega) ?_
  rw [show ((us.toArray.size : Nat) : Int) = (l.length : Int) from by rw [List.size_toArray, e]]
  exact h _ [] _ (.toks _ _) (.int _ _) .nil (by first | exact nn | nofun)⟩
theorem BiTo.lenS {kq : Bool} (hz : x.length ≤ sizeLine) : BiTo kq (.builtin "len") [.str x] (.int x.length) := ⟨keep_builtin _, fun {_ _ _ _ s _ _ _} hd r h => by
  revert h
  refine VRs.oneE r fun u f r => VR.strE r fun t h => ?_
  have e24 := sizeLine_eq
  exact len_str (by omega) (h _ [] _ (.toks _ _) (.int _ _) .nil (by first | exact nn | nofun))⟩
theorem BiTo.range1 {kq : Bool} : BiTo kq (.type "range") [.int n] (.rng 0 n) := ⟨keep_type _, fun {_ _ _ _ s _ _ _} hd r h => by
  revert h
  exact VRs.oneE r fun u f r => VR.intE r fun t h => call_range_1 (h _ [] _ (.push _ _ _) (.rng (Heap.get?_push_size _ rfl)) .nil (by first | exact nn | nofun))⟩
theorem BiTo.range2 {kq : Bool} : BiTo kq (.type "range") [.int m, .int n] (.rng m n) := ⟨keep_type _, fun {_ _ _ _ s _ _ _} hd r h => by
  revert h
  exact VRs.twoE r fun u w f g r r2 => VR.intE r fun t => VR.intE r2 fun t2 h => call_range_2 (h _ [] _ (.push _ _ _) (.rng (Heap.get?_push_size _ rfl)) .nil (by first | exact nn | nofun))⟩
theorem BiTo.tuple {kq : Bool} (hz : l.length ≤ 1000000) (fl : flatVs l = true) : BiTo kq (.type "tuple") [.lst l] (.tup l) := ⟨keep_type _, fun {_ _ _ _ s _ _ _} hd r h => by
  revert h
  refine VRs.oneE r fun u f r => VR.lstE r fun a us n f q rs h => ?_
  have e := rs.length
  have e24 := sizeLine_eq
  have := flats_nil rs fl
  subst this
  refine call_tuple_list (items := us.toArray) ⟨_, q, rfl, _, rfl⟩ (fun h' k => ?_) (by rw [List.size_toArray, e24]; omega)
  have k' : ∀ a o, s.heap.get? a = some o → (h'.push { cls := .type "tuple", data := .seq us.toArray } : Heap).get? a = some o := fun a o e => Heap.get?_push_of_some _ (k a o e)
  exact h _ [] _ (.of_heap (tk := s.toks) k') (.tup (n := 0) (Heap.get?_push_size _ rfl) (rs.keeps k')) .nil (by first | exact nn | nofun)⟩
theorem intsAre {h : Heap} : ∀ {us : List PySem.Value} {fp : List Addr}, VRs h us (is.map V.int) fp → IntsAre us is := by
  induction is with
  | nil => intro us fp r; obtain ⟨rfl, rfl⟩ := r.nilE; exact .nil
  | cons x is ih =>
    intro us fp r
    rw [List.map_cons] at r
    exact VRs.consE r fun u us f g r rs => VR.intE r fun t => .cons x t (ih rs)
theorem BiTo.sum {kq : Bool} (hq : kq = true) : BiTo kq (.builtin "sum") [.lst (is.map V.int)] (.int is.sum) := ⟨keep_builtin _, fun {_ _ _ _ s _ _ _} hd r h => by
  revert h
  refine VRs.oneE r fun u f r => VR.lstE r fun a us n f q rs h => ?_
  have hi := intsAre rs
  obtain ⟨xs, ex⟩ := hi.allInts.items
  have es : preSum (numAt xs) xs.size = is.sum := by
    rw [preSum_eq, List.take_of_length_le (by simp), ← nums_intItems, ← ex]
    exact congrArg List.sum hi.numsOf
  refine sum_intListG (hd hq) (xs := xs) ⟨_, q, rfl, _, by rw [← ex]⟩ fun h' tk t' k => ?_
  rw [es]
  exact h _ [] _ (.of_heap (tk := tk) k) (.int _ _) .nil (by first | exact nn | nofun)⟩
theorem strs_of {h : Heap} : ∀ {us : List PySem.Value} {fp : List Addr}, VRs h us (xs.map V.str) fp → ∃ l : List (PySem.Str × Tok), us = strValues l ∧ l.map (·.1) = xs := by
  induction xs with
  | nil => intro us fp r; obtain ⟨rfl, rfl⟩ := r.nilE; exact ⟨[], rfl, rfl⟩
  | cons x xs ih =>
    intro us fp r
    rw [List.map_cons] at r
    refine VRs.consE r fun u us f g r rs => VR.strE r fun t => ?_
    obtain ⟨l, e1, e2⟩ := ih rs
    exact ⟨(x, t) :: l, by rw [e1]; rfl, by rw [List.map_cons, e2]⟩
theorem BiTo.lower {kq : Bool} (hz : x.length ≤ 1000000) : BiTo kq (.builtin "str.lower") [.str x] (.str (Txt.lower x)) := ⟨keep_builtin _, fun {_ _ _ _ s _ _ _} hd r h => by
  revert h
  refine VRs.oneE r fun u f r => VR.strE r fun t h => ?_
  have hf : Builtin.Str.tooLong (Txt.lower x).length = false := fit_lower (by omega)
  exact call_meets F.slot_str_lower (typeIs_str s x t) F.entry_str_lower (F.args_str_lower_1 _) (gives_str_lower x t hf) ⟨fit_le hf, h _ [] _ (.toks _ _) (.str _ _) .nil (by first | exact nn | nofun)⟩⟩
theorem BiTo.join {kq : Bool} (hok : JoinOk x xs = true) : BiTo kq (.builtin "str.join") [.str x, .lst (xs.map V.str)] (.str (Txt.join x xs)) := ⟨keep_builtin _, fun {_ _ _ _ s _ _ _} hd r h => by
  revert h
  refine VRs.twoE r fun u w f g r r2 => VR.strE r fun t => VR.lstE r2 fun a us n f q rs h => ?_
  obtain ⟨l, e1, e2⟩ := strs_of rs
  subst e1 e2
  have hok' := hok
  unfold JoinOk at hok'
  rw [Bool.not_eq_true'] at hok'
  exact call_meets F.slot_str_join (typeIs_str s x t) F.entry_str_join (F.args_str_join_2 _ _) (meets_str_join_list x t a l hok') ⟨⟨_, q, rfl, _, rfl⟩, post_join l ⟨joinFit_length hok', fun t' k => h _ [] _ (.toks _ _) (.str _ _) .nil (by first | exact nn | nofun)⟩⟩⟩
theorem BiTo.typeS {kq : Bool} : BiTo kq (.type "type") [.str x] (.val (.type "str")) := ⟨keep_type _, fun {_ _ _ _ s _ _ _} hd r h => by
  revert h
  exact VRs.oneE r fun u f r => VR.strE r fun t h => call_type_of (typeIs_str s x t) (by decide) (h _ [] _ (.refl _ _ _) (.val _ rfl) .nil (by first | exact nn | nofun))⟩
theorem BiTo.typeL {kq : Bool} : BiTo kq (.type "type") [.lst l] (.val (.type "list")) := ⟨keep_type _, fun {_ _ _ _ s _ _ _} hd r h => by
  revert h
  exact VRs.oneE r fun u f r => VR.lstE r fun a us n f q rs h => call_type_of (Tx := "list") ⟨_, q, rfl⟩ (by decide) (h _ [] _ (.refl _ _ _) (.val _ rfl) .nil (by first | exact nn | nofun))⟩
end
structure SmTo (name : PySem.Str) (f : PySem.Value) : Prop where
  go : ∀ {prog : Program} {w : World} {A : Around} {E : PySem.Value → Shared → Prop} {s : Shared} {x : PySem.Str} {t : Tok} {pl : Sem Bool} {Q : PySem.Value × List PySem.Value → Shared → Prop}, Q (f, [.str x t]) s → wpAny (model prog w) A (getMethod (.str x t) name pl) Q E s
theorem SmTo.lower : SmTo ("lower" : PySem.Str) (.builtin "str.lower") := ⟨fun h => PySem.GM.lower h⟩
theorem SmTo.join : SmTo ("join" : PySem.Str) (.builtin "str.join") := ⟨fun h => PySem.GM.join h⟩
section
variable {c : Cx} {pe : PE} {o : Expr} {v : V} {fr f0 f1 : Bool} {args : List Expr} {vs : List V} {x : PySem.Str} {f : PySem.Value} {p q : Pos}
theorem EvTo.bi (h0 : EvTo c pe (.Name x q) (.val f) f0) (h1 : EvsTo c pe args vs f1) (b : BiTo c.q f vs v) : EvTo c pe (.Call (.Name x q) args [] p) v fr := fun t Q h => by
  refine wpAny_bind (h0 t _ fun u s1 p1 => ?_)
  obtain ⟨f0, x1, r1, o1, _⟩ := p1
  refine VR.valE r1 fun _ => call_ok (t.ext x1) (fun h _ => b.1 _ h) h1 .nil p fun us zs s2 fp g x2 ra rk so _ => ?_
  obtain ⟨rfl, rfl⟩ := rk.nilE
  exact b.2 t.room.no ra fun u q s3 x3 r3 n1 n2 => h u s3 ⟨q, (x1.ext x2).ext x3, r3, fun a m => .inl (back (x1.ext x2) (n2 a m)), fun _ => ⟨n1, fun a m => back (x1.ext x2) (n2 a m)⟩⟩
theorem EvTo.smeth {name : PySem.Str} {apos cpos : Pos} (hb : ∀ env, attributeBase o name env (eval o env) = eval o env) (hn : decide (args.length < 20) = true) (hl : (apos.endLine == cpos.line) = true) (h0 : EvTo c pe o (.str x) f0) (sm : SmTo name f) (h1 : EvsTo c pe args vs f1) (b : BiTo c.q f (.str x :: vs) v) : EvTo c pe (.Call (.Attribute o name apos) args [] cpos) v fr := fun t Q h => by
  refine meth_ok hb hn hl h1.1.1 fun pl => h0 t _ fun u s1 p1 => ?_
  obtain ⟨f0, x1, r1, o1, _⟩ := p1
  refine VR.strE r1 fun tk => sm.go (call_ok (us₀ := [.str x tk]) (t.ext x1) (fun h _ => b.1 _ h) h1 .nil cpos fun us zs s2 fp g x2 ra rk so _ => ?_)
  obtain ⟨rfl, rfl⟩ := rk.nilE
  exact b.2 t.room.no (.cons (.str x tk) ra) fun u q s3 x3 r3 n1 n2 => h u s3 ⟨q, (x1.ext x2).ext x3, r3, fun a m => .inl (back (x1.ext x2) (n2 a m)), fun _ => ⟨n1, fun a m => back (x1.ext x2) (n2 a m)⟩⟩
end

noncomputable def freeM (m : Sre.M) : Bool := m.answer == some false && (m.outcome.isNone && m.frames.isEmpty)
noncomputable def freeStr (code : Array Nat) (x : PySem.Str) : Bool := decide (x.cps.size ≤ 1000000) && freeM (Sre.forSearch code x.cps (Int.toNat 0) 0 x.cps.size false)
theorem free_ok {code : Array Nat} {x : PySem.Str} (h : freeStr code x = true) : x.cps.size ≤ 1000000 ∧ ∃ m, Sre.forSearch code x.cps (Int.toNat 0) 0 x.cps.size false = m ∧ m.answer = some false ∧ m.outcome = none ∧ m.frames = [] := by
  obtain ⟨h1, h2⟩ := Bool.and_eq_true_iff.mp h
  obtain ⟨h2, h3⟩ := Bool.and_eq_true_iff.mp h2
  obtain ⟨h3, h4⟩ := Bool.and_eq_true_iff.mp h3
  exact ⟨of_decide_eq_true h1, _, rfl, eq_of_beq h2, Option.isNone_iff_eq_none.mp h3, List.isEmpty_iff.mp h4⟩
section
variable {prog : Program} {w : World} {K : Frag} {A : Around} {E : PySem.Value → Shared → Prop} {s : Shared}
theorem rules_ok {p : Nat → Bool} {f : Nat → String} : ∀ (l : List Nat) {Q : PUnit → Shared → Prop}, Q ⟨⟩ s → wpAny (model prog w) A (forIn l (⟨⟩ : PUnit) fun i _ => if p i = true then (do rule (f i); pure (ForInStep.yield PUnit.unit)) else pure (ForInStep.yield PUnit.unit)) Q E s
  | [], Q, h => by rw [List.forIn_nil]; exact wpAny_pure h
  | i :: l, Q, h => by
    rw [List.forIn_cons]
    refine wpAny_bind ?_
    split
    · exact wpAny_bind (wpAny_rule (wpAny_pure (rules_ok l h)))
    · exact wpAny_pure (rules_ok l h)
theorem drive_ok {m : Sre.M} (h1 : m.answer = some false) (h2 : m.outcome = none) (h3 : m.frames = []) (n : Nat) : Builtin.Re.reDrive (n + 1) m = pure { m with outcome := some .failed } := by
  unfold Builtin.Re.reDrive
  have st : m.step = { m with outcome := some .failed } := by
    unfold Sre.M.step
    rw [h2, h1, h3]
    rfl
  have e : m.runFor Builtin.Re.reTurnSteps = { m with outcome := some .failed } := by
    show m.runFor 4 = _
    unfold Sre.M.runFor
    rw [h2, st]
    rfl
  rw [e]
  rfl
theorem run_ok {m : Sre.M} (h1 : m.answer = some false) (h2 : m.outcome = none) (h3 : m.frames = []) {Q : Option Sre.M → Shared → Prop} (h : Q none s) : wpAny (model prog w) A (Builtin.Re.reRunToEnd m) Q E s := by
  unfold Builtin.Re.reRunToEnd
  rw [show (2 : Nat) ^ 64 = (2 ^ 64 - 1) + 1 by decide, drive_ok h1 h2 h3]
  refine wpAny_bind (wpAny_pure (wpAny_bind ?_))
  dsimp only
  exact rules_ok (p := fun i => m.seen.has i) (f := fun i => Sre.names.getD i "") _ (wpAny_pure h)
theorem slot_search : PySem.Slot "re.Pattern" "search" "re.Pattern.search" :=
  .of (owner := "re.Pattern") (n := "search") (by rw [typeLookup_type, builtinLookup_eq_fast]; kernel_rfl) (by decide +kernel) (by decide +kernel) (by decide +kernel)
    (by first | exact .inl (by decide +kernel) | exact .inr (by decide +kernel)) (by rw [isSubtype_type]; kernel_rfl)
theorem type_search : typeOf (.builtin "re.Pattern.search") = pure (.type "method_descriptor") := by show builtinType _ = _; rw [builtinType_eq_fast]; kernel_rfl
theorem entry_search : entryFor table "re.Pattern.search" = some Builtin.«re.Pattern.search» := entryFor_of_tree (by kernel_rfl)
theorem owner_pattern : Manifest.owners.lookup (String.ofList ['n', 'r', 'e', 't', 't', 'a', 'P', '.', 'e', 'r'].reverse) = some Manifest.sig_re_Pattern := by kernel_rfl
theorem args_search (a b : PySem.Value) : argsOk "re.Pattern.search" ⟨[a, b], []⟩ := by
  unfold argsOk; rw [signature?_of (id := "re.Pattern.search") (n := ['h', 'c', 'r', 'a', 'e', 's']) (o := ['n', 'r', 'e', 't', 't', 'a', 'P', '.', 'e', 'r']) (by kernel_rfl) owner_pattern]; kernel_rfl
theorem plainAttrs_pattern : PlainAttrs "re.Pattern" :=
  ⟨⟨"object.__getattribute__", by rw [typeLookup_type, builtinLookup_eq_fast]; kernel_rfl, by decide +kernel⟩, by rw [typeLookup_type, builtinLookup_eq_fast]; kernel_rfl⟩
inductive PatAt (K : Frag) (p : Addr) (code : Array Nat) : Prop
  | mk {fs : Array PySem.Value} {sl : Array (Option PySem.Value)} {c : Addr} {items : Array PySem.Value} {dd : Option Addr} {nn : Nat} {sl' : Array (Option PySem.Value)} {k2 k6 : Tok} : K.lookup p = some ⟨.type "re.Pattern", .none, .fields fs, sl⟩ → (∀ d, fs.getD 6 d = .int 0 k6) → (∀ d, fs.getD 5 d = .ref c) → (∀ d, fs.getD 2 d = .int 0 k2) → K.lookup c = some ⟨.type "tuple", dd, .seq items nn, sl'⟩ → (items.map Builtin.Re.reRawOf).map (·.toNat) = code → PatAt K p code
theorem search_meth {p : Addr} {code : Array Nat} {pl : Sem Bool} {Q : PySem.Value × List PySem.Value → Shared → Prop} (X : K.In s.heap) (hp : PatAt K p code) (h : Q (.builtin "re.Pattern.search", [.ref p]) s) : wpAny (model prog w) A (getMethod (.ref p) "search" pl) Q E s := by
  cases hp with
  | mk ho => 
    have e := X _ _ ho
    exact getMethod_builtin (T := "re.Pattern") ⟨_, e, rfl⟩ plainAttrs_pattern slot_search type_search (fun a' e' => by cases e'; exact ⟨_, e, rfl⟩) h
theorem search_ok {p : Addr} {code : Array Nat} {x : PySem.Str} {t : Tok} {Q : PySem.Value → Shared → Prop} (X : K.In s.heap) (hp : PatAt K p code) (hx : freeStr code x = true) (h : Q .none s) :
    wpAny (model prog w) A (PySem.call (.builtin "re.Pattern.search") [.ref p, .str x t]) Q E s := by
  cases hp with
  | @mk fs _ c items _ _ _ k2 k6 ho g6 g5 g2 hc hco =>
    subst hco
    obtain ⟨hz, m, em, a1, a2, a3⟩ := free_ok hx
    have e := X _ _ ho
    have ec := X _ _ hc
    refine wpAny_call_entry slot_search ⟨_, e, rfl⟩ entry_search ?_ (args_search _ _)
    unfold Builtin.«re.Pattern.search» Builtin.Re.reTarget
    have hn : Builtin.Re.reNamed "re.Pattern.search" "search" ["string", "pos", "endpos"] 1 [.str x t] [] = pure [some (.str x t), none, none] := by rfl
    refine wpAny_bind ?_
    dsimp only
    rw [hn]
    refine wpAny_bind (wpAny_pure ?_)
    dsimp only
    refine wpAny_bind (wpAny_pure ?_)
    refine wpAny_bind (wpAny_pure ?_)
    refine wpAny_bind (wpAny_fieldsOf e rfl ?_)
    rw [show Builtin.Re.reTextOf (.str x t) = pure (x.cps, 0) from rfl]
    refine wpAny_bind (wpAny_pure ?_)
    dsimp only
    rw [g6, g5, g2]
    show wpAny (model prog w) A.in1 (pure PUnit.unit >>= fun _ => Builtin.Re.reRawItems (.ref c) >>= fun l => pure ({ pattern := .ref p, string := .str x t, code := l.map fun x => x.toNat, text := x.cps, kind := 0, groups := Int.toNat 0, pos := min (Int.toNat 0) x.cps.size, lim := min ((2 : Int) ^ 63 - 1).toNat x.cps.size } : Builtin.Re.ReTarget)) _ E s
    refine wpAny_bind (wpAny_pure ?_)
    refine wpAny_bind (wpAny_bind (wpAny_seqItems ec rfl (wpAny_pure ?_)))
    refine wpAny_pure ?_
    dsimp only [Option.getD]
    have z1 : min (Int.toNat 0) x.cps.size = 0 := Nat.zero_min _
    have z2 : min ((2 : Int) ^ 63 - 1).toNat x.cps.size = x.cps.size := Nat.min_eq_right (Nat.le_trans hz (by decide))
    rw [z1, z2]
    rw [em]
    unfold Builtin.Re.reAnswer
    exact wpAny_bind (run_ok a1 a2 a3 (wpAny_pure ⟨.none, rfl, h⟩))
theorem EvTo.search {c : Cx} {pe : PE} {o : Expr} {fr f0 f1 : Bool} {args : List Expr} {x : PySem.Str} {d : Addr} {code : Array Nat} {apos cpos : Pos} (hb : ∀ env, attributeBase o ("search" : PySem.Str) env (eval o env) = eval o env) (hn : decide (args.length < 20) = true) (hl : (apos.endLine == cpos.line) = true) (h0 : EvTo c pe o (.val (.ref d)) f0) (hp : PatAt c.K d code) (hx : freeStr code x = true) (h1 : EvsTo c pe args [.str x] f1) : EvTo c pe (.Call (.Attribute o ("search" : PySem.Str) apos) args [] cpos) .none fr := fun t Q h => by
  refine meth_ok hb hn hl h1.1.1 fun pl => h0 t _ fun u s1 p1 => ?_
  obtain ⟨f0, x1, r1, o1, _⟩ := p1
  refine VR.valE r1 fun _ => search_meth (c.ok.base.kin.keeps (t.X.ext x1).low) hp (call_ok (us₀ := [.ref d]) (t.ext x1) (fun h _ => keep_builtin _ _ h) h1 .nil cpos fun us zs s2 fp g x2 ra rk so _ => ?_)
  obtain ⟨rfl, rfl⟩ := rk.nilE
  refine VRs.consE ra fun u us g g' ra rb => ?_
  obtain ⟨rfl, rfl⟩ := rb.nilE
  refine VR.strE ra fun tk => ?_
  exact search_ok (c.ok.base.kin.keeps (t.X.ext (x1.ext x2)).low) hp hx (h _ _ (.flat (x1.ext x2) .none))
end

noncomputable def flatB (b : Loc) : Bool := b.all fun p => flatV p.2.1
inductive GsTo (c : Cx) (sc : Scope) : Loc → List Stmt → List V → Loc → Prop
  | nil (b : Loc) : GsTo c sc b [] [] b
  | yld {b b' : Loc} {e : Expr} {v : V} {p p' : Pos} {r : List Stmt} {ys : List V} : EvTo c ⟨sc, b⟩ e v false → flatV v = true → GsTo c sc b r ys b' → GsTo c sc b (.Expr (.Yield (some e) p) p' :: r) (v :: ys) b'
  | ifT {b b1 b' : Loc} {t : Expr} {p : Pos} {a o r : List Stmt} {ys zs ws : List V} : EtTo c ⟨sc, b⟩ t true → GsTo c sc b a ys b1 → GsTo c sc b1 r zs b' → ys ++ zs = ws → GsTo c sc b (.If t a o p :: r) ws b'
  | ifF {b b1 b' : Loc} {t : Expr} {p : Pos} {a o r : List Stmt} {ys zs ws : List V} : EtTo c ⟨sc, b⟩ t false → GsTo c sc b o ys b1 → GsTo c sc b1 r zs b' → ys ++ zs = ws → GsTo c sc b (.If t a o p :: r) ws b'
  | step {b b1 b' : Loc} {st : Stmt} {r : List Stmt} {ys : List V} : StTo c sc b st .next b1 → flatB b1 = true → GsTo c sc b1 r ys b' → GsTo c sc b (st :: r) ys b'
section
variable {c : Cx} {prog : Program} {w : World} {h₀ : Heap} {A : Around} {E : PySem.Value → Shared → Prop} {s s0 s1 s2 : Shared} {env : Env} {sc : Scope} {b b1 b2 : Loc} {FP : PySem.Str → List Addr} {O WL : List Addr}
theorem flat_fp (X : EnvR [] h₀ env ⟨sc, b⟩ FP O s.heap) (fl : flatB b = true) {x : PySem.Str} {z : V × Sta} (e : b.lookup x = some z) : FP x = [] := by
  obtain ⟨u, _, r⟩ := X.slot e
  have m := mem_lookup e
  have := List.all_eq_true.mp fl _ m
  exact flat_nil r this
theorem EnvR.flat (X : EnvR [] h₀ env ⟨sc, b⟩ FP O s.heap) (fl : flatB b = true) : EnvR [] h₀ env ⟨sc, b⟩ FP [] s.heap where
  sc := X.sc
  kind := X.kind
  glo := X.glo
  blt := X.blt
  low := X.low
  above := X.above
  ns := X.ns
  cells := X.cells
  kinds := X.kinds
  apartC := X.apartC
  off := X.off
  own := fun x v e => by rw [flat_fp X fl e]; exact ⟨.nil, by first | exact nn | nofun⟩
  frz := fun x v e a m k => by cases k
  apart := X.apart
  newO := by first | exact nn | nofun
  pin := X.pin
structure GPl (h₀ : Heap) (env : Env) (WL rd wr : List Addr) : Prop where
  sub : ∀ a ∈ WL, a ∈ wr
  wr : ∀ a ∈ wr, a ∈ rd ∧ h₀.get? a = none
  loc : env.locals ∈ WL
  cel : ∀ x c, env.cells.lookup x = some c → c ∈ WL
theorem EnvR.agrG {rd wr : List Addr} (X : EnvR [] h₀ env ⟨sc, b⟩ FP [] s.heap) (fl : flatB b = true) (P : GPl h₀ env WL rd wr) (ag : Agr h₀ rd [] s s1) : EnvR [] h₀ env ⟨sc, b⟩ FP [] s1.heap := by
  obtain ⟨W, G, t, a1, a2, a3⟩ := ag
  refine X.stp t (a1 _ (P.wr _ (P.sub _ P.loc)).1) (fun x c e => a1 _ (P.wr _ (P.sub _ (P.cel x c e))).1) (fun x z e a m => ?_) a3
  rw [flat_fp X fl e] at m; cases m
structure SI (wr : List Addr) (s₀ s : Shared) : Prop where
  stp : Stp wr [] s₀ s
  ex : ∀ a ∈ wr, ∃ o, s.heap.get? a = some o
noncomputable def YPr (h₀ : Heap) (rd wr : List Addr) (ys : List V) : Protocol := fun m s₀ v s kap => ∃ x, ys[ys.length - 1 - m]? = some x ∧ flatV x = true ∧ VR s.heap v x [] ∧ SI wr s₀ s ∧ ∀ s'', Agr h₀ rd [] s s'' → kap (.send .none) s''
noncomputable abbrev RPr (wr : List Addr) : GenEnd := fun n s₀ r s₁ => r = .ok (.ret .none) ∧ (n = 0 ∧ SI wr s₀ s₁)
theorem SI.ext {wr : List Addr} (x : SI wr s0 s) (e : Ext s s1) : SI wr s0 s1 := ⟨x.stp.ext e, fun a m => let ⟨o, q⟩ := x.ex a m; ⟨o, e.keep a o q⟩⟩
theorem gs_ok {rd wr : List Addr} {ys : List V} (F : Frm env sc WL) (P : GPl c.h₀ env WL rd wr) (hco : sc.isCoroutine = false) {sts : List Stmt} {b b' : Loc} {zs : List V} (q : GsTo (c.pin []) sc b sts zs b') : ∀ {J : Shared → Prop} (j1 : ∀ s s', J s → Stp WL [] s s' → J s') (j2 : ∀ s s', J s → Agr c.h₀ rd [] s s' → J s') (done rest : List V), ys = done ++ (zs ++ rest) → ∀ {cd : Code} {fs : List PySem.Frame}, splitAtGen fs = none → fs.any Frame.guarded = false → Room c.q c.h₀ c.R (A.over cd fs) →
      ∀ {Kf : Flow → Sem Fin} {H : PySem.Value → Sem Fin} {gd : Bool → Bool} {lv : List PySem.Value → List PySem.Value}, gd false = false → ∀ (s₀ s : Shared) (FP : PySem.Str → List Addr), EnvR [] c.h₀ env ⟨sc, b⟩ FP [] s.heap → flatB b = true → SI wr s₀ s → J s →
      (∀ s₀' s' FP', EnvR [] c.h₀ env ⟨sc, b'⟩ FP' [] s'.heap → flatB b' = true → SI wr s₀' s' → J s' → Seg (model c.prog c.w) A (RPr wr) (YPr c.h₀ rd wr ys) rest.length s₀' cd (Kf .next) fs s') →
      Seg (model c.prog c.w) A (RPr wr) (YPr c.h₀ rd wr ys) (zs.length + rest.length) s₀ cd ((execs sts env).wrap Kf H gd lv) fs s := by
  induction q with
  | nil b =>
    intro J j1 j2 done rest hys cd fs hfs hfg hr Kf H gd lv hgd s₀ s FP X fl I j k
    rw [show ([] : List V).length + rest.length = rest.length from Nat.zero_add _]
    exact seg_execs_nil (k s₀ s FP X fl I j)
  | @yld b b' e v p p' r zs h1 fv h2 ih =>
    intro J j1 j2 done rest hys cd fs hfs hfg hr Kf H gd lv hgd s₀ s FP X fl I j k
    refine seg_execs_cons ?_
    rw [show (v :: zs).length + rest.length = (zs ++ rest).length + 1 by simp; omega]
    refine seg_Expr_Yield hfs hgd hfg (h1 ⟨A.over cd fs, _, s, env, FP, [], hr, X⟩ _ fun u s1 h1 => ?_) (by rw [X.sc]; exact hco) (notInteractive X)
    obtain ⟨fp, x1, r1, _, _⟩ := h1
    have := flat_nil r1 fv
    subst this
    intro kap hk
    have st1 : Stp WL [] s s1 := x1.mono (by first | exact nn | nofun) (by first | exact nn | nofun)
    refine ⟨v, ?_, fv, r1, I.ext x1, fun s'' ag => hk .none s'' ?_⟩
    · rw [hys]
      have : (done ++ (v :: zs ++ rest)).length - 1 - (zs ++ rest).length = done.length := by simp
      rw [this]; simp
    · rw [List.length_append]
      refine ih j1 j2 (done ++ [v]) rest (by rw [hys]; simp) hfs hfg hr hgd s'' s'' FP ((X.ext x1).agrG fl P ag) fl ⟨.refl _ _ _, fun a m => ?_⟩ (j2 _ _ (j1 _ _ j st1) ag) k
      obtain ⟨o, q⟩ := (I.ext x1).ex a m
      exact ⟨o, ag.heap a (P.wr a m).1 o q⟩
  | @ifT b b1 b' t p a o r ys zs ws h1 h2 h3 ew ih2 ih3 =>
    subst ew
    intro J j1 j2 done rest hys cd fs hfs hfg hr Kf H gd lv hgd s₀ s FP X fl I j k
    refine seg_execs_cons ?_
    rw [exec_If, show (ys ++ zs).length + rest.length = ys.length + (zs ++ rest).length by simp; omega]
    refine seg_bind_wrap (wpAny_standAt (seg_bind_wrap (h1 ⟨A.over cd fs, _, s, env, FP, [], hr, X⟩ _ fun s1 x1 => ?_)))
    have st1 : Stp WL [] s s1 := x1.mono (by first | exact nn | nofun) (by first | exact nn | nofun)
    refine ih2 j1 j2 done (zs ++ rest) (by rw [hys]; simp) hfs hfg hr hgd s₀ s1 FP (X.ext x1) fl (I.ext x1) (j1 _ _ j st1) fun s₀' s' FP' X' fl' I' j' => ?_
    rw [List.length_append]
    exact ih3 j1 j2 (done ++ ys) rest (by rw [hys]; simp) hfs hfg hr hgd s₀' s' FP' X' fl' I' j' k
  | @ifF b b1 b' t p a o r ys zs ws h1 h2 h3 ew ih2 ih3 =>
    subst ew
    intro J j1 j2 done rest hys cd fs hfs hfg hr Kf H gd lv hgd s₀ s FP X fl I j k
    refine seg_execs_cons ?_
    rw [exec_If, show (ys ++ zs).length + rest.length = ys.length + (zs ++ rest).length by simp; omega]
    refine seg_bind_wrap (wpAny_standAt (seg_bind_wrap (h1 ⟨A.over cd fs, _, s, env, FP, [], hr, X⟩ _ fun s1 x1 => ?_)))
    have st1 : Stp WL [] s s1 := x1.mono (by first | exact nn | nofun) (by first | exact nn | nofun)
    refine ih2 j1 j2 done (zs ++ rest) (by rw [hys]; simp) hfs hfg hr hgd s₀ s1 FP (X.ext x1) fl (I.ext x1) (j1 _ _ j st1) fun s₀' s' FP' X' fl' I' j' => ?_
    rw [List.length_append]
    exact ih3 j1 j2 (done ++ ys) rest (by rw [hys]; simp) hfs hfg hr hgd s₀' s' FP' X' fl' I' j' k
  | @step b b1 b' st r zs h1 fl1 h2 ih =>
    intro J j1 j2 done rest hys cd fs hfs hfg hr Kf H gd lv hgd s₀ s FP X fl I j k
    refine seg_execs_cons (seg_wrap (h1 ⟨⟨A.over cd fs, _, s, env, FP, [], hr, X⟩, WL, F⟩ _ fun f s1 FP1 O1 p g => ?_))
    cases f <;> first | exact g.elim | skip
    have t1 : Stp WL [] s s1 := p.stp.mono (fun a m => by simpa using m) fun i m => m
    refine ih j1 j2 done rest hys hfs hfg hr hgd s₀ s1 FP1 (p.env.flat fl1) fl1 ⟨I.stp.trans t1 (fun a m => .inl (P.sub a m)) (by first | exact nn | nofun), fun a m => ?_⟩ (j1 _ _ j t1) k
    obtain ⟨o, q⟩ := I.ex a m
    exact p.dom a o q
end

inductive LgTo (c : Cx) (sc : Scope) (tg : Expr) (body : List Stmt) : List V → Loc → List V → Loc → Prop
  | nil (b : Loc) : LgTo c sc tg body [] b [] b
  | cons {b bt b1 b2 b' : Loc} {x : V} {r ys zs : List V} : BdTo c.q tg x b bt → flatB bt = true → GsTo c sc bt body ys b1 → (∀ x y, b2.lookup x = some y → b1.lookup x = some y) → flatB b2 = true → LgTo c sc tg body r b2 zs b' → LgTo c sc tg body (x :: r) b (ys ++ zs) b'
noncomputable def enumV (x : PySem.Str) : List V := x.cps.toList.zipIdx.map fun p => .tup [.int (p.2 : Int), .str ⟨#[p.1]⟩]
section
variable {c : Cx} {prog : Program} {w : World} {h₀ : Heap} {n : Nat} {A : Around} {E : PySem.Value → Shared → Prop} {s s0 s1 s2 : Shared} {env : Env} {sc : Scope} {b b1 b2 : Loc} {FP : PySem.Str → List Addr} {O WL : List Addr}
theorem seg_runOwn {M : Model} {RR : GenEnd} {Y : Protocol} {n : Nat} {s₀ : Shared} {c c' : Code} {fs : List PySem.Frame} {Kf : Flow → Sem Fin} {H : PySem.Value → Sem Fin} {gd : Bool → Bool} {lv : List PySem.Value → List PySem.Value}
    (h : ∀ p, Seg M A RR Y n s₀ c' (M.den c') (.ret (fun r => ((match r with | .ok f => (.pure f : Sem Flow) | .error e => .raise e).onRaise fun (x : PySem.Value) => do
        if (← field x 1) == Value.none then unsupported "frame.own-activation:exception-without-traceback"
        setFlight x env.frame).wrap Kf H gd lv) none (gd false) (lv []) c p [] :: fs) s) : Seg M A RR Y n s₀ c ((runOwn c' env).wrap Kf H gd lv) fs s := seg_call h
theorem seg_forTurn {RR : GenEnd} {Y : Protocol} {n : Nat} {s₀ : Shared} {fs : List PySem.Frame} {t : Expr} {it : PySem.Value} {body : List Stmt}
    (h : ∀ E, wpAny (model prog w) (A.over (.forLoop t it body [] env) fs) (pyNext it) (fun r s₁ => match r with
      | none => Seg (model prog w) A RR Y n s₀ (.forLoop t it body [] env) (.pure (.again (.block [] env))) fs s₁
      | some v => wpAny (model prog w) (A.over (.forLoop t it body [] env) fs) (letOwnedTupleGo t it v) (fun _ s₁' =>
          wpAny (model prog w) (A.over (.forLoop t it body [] env) fs) (assign t env v) (fun _ s₂ => ∀ (H : PySem.Value → Sem Fin) (gd : Bool → Bool), gd false = false → Seg (model prog w) A RR Y n s₀ (.forLoop t it body [] env) ((execs body env).wrap (fun f => match f with
            | .next | .cont => .pure (.again (.forLoop t it body [] env))
            | .brk => .pure (.done .next)
            | .ret v => .pure (.done (.ret v))) H gd id) fs s₂) E s₁') E s₁) E s) :
    Seg (model prog w) A RR Y n s₀ (.forLoop t it body [] env) ((model prog w).den (.forLoop t it body [] env)) fs s := by
  show Seg _ A RR Y n s₀ _ ((forTurn t it body [] env).onRaise (fun x => do noteFrame x env; theTreesLotGoes x)) fs s
  rw [Sem.onRaise_eq_wrap]
  unfold forTurn
  refine seg_bind_wrap (wpAny_standAt (seg_bind_wrap ?_))
  refine wpAny_onRaise (wpAny_mono (h _) (fun r s₁ h₁ => ?_) fun _ _ h' => wpAny_standAt h')
  cases r with
  | none => exact h₁
  | some v =>
    refine seg_bind_wrap (wpAny_mono h₁ (fun _ s₁' h₁' => seg_bind_wrap (wpAny_mono h₁' (fun _ s₂ h₂ => ?_) fun _ _ z => z)) fun _ _ z => z)
    rw [Sem.bind_eq_wrap', Sem.wrap_wrap]
    rw [Sem.wrap_congr (execs body env) _ _ (K' := fun f => match f with
            | .next | .cont => .pure (.again (.forLoop t it body [] env))
            | .brk => .pure (.done .next)
            | .ret v => .pure (.done (.ret v))) (fun f => by cases f <;> rfl) (fun e => rfl)]
    exact h₂ _ _ rfl
theorem room_func {q : Bool} {h₀ : Heap} {k : Nat} {body : List Stmt} (r : Room q h₀ (k + 1) A) : Room q h₀ k (A.over (.func body env) []) := by
  refine ⟨⟨r.hd.no, r.hd.ex⟩, ?_, ?_⟩
  · have := r.dp
    show A.depth + 0 + 1 + k ≤ 900
    omega
  · have := r.un
    show A.units + 0 + 3 * 1 + 20 * k ≤ 9000
    omega
theorem room_for {q : Bool} {h₀ : Heap} {k : Nat} {body b2 : List Stmt} {t : Expr} {it : PySem.Value} {kk : Result → Sem Fin} {g : Bool} {l : List PySem.Value} {p : Pos} (r : Room q h₀ (k + 1) A) : Room q h₀ k (A.over (.forLoop t it body [] env) [.ret kk none g l (.func b2 env) p []]) := by
  refine ⟨⟨r.hd.no, r.hd.ex⟩, ?_, ?_⟩
  · have := r.dp
    show A.depth + (1 + 0) + 0 + k ≤ 900
    omega
  · have := r.un
    show A.units + (3 * 1 + 0) + 3 * 0 + 20 * k ≤ 9000
    omega
noncomputable def StE (x : PySem.Str) (tk : Tok) (e it : Addr) (i : Nat) (h : Heap) : Prop := (∃ old, IsEnum h e it i old) ∧ h.IsStrIter it (strIterType x) x tk i
theorem strIter_endA {x : PySem.Str} {tk : Tok} {it : Addr} {i : Nat} {Q : PySem.Value → Shared → Prop} (hh : A.handled = none) (hit : s.heap.IsStrIter it "str_ascii_iterator" x tk i) (hx : x.cps[i]? = none)
    (hE : ∀ h' e, Heap.ExtBut it s.heap h' → (∃ o, h'.get? it = some o) → (∃ o, h'.get? e = some o ∧ o.cls = .type "StopIteration") → E (.ref e) { s with heap := h' }) :
    wpAny (model prog w) A (Builtin.SmallTypes.nextOf (.ref it)) Q E s := by
  have hit' := hit
  obtain ⟨o, ho, hc, hd⟩ := hit'
  unfold Builtin.SmallTypes.nextOf
  refine wpAny_bind (wpAny_callSpecial?_slot (name := Str.ofString "__next__") hit.typeIs PySem.F.slot_str_ascii_iterator_next (wpAny_call_entry PySem.F.slot_str_ascii_iterator_next hit.typeIs PySem.F.entry_str_ascii_iterator_next ?_ (PySem.F.args_str_ascii_iterator_next_1 _)))
  show wpAny _ _ (field (.ref it) 0 >>= _) _ _ s
  refine wpAny_bind (wpAny_field ho hd (x := .str x tk) rfl ?_)
  show wpAny _ _ (field (.ref it) 1 >>= _) _ _ s
  refine wpAny_bind (wpAny_field ho hd (x := .int i 0) rfl ?_)
  simp only [Int.toNat_natCast, hx]
  have e1 := fun f : Array PySem.Value → Array PySem.Value => Heap.get?_update_self (Obj.mapFields f) ho (Obj.isFreed_of_fields (Obj.data_mapFields hd f))
  refine wpAny_bind (wpAny_rule (wpAny_bind (wpAny_setField ho hd (by simp) (wpAny_bind (wpAny_letGo ?_)))))
  show wpAny _ _ (newExc (.type "StopIteration") [] >>= _) _ _ _
  refine wpAny_bind ?_
  simp only [newExc, newTuple]
  refine wpAny_bind (wpAny_newObj_type ?_ (by size_fits))
  refine wpAny_bind (m := firstArgMember _ _) (wpAny_of_eq (a := Value.none) (by first | rfl | (simp only [firstArgMember]; rfl)) ?_)
  refine wpAny_newObj_type ?_ (by size_fits)
  simp only [raiseNew]
  refine wpAny_bind (wpAny_handled ?_)
  rw [hh]
  refine wpAny_bind (wpAny_pure (wpAny_throw ?_))
  exact hE _ _ (((Heap.SameBut.update ..).extBut.push _).push _) ⟨_, Heap.get?_push_of_some _ (Heap.get?_push_of_some _ (e1 _))⟩ ⟨_, Heap.get?_push_size _ rfl, rfl⟩
theorem strIter_endW {x : PySem.Str} {tk : Tok} {it : Addr} {i : Nat} {Q : PySem.Value → Shared → Prop} (hh : A.handled = none) (hit : s.heap.IsStrIter it "str_iterator" x tk i) (hx : x.cps[i]? = none)
    (hE : ∀ h' e, Heap.ExtBut it s.heap h' → (∃ o, h'.get? it = some o) → (∃ o, h'.get? e = some o ∧ o.cls = .type "StopIteration") → E (.ref e) { s with heap := h' }) :
    wpAny (model prog w) A (Builtin.SmallTypes.nextOf (.ref it)) Q E s := by
  have hit' := hit
  obtain ⟨o, ho, hc, hd⟩ := hit'
  unfold Builtin.SmallTypes.nextOf
  refine wpAny_bind (wpAny_callSpecial?_slot (name := Str.ofString "__next__") hit.typeIs PySem.F.slot_str_iterator_next (wpAny_call_entry PySem.F.slot_str_iterator_next hit.typeIs PySem.F.entry_str_iterator_next ?_ (PySem.F.args_str_iterator_next_1 _)))
  show wpAny _ _ (field (.ref it) 0 >>= _) _ _ s
  refine wpAny_bind (wpAny_field ho hd (x := .str x tk) rfl ?_)
  show wpAny _ _ (field (.ref it) 1 >>= _) _ _ s
  refine wpAny_bind (wpAny_field ho hd (x := .int i 0) rfl ?_)
  simp only [Int.toNat_natCast, hx]
  have e1 := fun f : Array PySem.Value → Array PySem.Value => Heap.get?_update_self (Obj.mapFields f) ho (Obj.isFreed_of_fields (Obj.data_mapFields hd f))
  refine wpAny_bind (wpAny_rule (wpAny_bind (wpAny_setField ho hd (by simp) (wpAny_bind (wpAny_letGo ?_)))))
  show wpAny _ _ (newExc (.type "StopIteration") [] >>= _) _ _ _
  refine wpAny_bind ?_
  simp only [newExc, newTuple]
  refine wpAny_bind (wpAny_newObj_type ?_ (by size_fits))
  refine wpAny_bind (m := firstArgMember _ _) (wpAny_of_eq (a := Value.none) (by first | rfl | (simp only [firstArgMember]; rfl)) ?_)
  refine wpAny_newObj_type ?_ (by size_fits)
  simp only [raiseNew]
  refine wpAny_bind (wpAny_handled ?_)
  rw [hh]
  refine wpAny_bind (wpAny_pure (wpAny_throw ?_))
  exact hE _ _ (((Heap.SameBut.update ..).extBut.push _).push _) ⟨_, Heap.get?_push_of_some _ (Heap.get?_push_of_some _ (e1 _))⟩ ⟨_, Heap.get?_push_size _ rfl, rfl⟩
theorem enum_end {x : PySem.Str} {tk : Tok} {e it : Addr} {i : Nat} (hh : A.handled = none) (st : StE x tk e it i s.heap) (hx : x.cps[i]? = none) {Q : Option PySem.Value → Shared → Prop}
    (hQ : ∀ h', Heap.ExtBut it s.heap h' → (∃ o, h'.get? it = some o) → Q none { s with heap := h' }) : wpAny (model prog w) A (pyNext (.ref e)) Q E s := by
  obtain ⟨⟨old, he⟩, hs⟩ := st
  have hT : s.TypeIs (.ref e) "enumerate" := ⟨_, he, rfl⟩
  unfold pyNext
  refine wpAny_bind (wpAny_attempt (wpAny_callSpecial?_slot (name := Str.ofString "__next__") hT PySem.F.slot_enumerate_next
    (wpAny_call_entry PySem.F.slot_enumerate_next hT PySem.F.entry_enumerate_next ?_ (PySem.F.args_enumerate_next_1 _))))
  show wpAny _ _ (field (.ref e) 2 >>= _) _ _ _
  refine wpAny_bind (wpAny_field he rfl (x := .ref it) rfl ?_)
  have fin : ∀ (Q' : PySem.Value → Shared → Prop) (E' : PySem.Value → Shared → Prop), (∀ h' e, Heap.ExtBut it s.heap h' → (∃ o, h'.get? it = some o) → (∃ o, h'.get? e = some o ∧ o.cls = .type "StopIteration") → E' (.ref e) { s with heap := h' }) → wpAny (model prog w) A.in1 (Builtin.SmallTypes.nextOf (.ref it)) Q' E' s := by
    intro Q' E' hE
    unfold strIterType at hs
    split at hs
    · exact strIter_endA hh hs hx hE
    · exact strIter_endW hh hs hx hE
  refine wpAny_bind (fin _ _ fun h' x he' hi' hx' => ?_)
  obtain ⟨o, ho, hc⟩ := hx'
  refine wpAny_bind (wpAny_isInstance (T := "StopIteration") (b := true) ⟨o, ho, hc⟩ isSubtype_stop ?_)
  exact wpAny_pure (hQ _ he' hi')
theorem enum_draws {x : PySem.Str} {tk : Tok} {it : Addr} (hh : A.handled = none) : Draws prog w A.in1 it [it] x.cps.size (fun i v => ∃ c u, x.cps[i]? = some c ∧ v = .str ⟨#[c]⟩ u) (fun i h => h.IsStrIter it (strIterType x) x tk i) := by
  unfold strIterType
  split
  · exact Draws.strAscii (A := A.in1) hh it x tk
  · exact Draws.strWide (A := A.in1) hh it x tk
theorem enumV_drop {x : PySem.Str} {i : Nat} (h : i < x.cps.size) : (enumV x).drop i = .tup [.int (i : Int), .str ⟨#[x.cps[i]]⟩] :: (enumV x).drop (i + 1) := by
  have hl : i < (enumV x).length := by simp [enumV, h]
  rw [List.drop_eq_getElem_cons hl]
  simp [enumV]
theorem loop_ok {rd wr : List Addr} {ys rest : List V} (F : Frm env sc WL) (P : GPl c.h₀ env WL rd wr) (hco : sc.isCoroutine = false) {x : PySem.Str} {tk : Tok} {e it : Addr} (ne : e ≠ it) (ew : e ∈ wr) (iw : it ∈ wr) (eW : e ∉ WL) (iW : it ∉ WL)
    {es : List Expr} {kk : Nat} {tp : Pos} {body : List Stmt} (hq : c.q = true) (hok : (tNames (.Tuple es kk tp)).all (ownName sc) = true) {fs : List PySem.Frame} (hfs : splitAtGen fs = none) (hfg : fs.any Frame.guarded = false) (hr : Room c.q c.h₀ c.R (A.over (.forLoop (.Tuple es kk tp) (.ref e) body [] env) fs))
    {b' : Loc} (hk : ∀ s₀' s' FP', EnvR [] c.h₀ env ⟨sc, b'⟩ FP' [] s'.heap → flatB b' = true → SI wr s₀' s' → Seg (model c.prog c.w) A (RPr wr) (YPr c.h₀ rd wr ys) rest.length s₀' (.forLoop (.Tuple es kk tp) (.ref e) body [] env) (.pure (.again (.block [] env))) fs s') :
    ∀ (k i : Nat) (b : Loc) (zs done : List V) (s₀ s : Shared) (FP : PySem.Str → List Addr), i + k = x.cps.size → LgTo (c.pin []) sc (.Tuple es kk tp) body ((enumV x).drop i) b zs b' → ys = done ++ (zs ++ rest) → EnvR [] c.h₀ env ⟨sc, b⟩ FP [] s.heap → flatB b = true → SI wr s₀ s → StE x tk e it i s.heap →
      Seg (model c.prog c.w) A (RPr wr) (YPr c.h₀ rd wr ys) (zs.length + rest.length) s₀ (.forLoop (.Tuple es kk tp) (.ref e) body [] env) ((model c.prog c.w).den (.forLoop (.Tuple es kk tp) (.ref e) body [] env)) fs s := by
  have D : Draws c.prog c.w (A.over (.forLoop (.Tuple es kk tp) (.ref e) body [] env) fs).in1 it [it] x.cps.size (fun i v => ∃ c u, x.cps[i]? = some c ∧ v = .str ⟨#[c]⟩ u) (fun i h => h.IsStrIter it (strIterType x) x tk i) := enum_draws (hr.no hq)
  have enl : e ≠ env.locals := fun q => eW (q ▸ P.loc)
  have inl : it ≠ env.locals := fun q => iW (q ▸ P.loc)
  have kindE : ∀ (h : Heap) i, StE x tk e it i h → ∀ a ∈ [e, it], (∀ o, h.get? a = some o → fixedObj o = false) ∧ ∃ o, h.get? a = some o := by
    rintro h i ⟨⟨old, he⟩, o, h1, h2, h3⟩ a m
    rcases List.mem_cons.mp m with rfl | m
    · exact ⟨fun o' e' => by rw [he] at e'; cases e'; rfl, _, he⟩
    · rw [List.mem_singleton.mp m]
      refine ⟨fun o' e' => ?_, o, h1⟩
      rw [h1] at e'; cases e'
      unfold fixedObj
      rw [h3, h2]
      unfold strIterType
      cases x.cps.all (fun x => decide (x < 128)) <;> rfl
  intro k
  induction k with
  | zero =>
    intro i b zs done s₀ s FP hi q hys X fl I st
    have hdr : (enumV x).drop i = [] := List.drop_of_length_le (by simp [enumV]; omega)
    rw [hdr] at q
    cases q
    rw [show ([] : List V).length + rest.length = rest.length from Nat.zero_add _]
    obtain ⟨⟨old, he⟩, hs⟩ := id st
    have hi : i = x.cps.size := by omega
    subst hi
    refine seg_forTurn fun E => enum_end (hr.no hq) st (by simp) fun h' hx hex => ?_
    have t1 : Stp [it] [] s { s with heap := h' } := .of_walk (tk := s.toks) (fun a o m => hx a o (by simpa using m)) (fun a m => (kindE _ _ st a (.tail _ m)).1)
    refine hk s₀ _ FP (X.stp t1 (by simpa using Ne.symm inl) (fun x c e m => iW (List.mem_singleton.mp m ▸ P.cel x c e)) (fun y z e a m => by rw [flat_fp X fl e] at m; cases m) fun a m => by rw [List.mem_singleton.mp m]; exact (P.wr _ iw).2) fl ⟨I.stp.trans t1 (fun a m => .inl (by rw [List.mem_singleton.mp m]; exact iw)) (by first | exact nn | nofun), fun a m => ?_⟩
    obtain ⟨o, q⟩ := I.ex a m
    by_cases ha : a = it
    · subst ha; exact hex
    · exact ⟨o, hx a o ha q⟩
  | succ k ih =>
    intro i b zs done s₀ s FP hi q hys X fl I st
    have hlt : i < x.cps.size := by omega
    rw [enumV_drop hlt] at q
    cases q with
    | @cons _ bt b1 b2 _ _ _ z1 z2 hbt flt q1 sub fl2 q2 =>
      obtain ⟨⟨old, he⟩, hs⟩ := id st
      refine seg_forTurn fun E => wpAny_pyNext_enum_itemD D he hs hlt ne (by simpa using ne) fun y h1 tk1 hy ho st1 hT hsz hk1 => ?_
      obtain ⟨c, u, hc, rfl⟩ := hy
      rw [Array.getElem?_eq_getElem hlt] at hc
      cases hc
      dsimp only
      refine wpAny_letOwnedTupleGo_enum ho fun h2 he2 hs2 => ?_
      have nT : s.heap.objs.size ≠ e := Nat.ne_of_gt (Heap.lt_size he)
      have k2 : ∀ a o, a ≠ e → a ≠ it → s.heap.get? a = some o → h2.get? a = some o := fun a o n1 n2 q => (hs2.2 a n1).trans (hk1 a o n1 n2 q)
      have st2 : StE x tk e it (i + 1) h2 := by
        obtain ⟨o, g1, g2, g3⟩ := st1
        exact ⟨⟨_, by simpa using he2⟩, o, (hs2.2 it (Ne.symm ne)).trans g1, g2, g3⟩
      have t2 : Stp [e, it] [] s { s with heap := h2, toks := tk1 + 1 } := .of_walk (fun a o m q => k2 a o (fun z => m (z ▸ .head _)) (fun z => m (z ▸ .tail _ (.head _))) q) fun a m => (kindE _ _ st a m).1
      have X2 : EnvR [] c.h₀ env ⟨sc, b⟩ FP [] ({ s with heap := h2, toks := tk1 + 1 } : Shared).heap := X.stp t2 (by simp [Ne.symm enl, Ne.symm inl]) (fun y c e' m => by
        rcases List.mem_cons.mp m with rfl | m
        · exact eW (P.cel y _ e')
        · exact iW (List.mem_singleton.mp m ▸ P.cel y c e')) (fun y z e' a m => by rw [flat_fp X fl e'] at m; cases m) fun a m => by
        rcases List.mem_cons.mp m with rfl | m
        · exact (P.wr _ ew).2
        · rw [List.mem_singleton.mp m]; exact (P.wr _ iw).2
      have rT : VR h2 (.ref s.heap.objs.size) (.tup [.int (i : Int), .str ⟨#[x.cps[i]]⟩]) [] := .tup (vs := [.int i tk1, .str ⟨#[x.cps[i]]⟩ u]) (n := 0) ((hs2.2 _ nT).trans hT) (.cons (.int _ _) (.cons (.str _ _) .nil))
      refine hbt.asg X2 F.pls (fun y m => F.bnd y (List.all_eq_true.mp hok y m)) (fun _ => hr.no hq) rT (by first | exact nn | nofun) fun s3 FP3 X3 t3 n1 n2 => fun H gd hgd => ?_
      rw [show (z1 ++ z2).length + rest.length = z1.length + (z2 ++ rest).length by simp [Nat.add_assoc]]
      have I3 : SI wr s₀ s3 := by
        refine ⟨(I.stp.trans t2 (fun a m => .inl ?_) (by first | exact nn | nofun)).trans t3 (fun a m => .inl (P.sub a m)) (by first | exact nn | nofun), fun a m => ?_⟩
        · rcases List.mem_cons.mp m with rfl | m
          · exact ew
          · rw [List.mem_singleton.mp m]; exact iw
        · by_cases h3 : a ∈ WL
          · exact F.pls.dom X3 h3
          · have : ∃ o, h2.get? a = some o := by
              by_cases h4 : a ∈ [e, it]
              · exact (kindE _ _ st2 a h4).2
              · obtain ⟨o, q⟩ := I.ex a m
                exact ⟨o, t2.heap a o q (.inr h4)⟩
            obtain ⟨o, q⟩ := this
            exact ⟨o, t3.heap a o q (.inr h3)⟩
      have keepE : ∀ (s s' : Shared), StE x tk e it (i + 1) s.heap → (∀ a o, a = e ∨ a = it → s.heap.get? a = some o → s'.heap.get? a = some o) → StE x tk e it (i + 1) s'.heap := by
        rintro s s' ⟨⟨old, g0⟩, o, g1, g2⟩ kp
        exact ⟨⟨old, kp e _ (.inl rfl) g0⟩, o, kp it o (.inr rfl) g1, g2⟩
      have j1 : ∀ s s' : Shared, StE x tk e it (i + 1) s.heap → Stp WL [] s s' → StE x tk e it (i + 1) s'.heap := fun s s' g t => keepE s s' g fun a o m q => t.heap a o q (.inr (by rcases m with rfl | rfl <;> assumption))
      have j2 : ∀ s s' : Shared, StE x tk e it (i + 1) s.heap → Agr c.h₀ rd [] s s' → StE x tk e it (i + 1) s'.heap := fun s s' g t => keepE s s' g fun a o m q => t.heap a (by rcases m with rfl | rfl; exact (P.wr _ ew).1; exact (P.wr _ iw).1) o q
      refine gs_ok F P hco q1 (J := fun s => StE x tk e it (i + 1) s.heap) j1 j2 done (z2 ++ rest) (by rw [hys]; simp) hfs hfg hr hgd s₀ s3 FP3 X3 flt I3 (j1 _ _ st2 t3) fun s₀' s' FP' X' fl' I' st' => ?_
      refine seg_again rfl ?_
      rw [List.length_append]
      exact ih (i + 1) b2 z2 (done ++ z1) s₀' s' FP' (by omega) q2 (by rw [hys]; simp) (X'.weaken fun x y e => ⟨sub x y e, rfl⟩) fl2 I' st'
end

noncomputable def constV : Const → Option V
  | .none => some .none
  | .bool b => some (.bool b)
  | .int i => some (.int i)
  | .str s => some (.str s)
  | _ => none
inductive TpTo (c : Cx) (sc : Scope) : List Stmt → Loc → List V → Prop
  | const {x : PySem.Str} {p p' pos : Pos} {cn : Const} {k : Nat} {r : List Stmt} {b b1 : Loc} {v : V} {ys : List V} : ownName sc x = true → constV cn = some v → flatV v = true → setL b x v .own = b1 → TpTo c sc r b1 ys → TpTo c sc (.Assign [.Name x p] (.Constant cn k p') pos :: r) b ys
  | loop {es : List Expr} {k : Nat} {tp fp yp cp pos : Pos} {f y : PySem.Str} {body r : List Stmt} {b b0 b1 b2 : Loc} {x : PySem.Str} {st : Sta} {ys zs : List V} : notDbg f = true → notDbg y = true → (tNames (.Tuple es k tp)).all (ownName sc) = true → (sc.names.lookup f == some .globalImplicit) = true → c.Γ.glob f = some (.type "enumerate") → b.lookup y = some (.str x, st) →
      (∀ x y, b0.lookup x = some y → b.lookup x = some y) → flatB b0 = true → LgTo c sc (.Tuple es k tp) body (enumV x) b0 ys b1 → GsTo c sc b1 r zs b2 → TpTo c sc (.For (.Tuple es k tp) (.Call (.Name f fp) [.Name y yp] [] cp) body [] pos :: r) b (ys ++ zs)
section
variable {c : Cx} {prog : Program} {w : World} {h₀ : Heap} {n : Nat} {A : Around} {E : PySem.Value → Shared → Prop} {s s0 s1 s2 : Shared} {env : Env} {sc : Scope} {b b1 b2 : Loc} {FP : PySem.Str → List Addr} {O WL : List Addr}
theorem const_ok {c : Const} {k : Nat} {p : Pos} {v : V} (e : constV c = some v) {Q : PySem.Value → Shared → Prop} (h : ∀ u s', Ext s s' → s'.heap = s.heap → VR s'.heap u v [] → Q u s') : wpAny (model prog w) A (eval (.Constant c k p) env) Q E s := by
  cases c with
  | none => cases (show some V.none = some v from e); exact wpAny_Constant_none (h _ _ (.refl _ _ _) rfl .none)
  | bool b => cases (show some (V.bool b) = some v from e); exact wpAny_Constant_bool (h _ _ (.refl _ _ _) rfl (.bool _))
  | int i => cases (show some (V.int i) = some v from e); exact wpAny_Constant_int (h _ _ (.toks _ _) rfl (.int _ _))
  | str s => cases (show some (V.str s) = some v from e); exact wpAny_Constant_str (h _ _ (.toks _ _) rfl (.str _ _))
  | _ => exact nomatch (show (none : Option V) = some v from e)
theorem setL_flat {x : PySem.Str} {v : V} {t : Sta} (fv : flatV v = true) : ∀ {b : Loc}, flatB b = true → flatB (setL b x v t) = true
  | [], _ => by show flatB [(x, v, t)] = true; simp [flatB, fv]
  | p :: r, h => by
    simp only [flatB, List.all_cons, Bool.and_eq_true] at h
    rw [setL_c]
    split
    · simp only [flatB, List.all_cons, Bool.and_eq_true]; exact ⟨fv, h.2⟩
    · simp only [flatB, List.all_cons, Bool.and_eq_true]; exact ⟨h.1, setL_flat fv h.2⟩
theorem top_ok {ys : List V} {rd : List Addr} (F : Frm env sc WL) {N : Nat} (P : GPl c.h₀ env WL rd ((N + 1) :: N :: WL)) (hco : sc.isCoroutine = false) (hq : c.q = true) (hr : Room c.q c.h₀ (c.R + 1) A) (eW : N + 1 ∉ WL) (iW : N ∉ WL) {body0 : List Stmt} {H : PySem.Value → Sem Fin} {gd : Bool → Bool} (hgd : gd false = false)
    {sts : List Stmt} {b : Loc} (q : TpTo (c.pin []) sc sts b ys) : ∀ (s₀ s : Shared) (FP : PySem.Str → List Addr), EnvR [] c.h₀ env ⟨sc, b⟩ FP [] s.heap → flatB b = true → s.heap.objs.size = N → s₀.heap.objs.size = N → Stp WL [] s₀ s →
      Seg (model c.prog c.w) A (RPr ((N + 1) :: N :: WL)) (YPr c.h₀ rd ((N + 1) :: N :: WL) ys) ys.length s₀ (.func body0 env) ((execs sts env).wrap (fun f => .pure (.done (.ret (match f with | .ret v => v | _ => .none)))) H gd id) [] s := by
  have rf : Room c.q c.h₀ c.R (A.over (.func body0 env) []) := room_func hr
  induction q with
  | @const x p p' pos cn k r b b1 v ys ox ev fv eb h2 ih =>
    intro s₀ s FP X fl hs h0 st
    subst eb
    refine seg_execs_cons ?_
    refine seg_wrap (wpAny_Assign_Name (const_ok ev fun u s1 x1 eh r1 => ?_) (swaps_no rfl _ _))
    have X1 : EnvR [] c.h₀ env ⟨sc, b⟩ FP [] s1.heap := X.ext x1
    refine store_ok (st := .own) X1 r1 (by first | exact nn | nofun) OwnOk.nil (F.bnd x ox) fun s2 X2 t2 hz => ?_
    obtain ⟨h', tk, rfl, hz⟩ := hz
    exact ih s₀ _ _ (X2.flat (setL_flat fv fl)) (setL_flat fv fl) (by rw [← hs, ← eh]; exact hz) h0 ((st.ext x1).trans t2 (fun a m => .inl m) (by first | exact nn | nofun))
  | @loop es k tp fp yp cp pos f y body r b b0 b1 b2 x st zs1 zs2 c1 c2 c3 hk hg hy sub fl0 q1 q2 =>
    intro s₀ s FP X fl hs h0 stp
    refine seg_execs_cons ?_
    rw [exec_For]
    refine seg_bind_wrap (wpAny_standAt (seg_bind_wrap ?_))
    refine wpAny_bind (m := eval (.Name f fp) env) (wpAny_Name (look_glo (c := c.pin []) (pe := ⟨sc, b⟩) ⟨A.over (.func body0 env) [], _, s, env, FP, [], rf, X⟩ hk hg fun ru => ?_) (by simpa [notDbg] using c1))
    refine args1_raw (f := .type "enumerate") (fun h => ⟨.machine, .inr (.inl rfl), .of_pure rfl⟩) rfl ?_
    refine wpAny_Name (look_loc (c := c.pin []) (pe := ⟨sc, b⟩) ⟨A.over (.func body0 env) [], _, s, env, FP, [], rf, X⟩ hy fun u2 ru2 => ?_) (by simpa [notDbg] using c2)
    refine VR.strE ru2 fun tk => ?_
    refine call_enumerate_str fun h' he hi hz hk => ?_
    rw [hs] at he hi hz ⊢
    refine seg_bind_wrap (wpAny_pure (seg_bind_wrap (wpAny_standAt (seg_bind_wrap (wpAny_holding (wpAny_pyIter_enum he ?_))))))
    refine seg_runOwn fun p => ?_
    have x1 : Ext s { s with heap := h' } := .of_heap (tk := s.toks) hk
    have newA : ∀ a, N ≤ a → s₀.heap.get? a = none := fun a q => get_none_of_ge (by rw [h0]; exact q)
    have I1 : SI ((N + 1) :: N :: WL) s₀ { s with heap := h' } := by
      refine ⟨(stp.ext x1).mono (fun a m => .tail _ (.tail _ m)) (by first | exact nn | nofun), fun a m => ?_⟩
      rcases List.mem_cons.mp m with rfl | m
      · exact ⟨_, he⟩
      rcases List.mem_cons.mp m with rfl | m
      · obtain ⟨o, e1, _⟩ := hi
        exact ⟨o, e1⟩
      · obtain ⟨o, e1⟩ := F.pls.dom X m
        exact ⟨o, hk a o e1⟩
    rw [List.length_append]
    refine loop_ok (hq := hq) (A := A) F P hco (x := x) (tk := tk) (e := N + 1) (it := N) (Nat.succ_ne_self _) (.head _) (.tail _ (.head _)) eW iW c3 (by rfl) (by show (gd false || false) = false; rw [hgd]; rfl) (room_for hr) (b' := b1) (fun s₀' s' FP' X' fl' I' => ?_) x.cps.size 0 b0 zs1 [] s₀ _ FP (Nat.zero_add _) (by simpa using q1) (by simp) ((X.ext x1).weaken fun x y e => ⟨sub x y e, rfl⟩) fl0 I1 ⟨⟨_, he⟩, hi⟩
    refine seg_again rfl ?_
    show Seg _ A _ _ _ s₀' _ (leafOf (.ok .next)) _ s'
    refine seg_leaf (.ok .next) ?_
    show Seg _ A _ _ _ s₀' _ ((execs r env).wrap _ H gd id) [] s'
    have fin := gs_ok (A := A) (ys := zs1 ++ zs2) F P hco q2 (J := fun _ => True) (fun _ _ _ _ => trivial) (fun _ _ _ _ => trivial) zs1 [] (by simp) (cd := .func body0 env) (fs := []) rfl rfl rf (H := H) (lv := id) hgd s₀' s' FP' X' fl' I' trivial (Kf := fun f => .pure (.done (.ret (match f with | .ret v => v | _ => .none)))) fun s₀'' s'' FP'' X'' fl'' I'' _ => seg_end (.ok (.ret .none)) ⟨rfl, rfl, I''⟩
    simpa using fin
end

section
variable {c : Cx} {prog : Program} {w : World} {h₀ : Heap} {n : Nat} {A : Around} {E : PySem.Value → Shared → Prop} {s s0 s1 s2 : Shared} {env : Env} {sc : Scope} {b b1 b2 : Loc} {FP : PySem.Str → List Addr} {O WL : List Addr}
theorem next_gen {a : Addr} {g m : Nat} {gs : GenState} {P : Nat → Shared → Shared → Prop} {Y : Protocol} {Q : Option PySem.Value → Shared → Prop} (hh : A.handled = none) (hl : s.heap.NoLimit) (hroom : A.depth < recursionLimit)
    (hg : s.heap.IsGen a g) (hgs : s.gens[g]? = some gs) (hgo : gs.Goes (model prog w) A.in1 (fun n s₀ r s₁ => r = .ok (.ret .none) ∧ P n s₀ s₁) Y m (.send .none) (s.setGen g .running))
    (hY : ∀ v s₁ gs', gs'.bare = true → Y (m - 1) (s.setGen g .running) v s₁ (fun r' s'' => match m with
        | 0 => False
        | m' + 1 => gs'.Goes (model prog w) A.in1 (fun n s₀ r s₁ => r = .ok (.ret .none) ∧ P n s₀ s₁) Y m' r' s'') → Q (some v) (s₁.setGen g gs'))
    (hP : ∀ s₁, P m (s.setGen g .running) s₁ → ∀ h', (∀ b o, s₁.heap.get? b = some o → h'.get? b = some o) → Q none { s₁.setGen g .finished with heap := h' }) : wpAny (model prog w) A (pyNext (.ref a)) Q E s := by
  unfold pyNext
  refine wpAny_bind (wpAny_attempt (wpAny_callSpecial?_slot (name := Str.ofString "__next__") hg.typeIs slot_gen_next (wpAny_call_entry slot_gen_next hg.typeIs entry_gen_next ?_ (args_gen_next _))))
  show wpAny _ A.in1 (Builtin.Generator.genWake (.ref a) (.send .none)) _ _ s
  unfold Builtin.Generator.genWake
  refine wpAny_bind (wpAny_holding (wpAny_genNumber hg (wpAny_bind (wpAny_genState hgs ?_))))
  cases gs with
  | running => exact hgo.elim
  | finished => exact hgo.elim
  | _ =>
    refine wpAny_bind (wpAny_roomToWake hl hroom ?_)
    show wpAny _ A.in1 (.resume g (.send .none) [] _) _ _ s
    refine wpAny_resumeQ hgs hgo (fun x s₁ hx => ?_) (fun v s₁ gs' hb hv => wpAny_pure ⟨v, rfl, wpAny_pure (hY v s₁ gs' hb hv)⟩)
    obtain ⟨rfl, hp⟩ := hx
    show wpAny _ A.in1 (newExc (.type "StopIteration") [] >>= _) _ _ _
    refine wpAny_bind ?_
    simp only [newExc, newTuple]
    refine wpAny_bind (wpAny_newObj_type ?_ (by size_fits))
    refine wpAny_bind (m := firstArgMember _ _) (wpAny_of_eq (a := Value.none) (by first | rfl | (simp only [firstArgMember]; rfl)) ?_)
    refine wpAny_newObj_type ?_ (by size_fits)
    simp only [raiseNew]
    refine wpAny_bind (wpAny_bind (wpAny_handled ?_))
    rw [show A.in1.handled = none from hh]
    refine wpAny_throw ?_
    refine wpAny_bind (wpAny_isInstance (T := "StopIteration") (b := true) ⟨_, Heap.get?_push_size _ rfl, rfl⟩ isSubtype_stop ?_)
    exact wpAny_pure (hP s₁ hp _ fun b o hb => Heap.get?_push_of_some _ (Heap.get?_push_of_some _ hb))
theorem set_bare {gens : Array GenState} {g : Nat} {x : GenState} (h : AllBare gens) (hx : x.bare = true) : AllBare (gens.setIfInBounds g x) := fun y m => by
  obtain ⟨i, hi, rfl⟩ := Array.mem_iff_getElem.mp m
  rw [Array.getElem_setIfInBounds (by simpa using hi)]
  split
  · exact hx
  · exact h _ (Array.getElem_mem (by simpa using hi))
theorem set_other {s : Shared} {g i : Nat} {x : GenState} (h : i ≠ g) : (s.setGen g x).gens[i]? = s.gens[i]? := by
  simp [Shared.setGen, Ne.symm h]
theorem stp_set {g : Nat} {x : GenState} {h' : Heap} (hx : x.bare = true) (hk : ∀ a o, s.heap.get? a = some o → h'.get? a = some o) : Stp [] [g] s { s.setGen g x with heap := h' } :=
  ⟨fun a o e _ => hk a o e, rfl, fun i y e m => by show (s.setGen g x).gens[i]? = _; rw [set_other (by simpa using m)]; exact e, fun b => set_bare b hx⟩
theorem stp_set0 {g : Nat} {x : GenState} (hx : x.bare = true) : Stp [] [g] s (s.setGen g x) := stp_set (h' := s.heap) hx fun _ _ e => e
theorem agr_set {rd : List Addr} {g : Nat} {x : GenState} (hx : x.bare = true) (ag : Agr h₀ rd [g] s s1) : Agr h₀ rd [] s (s1.setGen g x) := by
  obtain ⟨W, G, t, a1, a2, a3⟩ := ag
  exact ⟨W, g :: G, (t.mono (fun a m => m) fun i m => .tail _ m).trans (stp_set0 hx) (by first | exact nn | nofun) (fun i m => .inl (by rw [List.mem_singleton.mp m]; exact .head _)), a1, by first | exact nn | nofun, a3⟩
theorem gen_go {h : Heap} {a : Addr} {g : Nat} (x : h.IsGen a g) : GoOk h a := by
  obtain ⟨o, nm, qn, e1, e2, e3, _⟩ := x
  exact ⟨o, e1, by unfold plainIt; rw [e2, e3]; rfl⟩
theorem it_gen {a : Addr} {g : Nat} {rd wr : List Addr} {ys : List V} (hr : Room true h₀ 1 A) (lim : h₀.NoLimit) (ha : a ∈ rd) (hw : ∀ x ∈ wr, x ∈ rd ∧ h₀.get? x = none) (aw : a ∉ wr) : ∀ (m : Nat) (s : Shared) (gs : GenState), m ≤ ys.length → Low h₀ s → s.heap.IsGen a g → s.gens[g]? = some gs →
    (∀ s'', Agr h₀ rd [] s s'' → gs.Goes (model prog w) A.in1 (RPr wr) (YPr h₀ rd wr ys) m (.send .none) s'') → It h₀ prog w A a rd wr [g] (ys.drop (ys.length - m)) s
  | 0, s, gs, hm, lo, hg, hgs, go => by
    rw [Nat.sub_zero, List.drop_length]
    intro s' ag Q E hQ
    obtain ⟨o, nm, qn, e1, e2⟩ := hg
    refine next_gen (P := fun n s₀ s₁ => n = 0 ∧ SI wr s₀ s₁) (hr.no rfl) (lim.keeps (ag.low lo)) hr.depth ⟨o, nm, qn, ag.heap a ha o e1, e2⟩ (ag.gens g (.head _) _ hgs) (go _ (agr_set rfl ag)) (fun v s₁ gs' hb hv => ?_) fun s₁ hp h' hk => hQ _ ?_
    · obtain ⟨_, _, _, _, _, hkap⟩ := hv
      exact (hkap s₁ (.refl _ _ _ _)).elim
    · refine ((stp_set0 (g := g) (x := .running) rfl).mono (by first | exact nn | nofun) (fun i m => m)).trans ((hp.2.stp.mono (fun a m => m) (by first | exact nn | nofun)).trans (stp_set (g := g) rfl hk) (by first | exact nn | nofun) (fun i m => .inl m)) (fun a m => .inl m) fun i m => .inl m
  | m + 1, s, gs, hm, lo, hg, hgs, go => by
    have hl : ys.length - (m + 1) < ys.length := by omega
    rw [List.drop_eq_getElem_cons hl]
    intro s' ag Q E hQ
    obtain ⟨o, nm, qn, e1, e2⟩ := hg
    have lo' := ag.low lo
    refine next_gen (P := fun n s₀ s₁ => n = 0 ∧ SI wr s₀ s₁) (hr.no rfl) (lim.keeps lo') hr.depth ⟨o, nm, qn, ag.heap a ha o e1, e2⟩ (ag.gens g (.head _) _ hgs) (go _ (agr_set rfl ag)) (fun v s₁ gs' hb hv => ?_) fun s₁ hp h' hk => absurd hp.1 (Nat.succ_ne_zero _)
    obtain ⟨x, hx, fx, rx, I, hkap⟩ := hv
    rw [show ys.length - 1 - (m + 1 - 1) = ys.length - (m + 1) by rw [Nat.sub_sub, Nat.add_comm]; rfl, List.getElem?_eq_getElem hl] at hx
    cases hx
    have hg1 : s₁.heap.IsGen a g := ⟨o, nm, qn, I.stp.heap a o (ag.heap a ha o e1) (.inr aw), e2⟩
    have gself : (s₁.setGen g gs').gens[g]? = some gs' := by
      have h1 := ag.gens g (.head _) _ hgs
      have h2 : (s'.setGen g .running).gens[g]? = some .running := setGen_self h1
      have h3 := I.stp.gens g _ h2 (by first | exact nn | nofun)
      exact setGen_self h3
    refine hQ v [] (s₁.setGen g gs') rd wr ?_ rx (by first | exact nn | nofun) (fun _ => gen_go hg1) I.ex (fun i m => by rw [List.mem_singleton.mp m]; exact ⟨_, gself⟩) (.same hw) ?_
    · exact ((stp_set0 (g := g) (x := .running) rfl).mono (by first | exact nn | nofun) (fun i m => m)).trans ((I.stp.mono (fun a m => m) (by first | exact nn | nofun)).trans (stp_set0 (g := g) hb) (by first | exact nn | nofun) (fun i m => .inl m)) (fun a m => .inl m) fun i m => .inl m
    · have lo1 : Low h₀ (s₁.setGen g gs') := fun b o' q => I.stp.heap b o' (lo' b o' q) (.inr fun z => by rw [(hw b z).2] at q; cases q)
      have := it_gen hr lim ha hw aw m (s₁.setGen g gs') gs' (by omega) lo1 hg1 gself fun s'' ag2 => hkap s'' ?_
      · rw [show ys.length - (m + 1) + 1 = ys.length - m from Nat.succ_pred_eq_of_pos (Nat.sub_pos_of_lt hm)]
        exact this
      · obtain ⟨W, G, t, a1, a2, a3⟩ := ag2
        exact ⟨W, g :: G, ((stp_set0 (g := g) hb).mono (W' := W) (G' := g :: G) (by first | exact nn | nofun) (fun i m => by rw [List.mem_singleton.mp m]; exact .head _)).trans (t.mono (fun a m => m) fun i m => .tail _ m) (fun a m => .inl m) fun i m => .inl m, a1, by first | exact nn | nofun, a3⟩
theorem iter_gen (hq : c.q = true) {a : Addr} {g : Nat} {ys : List V} {body : List Stmt} (F : Frm env sc WL) (hco : sc.isCoroutine = false) (loc : env.locals ∈ WL) (cel : ∀ x c, env.cells.lookup x = some c → c ∈ WL) (aw : a ∉ WL)
    (q : TpTo (c.pin []) sc body b ys) (X : EnvR [] c.h₀ env ⟨sc, b⟩ FP [] s.heap) (fl : flatB b = true) (hg : s.heap.IsGen a g) (hgs : s.gens[g]? = some (.fresh (.func body env))) (hr : Room c.q c.h₀ (c.R + 2) A) : It c.h₀ c.prog c.w A a (a :: WL) WL [g] ys s := by
  have wlN : ∀ x ∈ WL, c.h₀.get? x = none := fun x m => by
    rcases F.pls x m with rfl | ⟨y, c, e, rfl⟩
    · exact X.above
    · exact (X.cells y _ e).1
  have P0 : GPl c.h₀ env WL (a :: WL) WL := ⟨fun _ m => m, fun x m => ⟨.tail _ m, wlN x m⟩, loc, cel⟩
  have key : ∀ s', Agr c.h₀ (a :: WL) [g] s s' → ∀ (Q : Option PySem.Value → Shared → Prop) (E : PySem.Value → Shared → Prop),
      (ys = [] → ∀ s'', Stp WL [g] s' s'' → Q none s'') →
      (∀ v s₁ gs' x r, ys = x :: r → Stp WL [g] s' (s₁.setGen g gs') → VR s₁.heap v x [] → GoOk s₁.heap a → SI ((s'.heap.objs.size + 1) :: s'.heap.objs.size :: WL) (s'.setGen g .running) s₁ →
        It c.h₀ c.prog c.w A a (a :: (s'.heap.objs.size + 1) :: s'.heap.objs.size :: WL) ((s'.heap.objs.size + 1) :: s'.heap.objs.size :: WL) [g] r (s₁.setGen g gs') → (∃ gg, (s₁.setGen g gs').gens[g]? = some gg) → Q (some v) (s₁.setGen g gs')) → wpAny (model c.prog c.w) A (pyNext (.ref a)) Q E s' := by
    intro s' ag Q E hn hc
    obtain ⟨o, nm, qn, e1, e2⟩ := hg
    have lo : Low c.h₀ s := X.low
    have lo' := ag.low lo
    generalize hN : s'.heap.objs.size = N at hc
    have n0 : s'.heap.get? N = none := get_none_of_ge (by omega)
    have n1 : s'.heap.get? (N + 1) = none := get_none_of_ge (by omega)
    have newH : ∀ x, s'.heap.get? x = none → c.h₀.get? x = none := fun x e => by
      cases q : c.h₀.get? x with
      | none => rfl
      | some o => have := lo' x o q; rw [e] at this; cases this
    have X' : EnvR [] c.h₀ env ⟨sc, b⟩ FP [] s'.heap := X.agrG (s1 := s') fl P0 (let ⟨W, G, t, a1, a2, a3⟩ := ag; ⟨W, G, t, a1, by first | exact nn | nofun, a3⟩)
    have wlX : ∀ x ∈ WL, ∃ o, s'.heap.get? x = some o := fun x m => F.pls.dom X' m
    have iW : N ∉ WL := fun m => by obtain ⟨o, e⟩ := wlX _ m; rw [n0] at e; cases e
    have eW : N + 1 ∉ WL := fun m => by obtain ⟨o, e⟩ := wlX _ m; rw [n1] at e; cases e
    have hae := ag.heap a (.head _) o e1
    have aN : a ≠ N := fun z => by rw [z, n0] at hae; cases hae
    have aN1 : a ≠ N + 1 := fun z => by rw [z, n1] at hae; cases hae
    have hw : ∀ x ∈ (N + 1) :: N :: WL, x ∈ a :: (N + 1) :: N :: WL ∧ c.h₀.get? x = none := fun x m => by
      refine ⟨.tail _ m, ?_⟩
      rcases List.mem_cons.mp m with rfl | m
      · exact newH _ n1
      rcases List.mem_cons.mp m with rfl | m
      · exact newH _ n0
      · exact wlN x m
    have aw2 : a ∉ (N + 1) :: N :: WL := fun m => by
      rcases List.mem_cons.mp m with z | m
      · exact aN1 z
      rcases List.mem_cons.mp m with z | m
      · exact aN z
      · exact aw m
    have P : GPl c.h₀ env WL (a :: (N + 1) :: N :: WL) ((N + 1) :: N :: WL) := ⟨fun _ m => .tail _ (.tail _ m), hw, loc, cel⟩
    have seg : Seg (model c.prog c.w) A.in1 (RPr ((N + 1) :: N :: WL)) (YPr c.h₀ (a :: (N + 1) :: N :: WL) ((N + 1) :: N :: WL) ys) ys.length (s'.setGen g .running) (.func body env) ((model c.prog c.w).den (.func body env)) [] (s'.setGen g .running) := by
      refine seg_func ?_
      exact top_ok (A := A.in1) F (N := N) P hco hq hr.in1 eW iW (gd := id) rfl q _ _ FP X' fl hN hN (.refl _ _ _)
    have back : ∀ {s₁ : Shared}, SI ((N + 1) :: N :: WL) (s'.setGen g .running) s₁ → Stp WL [g] s' s₁ := fun I =>
      ((stp_set0 (g := g) (x := .running) rfl).mono (by first | exact nn | nofun) (fun i m => m)).trans (I.stp.mono (fun a m => m) (by first | exact nn | nofun)) (fun x m => by
        rcases List.mem_cons.mp m with rfl | m
        · exact .inr n1
        rcases List.mem_cons.mp m with rfl | m
        · exact .inr n0
        · exact .inl m) (fun i m => .inl m)
    refine next_gen (m := ys.length) (P := fun n s₀ s₁ => n = 0 ∧ SI ((N + 1) :: N :: WL) s₀ s₁) (hr.no hq) (c.ok.base.lim.keeps lo') hr.depth ⟨o, nm, qn, hae, e2⟩ (ag.gens g (.head _) _ hgs) ⟨rfl, seg⟩ (fun v s₁ gs' hb hv => ?_) fun s₁ hp h' hk => hn (List.eq_nil_of_length_eq_zero hp.1) _ ((back hp.2).trans (stp_set (g := g) rfl hk) (by first | exact nn | nofun) fun i m => .inl m)
    obtain ⟨x, hx, fx, rx, I, hkap⟩ := hv
    cases ys with
    | nil => exact (hkap s₁ (.refl _ _ _ _)).elim
    | cons y r =>
      rw [show (y :: r).length - 1 - ((y :: r).length - 1) = 0 by omega] at hx
      cases hx
      have hg1 : s₁.heap.IsGen a g := ⟨o, nm, qn, I.stp.heap a o hae (.inr aw2), e2⟩
      have gself : (s₁.setGen g gs').gens[g]? = some gs' := setGen_self (I.stp.gens g _ (setGen_self (ag.gens g (.head _) _ hgs)) (by first | exact nn | nofun))
      refine hc v s₁ gs' _ r rfl ((back I).trans (stp_set0 (g := g) hb) (by first | exact nn | nofun) fun i m => .inl m) rx (gen_go hg1) I ?_ ⟨_, gself⟩
      have lo1 : Low c.h₀ (s₁.setGen g gs') := fun b o' q => I.stp.heap b o' (lo' b o' q) (.inr fun z => by rw [(hw b z).2] at q; cases q)
      have := it_gen (A := A) (ys := x :: r) (hq ▸ hr.mono (by omega)) c.ok.base.lim (.head _) hw aw2 r.length (s₁.setGen g gs') gs' (by simp) lo1 hg1 gself fun s'' ag2 => hkap s'' ?_
      · simpa using this
      · obtain ⟨W, G, t, a1, a2, a3⟩ := ag2
        exact ⟨W, g :: G, ((stp_set0 (g := g) hb).mono (W' := W) (G' := g :: G) (by first | exact nn | nofun) (fun i m => by rw [List.mem_singleton.mp m]; exact .head _)).trans (t.mono (fun a m => m) fun i m => .tail _ m) (fun a m => .inl m) fun i m => .inl m, a1, by first | exact nn | nofun, a3⟩
  cases ys with
  | nil => exact fun s' ag Q E hQ => key s' ag Q E (fun _ => hQ) (fun v s₁ gs' x r e => by cases e)
  | cons y r =>
    intro s' ag Q E hQ
    refine key s' ag Q E (fun e => by cases e) fun v s₁ gs' x r' e t rx go I it gx => ?_
    cases e
    have lo' := ag.low X.low
    refine hQ v [] (s₁.setGen g gs') _ _ t rx (by first | exact nn | nofun) (fun _ => go) I.ex (fun i m => by rw [List.mem_singleton.mp m]; exact gx) ⟨fun x m => ?_, fun x m => .tail _ (.tail _ m), fun x m => ?_, fun x m => ?_⟩ it
    · rcases List.mem_cons.mp m with rfl | m
      · exact .head _
      · exact .tail _ (.tail _ (.tail _ m))
    · rcases List.mem_cons.mp m with rfl | m
      · exact .inl (.head _)
      rcases List.mem_cons.mp m with rfl | m
      · exact .inr ⟨get_none_of_ge (Nat.le_succ _), I.ex _ (.head _)⟩
      rcases List.mem_cons.mp m with rfl | m
      · exact .inr ⟨get_none_of_size, I.ex _ (.tail _ (.head _))⟩
      · exact .inl (.tail _ m)
    · refine ⟨.tail _ m, ?_⟩
      have newH : ∀ x, s'.heap.get? x = none → c.h₀.get? x = none := fun x e => by
        cases q : c.h₀.get? x with
        | none => rfl
        | some o => have := lo' x o q; rw [e] at this; cases this
      rcases List.mem_cons.mp m with rfl | m
      · exact ⟨newH _ (get_none_of_ge (Nat.le_succ _)), .inr (get_none_of_ge (Nat.le_succ _))⟩
      rcases List.mem_cons.mp m with rfl | m
      · exact ⟨newH _ get_none_of_size, .inr get_none_of_size⟩
      · exact ⟨wlN x m, .inl m⟩
theorem genOk_of (hq : c.q = true) {f : Addr} {st : Stmt} {dV kV : PySem.Value} {names : List PySem.Str} {F : List V → Option (List V)} (I : FnIn c.K f st dV kV) (hsc : ((scpOf st).kind == .function && !(scpOf st).isCoroutine && (scpOf st).isGenerator) = true) (ok : entOk (scpOf st) names = true)
    (hb : ∀ name qual doc pm cdv ct an (s : Shared) (us : List PySem.Value), us.length = names.length → BindsTo s (fnOf name qual (prmOf st) (bodOf st) (scpOf st) dV kV doc pm an cdv ct) ⟨us, []⟩ (names.zip us))
    (hF : ∀ args ys, F args = some ys → args.length = names.length ∧ TpTo (c.pin []) (scpOf st) (bodOf st) (entB names args) ys ∧ flatB (entB names args) = true) : GenOk c f F := by
  refine ⟨fun h X => keeps_K I.kp h X, fun args ys e A E s us fp Q hr lo r1 h => ?_⟩
  obtain ⟨e1, q, fl⟩ := hF _ _ e
  have l1 := r1.length
  have kin : c.K.In s.heap := c.ok.base.kin.keeps lo
  obtain ⟨⟨name, qual, doc, pm, cdv, ct, oc, an, od, osl, i1, i3⟩, _⟩ := I
  simp only [Bool.and_eq_true, Bool.not_eq_true', beq_iff_eq] at hsc
  obtain ⟨⟨hk, hco⟩, hgen⟩ := hsc
  obtain ⟨FP, N⟩ := entF_ok (h₀ := c.h₀) (sc := scpOf st) (xs := names) r1 (by rw [l1, e1]) ok
  refine wpAny_call (codeAny_call_generator (body := bodOf st) hr.depth (kin _ _ i1) rfl hco hgen rfl (codeRec_of kin i3) ?_)
  refine hb _ _ _ _ _ _ _ s us (by rw [l1, e1]) _ _ _ _ ?_
  refine entry_ok hk lo N fun env s2 WL X F0 hWL hloc x2 => ⟨(c.ok.base.lim.keeps lo).keeps x2.keep, ?_⟩
  have X := X.flat fl
  have lo2 := lo.ext x2
  have ha : s2.heap.get? s2.heap.objs.size = none := get_none_of_size
  have x3 : Ext s2 { s2 with gens := s2.gens.push (.fresh (.func (bodOf st) env)), toks := s2.toks + 1 + 1, heap := s2.heap.push { cls := .type "generator", data := .fields #[.int s2.gens.size 0, .str name s2.toks, .str qual (s2.toks + 1)] } } := by
    refine ⟨fun a o e _ => Heap.get?_push_of_some _ e, rfl, fun i g e _ => ?_, fun b y m => ?_⟩
    · have hi := (Array.getElem?_eq_some_iff.mp e).1
      show (s2.gens.push _)[i]? = some g
      rw [Array.getElem?_push_lt hi]
      exact e ▸ (Array.getElem?_eq_getElem hi).symm
    · rcases Array.mem_push.mp m with m | rfl
      · exact b _ m
      · rfl
  refine h _ _ (x2.ext x3) ?_
  have aw : s2.heap.objs.size ∉ WL := fun m => by
    obtain ⟨o, e⟩ := F0.pls.dom X m
    rw [ha] at e; cases e
  have gen : ({ s2 with gens := s2.gens.push (.fresh (.func (bodOf st) env)), toks := s2.toks + 1 + 1, heap := s2.heap.push { cls := .type "generator", data := .fields #[.int s2.gens.size 0, .str name s2.toks, .str qual (s2.toks + 1)] } } : Shared).heap.IsGen s2.heap.objs.size s2.gens.size := ⟨_, _, _, Heap.get?_push_size _ rfl, rfl, rfl, rfl⟩
  intro A' E' Q' hr' hQ'
  refine wpAny_pyIter_gen gen ?_
  refine hQ' s2.heap.objs.size (s2.heap.objs.size :: WL) WL [s2.gens.size] _ (.refl _ _ _) (fun a m => ?_) (fun a m => ⟨hWL a m, .tail _ m⟩) (fun i m => ?_) (fun A2 hr2 => ?_) fun A2 E2 Q2 s'' hr2 ag q2 => ?_
  · rcases List.mem_cons.mp m with rfl | m
    · exact ⟨.inr (back x2 ha), _, Heap.get?_push_size _ rfl⟩
    · obtain ⟨o, e⟩ := F0.pls.dom X m
      exact ⟨.inr (hWL a m), o, Heap.get?_push_of_some _ e⟩
  · rw [List.mem_singleton.mp m]
    refine ⟨?_, _, Array.getElem?_push_size ..⟩
    cases e : s.gens[s2.gens.size]? with
    | none => rfl
    | some gg =>
      have := x2.gens _ _ e (by first | exact nn | nofun)
      have := (Array.getElem?_eq_some_iff.mp this).1
      exact absurd this (Nat.lt_irrefl _)
  · exact iter_gen hq F0 hco hloc.1 hloc.2 aw q (X.ext x3) fl gen (Array.getElem?_push_size ..) hr2
  · obtain ⟨o, nm, qn, e1, e2⟩ := gen
    exact wpAny_pyIter_gen ⟨o, nm, qn, ag.heap _ (.head _) o e1, e2⟩ q2
end

section
variable {α : Type}
noncomputable def nthA : Nat → List (PySem.Str × α) → Option (PySem.Str × α)
  | _, [] => none
  | 0, p :: _ => some p
  | i + 1, _ :: r => nthA i r
noncomputable def freA : Nat → List (PySem.Str × α) → PySem.Str → Bool
  | 0, _, _ => true
  | _ + 1, [], _ => true
  | i + 1, p :: r, x => !(x == p.1) && freA i r x
noncomputable def setA : Nat → List (PySem.Str × α) → PySem.Str × α → List (PySem.Str × α)
  | _, [], e => [e]
  | 0, _ :: r, e => e :: r
  | i + 1, p :: r, e => p :: setA i r e
noncomputable def isA : Nat → List (PySem.Str × α) → PySem.Str → Bool
  | _, [], _ => true
  | 0, p :: _, x => x == p.1
  | i + 1, _ :: r, x => isA i r x
noncomputable def putA (i : Nat) (l : List (PySem.Str × α)) (x : PySem.Str) : Bool := freA i l x && isA i l x
theorem bnt {b : Bool} (h : (!b) = true) : b = false := by cases b; rfl; cases h
theorem nth_lookup {x : PySem.Str} {a : α} : ∀ {i : Nat} {l : List (PySem.Str × α)}, nthA i l = some (x, a) → freA i l x = true → l.lookup x = some a
  | 0, [], h, _ => nomatch h
  | _ + 1, [], h, _ => nomatch h
  | 0, p :: r, h, _ => by
    cases (show some p = _ from h)
    exact List.lookup_cons_self
  | i + 1, p :: r, h, k => by
    have k := Bool.and_eq_true_iff.mp (show (!(x == p.1) && freA i r x) = true from k)
    rw [List.lookup_cons, bnt k.1]
    exact nth_lookup h k.2
theorem setL_of {x : PySem.Str} {v : V} {st : Sta} : ∀ {i : Nat} {l : Loc}, putA i l x = true → setL l x v st = setA i l (x, v, st)
  | 0, [], _ => rfl
  | _ + 1, [], _ => rfl
  | 0, p :: r, k => by
    have k : (x == p.1) = true := k
    show (if p.1 == x then (x, v, st) :: r else p :: setL r x v st) = _
    rw [if_pos (by rw [beq_iff_eq] at k ⊢; exact k.symm)]; rfl
  | i + 1, p :: r, k => by
    obtain ⟨k1, k2⟩ := Bool.and_eq_true_iff.mp (show ((!(x == p.1) && freA i r x) && isA i r x) = true from k)
    obtain ⟨k1, k3⟩ := Bool.and_eq_true_iff.mp k1
    have n1 : (p.1 == x) = false := by
      have := bnt k1
      rw [beq_eq_false_iff_ne] at this ⊢
      exact fun q => this q.symm
    show (if p.1 == x then (x, v, st) :: r else p :: setL r x v st) = p :: setA i r (x, v, st)
    rw [n1, if_neg (by decide), setL_of (i := i) (Bool.and_eq_true_iff.mpr ⟨k3, k2⟩)]
theorem setF_of {x : PySem.Str} {v : V} : ∀ {i : Nat} {l : List (PySem.Str × V)}, putA i l x = true → setF l x v = setA i l (x, v)
  | 0, [], _ => rfl
  | _ + 1, [], _ => rfl
  | 0, p :: r, k => by
    exact if_pos (show (x == p.1) = true from k)
  | i + 1, p :: r, k => by
    obtain ⟨k1, k2⟩ := Bool.and_eq_true_iff.mp (show ((!(x == p.1) && freA i r x) && isA i r x) = true from k)
    obtain ⟨k1, k3⟩ := Bool.and_eq_true_iff.mp k1
    show (if x == p.1 then (x, v) :: r else p :: setF r x v) = p :: setA i r (x, v)
    rw [bnt k1, if_neg (by decide), setF_of (i := i) (Bool.and_eq_true_iff.mpr ⟨k3, k2⟩)]
end
noncomputable def nmOk (i : Nat) (b : Loc) (x : PySem.Str) : Bool := freA i b x && notDbg x
theorem nmOk_of {i : Nat} {b : Loc} {x : PySem.Str} {v : V} {st : Sta} (e : nthA i b = some (x, v, st)) (k : nmOk i b x = true) : b.lookup x = some (v, st) ∧ notDbg x = true := by
  unfold nmOk at k
  rw [Bool.and_eq_true] at k
  exact ⟨nth_lookup e k.1, k.2⟩
noncomputable def gOk (sc : Scope) (x : PySem.Str) : Bool := (sc.names.lookup x == some .globalImplicit) && notDbg x
noncomputable def ptOk (sc : Scope) (i : Nat) (b : Loc) (x : PySem.Str) : Bool := putA i b x && ownName sc x
section
variable {c : Cx} {pe : PE} {e l r o : Expr} {v a b : V} {fr f0 f1 f2 : Bool} {x : PySem.Str} {st : Sta} {p q p' pos apos cpos : Pos} {args : List Expr} {vs : List V}
theorem EvTo.nm (i : Nat) (e : nthA i pe.b = some (x, v, st)) (k : nmOk i pe.b x = true) : EvTo c pe (.Name x p) v false := .name (nmOk_of e k).1 (nmOk_of e k).2
theorem EvTo.nmf (i : Nat) (e : nthA i pe.b = some (x, v, st)) (k : nmOk i pe.b x = true) (hf : flatV v = true) : EvTo c pe (.Name x p) v fr := .any hf (.nm i e k)
theorem EvTo.gl {z : PySem.Value} (eg : c.Γ.glob x = some z) (k : gOk pe.sc x = true) : EvTo c pe (.Name x p) (.val z) fr := by
  unfold gOk at k
  rw [Bool.and_eq_true] at k
  exact .glob eg k.2 k.1
theorem EvTo.fl (j : Nat) {name : PySem.Str} {C : Addr} {fs : List (PySem.Str × V)} (hb : ∀ env, attributeBase o name env (eval o env) = eval o env) (h0 : EvTo c pe o (.inst C fs) false) (hf : c.Γ.fld C name = true) (e : nthA j fs = some (name, v)) (k : (freA j fs name && (notVal v).isSome) = true) : EvTo c pe (.Attribute o name p) v false := by
  rw [Bool.and_eq_true] at k
  exact .fld hb h0 hf (nth_lookup e k.1) k.2
theorem EtTo.to {x y : Bool} (h : EtTo c pe e x) (e' : x = y) : EtTo c pe e y := e' ▸ h
theorem EvTo.to {v' : V} (h : EvTo c pe e v fr) (e' : v = v') : EvTo c pe e v' fr := e' ▸ h
theorem eqV_str {a c : PySem.Str} (ha : PyData.strOk a = true) (hc : PyData.strOk c = true) : eqV (.str a) (.str c) = some (a == c) := by
  show (if SeqAt.shaped (.str a) && SeqAt.shaped (.str c) then some (a == c) else none) = _
  rw [show SeqAt.shaped (.str a) = true from Bool.and_eq_true_iff.mpr ⟨ha, rfl⟩, show SeqAt.shaped (.str c) = true from Bool.and_eq_true_iff.mpr ⟨hc, rfl⟩]; rfl
theorem eqV_int (a c : Int) : eqV (.int a) (.int c) = some (a == c) := rfl
theorem CmTo.eqI {i j : Int} : CmTo .Eq (.int i) (.int j) (i == j) := CmTo.eq (eqV_int i j)
theorem CmTo.neI {i j : Int} : CmTo .NotEq (.int i) (.int j) (!(i == j)) := CmTo.ne (eqV_int i j)
theorem EtTo.cm {op : CmpOp} {x y : Bool} {p : Pos} (h1 : EvTo c pe l a false) (h2 : EvTo c pe r b false) (hc : CmTo op a b x) (e : x = y) (hm : lastMarks [op] [r] = false) : EtTo c pe (.Compare l [op] [r] p) y := EtTo.to (EtTo.cmp h1 h2 hc hm) e
theorem EvTo.cm {op : CmpOp} {x y : Bool} {p : Pos} (h1 : EvTo c pe l a false) (h2 : EvTo c pe r b false) (hc : CmTo op a b x) (e : x = y) (hm : lastMarks [op] [r] = false) : EvTo c pe (.Compare l [op] [r] p) (.bool y) fr := by subst e; exact EvTo.cmp h1 h2 hc hm
theorem EtTo.vl {x y : Bool} (h1 : EvTo c pe e v false) (ht : TrTo v x) (ee : x = y) (hp : ∀ (env : Env) (m : Sem PySem.Value), isTrue e env m = (do let v ← m; standAt (Expr.pos e); holding [v] (truthy v))) : EtTo c pe e y := by subst ee; exact EtTo.val h1 ht hp
theorem EvTo.mt {v0 : V} {name : PySem.Str} {apos cpos : Pos} {f : PySem.Value} {kws : List Keyword} {ks : List (PySem.Str × V)} (hb : ∀ env, attributeBase o name env (eval o env) = eval o env) (hn : (decide (args.length + kws.length < 20) && (apos.endLine == cpos.line)) = true) (h0 : EvTo c pe o v0 false) (em : c.Γ.meth v0 name = some f) (h1 : EvsTo c pe args vs false) (h2 : EvkTo c pe kws ks) (e : c.Γ.fn f (v0 :: vs) ks = some v) : EvTo c pe (.Call (.Attribute o name apos) args kws cpos) v fr := by
  rw [Bool.and_eq_true] at hn
  exact .meth hb hn.1 hn.2 h0 em h1 h2 e
theorem EvTo.sm {xs : PySem.Str} {f : PySem.Value} {name : PySem.Str} {apos cpos : Pos} (hb : ∀ env, attributeBase o name env (eval o env) = eval o env) (hn : (decide (args.length < 20) && (apos.endLine == cpos.line)) = true) (h0 : EvTo c pe o (.str xs) false) (sm : SmTo name f) (h1 : EvsTo c pe args vs false) (b : BiTo c.q f (.str xs :: vs) v) : EvTo c pe (.Call (.Attribute o name apos) args [] cpos) v fr := by
  rw [Bool.and_eq_true] at hn
  exact .smeth hb hn.1 hn.2 h0 sm h1 b
end

section
variable {c : Cx} {sc : Scope} {b b1 b2 b' : Loc} {e l r o i : Expr} {v y y' : V} {fr f0 f1 f2 : Bool} {x : PySem.Str} {st st1 : Sta} {p q p' pos apos cpos : Pos} {args : List Expr} {vs xs : List V} {ss : List Stmt} {fw : Fl}
theorem SsTo.forget (h : SsTo c sc b ss fw b') (sub : ∀ x y, b2.lookup x = some y → b'.lookup x = some y) : SsTo c sc b ss fw b2 := fun t Q k => h t Q fun f s' FP' O' P g =>
  k f s' FP' O' ⟨P.env.weaken fun x y e => ⟨sub x y e, rfl⟩, P.stp, P.dom, P.own, fun x z e => P.src x z (sub x z e)⟩ g
theorem sub_pre {r : Loc} : ∀ x y, b.lookup x = some y → (b ++ r).lookup x = some y := fun x y e => by
  rw [lookup_append, e]; rfl
theorem ptOk_of {i : Nat} {w : V × Sta} (k : ptOk sc i b x = true) (eb : setA i b (x, w) = b') : ownName sc x = true ∧ setL b x w.1 w.2 = b' := by
  unfold ptOk at k
  rw [Bool.and_eq_true] at k
  exact ⟨k.2, by rw [setL_of k.1]; exact eb⟩
theorem StTo.put (i : Nat) (h1 : EvTo c ⟨sc, b⟩ e v true) (k : ptOk sc i b x = true) (hc : isComp e = false) (eb : setA i b (x, v, .own) = b') : StTo c sc b (.Assign [.Name x p] e pos) .next b' :=
  .set (st := .own) (ptOk_of k eb).1 h1 rfl hc (ptOk_of k eb).2
theorem StTo.putC (i : Nat) {g : Comprehension} {rr : List Comprehension} {elt : Expr} {scope : Scope} {bc : Loc} {l : List V} (k : ptOk sc i b x = true) (ck : compOk scope ⟨sc, b⟩ g rr = true) (e1 : EiTo c ⟨sc, b⟩ g.iter xs) (cap : capB scope b = bc) (e2 : CsTo c (relab scope sc) bc g rr elt xs l) (hz : l.length ≤ 1000000) (hf : flatVs l = true) (eb : setA i b (x, .lst l, .own) = b') :
    StTo c sc b (.Assign [.Name x p] (.ListComp elt (g :: rr) scope cpos) pos) .next b' := by
  subst cap
  exact .setC (st := .own) (ptOk_of k eb).1 ck e1 e2 hz hf (ptOk_of k eb).2
theorem EvTo.lc {pe : PE} {g : Comprehension} {rr : List Comprehension} {elt : Expr} {scope : Scope} {bc : Loc} {l : List V} (ck : compOk scope pe g rr = true) (e1 : EiTo c pe g.iter xs) (cap : capB scope pe.b = bc) (e2 : CsTo c (relab scope pe.sc) bc g rr elt xs l) (hz : l.length ≤ 1000000) (hf : fr = true → flatVs l = true) : EvTo c pe (.ListComp elt (g :: rr) scope p) (.lst l) fr := by
  subst cap
  exact .comp ck e1 e2 hz hf
theorem StTo.agm (i : Nat) {op : Operator} {o w : V} (h1 : EvTo c ⟨sc, b⟩ e v false) (hx : nthA i b = some (x, o, st1)) (k : ptOk sc i b x = true) (h2 : AgTo op o v w) (eb : setA i b (x, w, .own) = b') : StTo c sc b (.AugAssign (.Name x p) op e pos) .next b' := by
  obtain ⟨k1, k2⟩ := ptOk_of k eb
  have f : freA i b x = true := by
    unfold ptOk putA at k
    simp only [Bool.and_eq_true] at k
    exact k.1.1
  exact .aug k1 (nth_lookup hx f) h1 h2 k2
theorem RtTo.nm (i : Nat) (e : nthA i b = some (x, v, .own)) (k : nmOk i b x = true) : RtTo c sc b (.Name x p) v := .own (nmOk_of e k).1 (nmOk_of e k).2
noncomputable def plOk (i : Nat) (b : Loc) (x : PySem.Str) : Bool := nmOk i b x && noView b && isA i b x
theorem plOk_of {i : Nat} {w : V × Sta} {y : V} (k : plOk i b x = true) (e : nthA i b = some (x, w)) (eb : setA i b (x, y, .own) = b') : b.lookup x = some w ∧ notDbg x = true ∧ noView b = true ∧ setL b x y .own = b' := by
  unfold plOk at k
  simp only [Bool.and_eq_true] at k
  obtain ⟨⟨k1, k2⟩, k3⟩ := k
  obtain ⟨a1, a2⟩ := nmOk_of (st := w.2) (v := w.1) e k1
  refine ⟨a1, a2, k2, ?_⟩
  unfold nmOk at k1
  rw [Bool.and_eq_true] at k1
  rw [setL_of (by rw [putA, k1.1, k3]; rfl)]
  exact eb
theorem PlTo.nm (i : Nat) (e : nthA i b = some (x, y, .own)) (k : plOk i b x = true) (eb : setA i b (x, y', .own) = b') : PlTo c sc b (.Name x p) y y' b' :=
  .name (plOk_of k e eb).1 (plOk_of k e eb).2.1 (plOk_of k e eb).2.2.1 (plOk_of k e eb).2.2.2
theorem PlTo.fl (i j : Nat) {C : Addr} {fs : List (PySem.Str × V)} {a : PySem.Str} (e : nthA i b = some (x, .inst C fs, .own)) (k : plOk i b x = true) (hfl : c.Γ.fld C a = true) (e2 : nthA j fs = some (a, y)) (k2 : (putA j fs a && (notVal y).isSome) = true) (eb : setA i b (x, .inst C (setA j fs (a, y')), .own) = b') : PlTo c sc b (.Attribute (.Name x p) a p') y y' b' := by
  rw [Bool.and_eq_true] at k2
  have f : freA j fs a = true := by
    have := k2.1
    unfold putA at this
    rw [Bool.and_eq_true] at this
    exact this.1
  refine .fld (plOk_of k e eb).1 (plOk_of k e eb).2.1 hfl (nth_lookup e2 f) k2.2 (plOk_of k e eb).2.2.1 ?_
  rw [setF_of k2.1]
  exact (plOk_of k e eb).2.2.2
theorem FsTo.fz (i : Nat) (hv : nthA i b = some (x, v, .frz)) (k : nmOk i b x = true) (it : ItTo c.q v xs) : FsTo c sc b (.Name x p) xs b := .frz (nmOk_of hv k).1 (nmOk_of hv k).2 it
theorem BdTo.nm {kq : Bool} (i : Nat) (st : Sta) (hst : stv v st = true) (k : putA i b x = true) (eb : setA i b (x, v, st) = b') : BdTo kq (.Name x p) v b b' := .name hst (by rw [setL_of k]; exact eb)
theorem BdTo.pr {kq : Bool} (hq : kq = true) (i j : Nat) (st1 st2 : Sta) {x y : PySem.Str} {v1 v2 : V} {n : Nat} (h1 : stv v1 st1 = true) (h2 : stv v2 st2 = true) (k1 : putA i b x = true) (e1 : setA i b (x, v1, st1) = b1) (k2 : putA j b1 y = true) (e2 : setA j b1 (y, v2, st2) = b') : BdTo kq (.Tuple [.Name x p, .Name y q] n p') (.tup [v1, v2]) b b' :=
  .pair hq (b1 := b1) h1 h2 (by rw [setL_of k1]; exact e1) (by rw [setL_of k2]; exact e2)
theorem StTo.put2 (hq : c.q = true) (i j : Nat) {x y : PySem.Str} {v1 v2 : V} {es : List Expr} {n n2 : Nat} {p1 p2 tp ep : Pos} (h1 : EvTo c ⟨sc, b⟩ (.Tuple es n2 ep) (.tup [v1, v2]) false) (k1 : ptOk sc i b x = true) (e1 : setA i b (x, v1, .own) = b1) (k2 : ptOk sc j b1 y = true) (e2 : setA j b1 (y, v2, .own) = b') (hk : (!(x == y) && !es.all (constantsAlone 8) && flatV v1 && flatV v2) = true) : StTo c sc b (.Assign [.Tuple [.Name x p1, .Name y p2] n tp] (.Tuple es n2 ep) pos) .next b' := by
  simp only [Bool.and_eq_true, Bool.not_eq_true'] at hk
  obtain ⟨⟨⟨q1, q2⟩, q3⟩, q4⟩ := hk
  refine .bind2 hq (ptOk_of k1 e1).1 (ptOk_of k2 e2).1 q1 q2 h1 q3 q4 ?_
  rw [(ptOk_of k1 e1).2]
  exact (ptOk_of k2 e2).2
theorem StTo.put3 (i j k : Nat) {x y z : PySem.Str} {p1 p2 p3 : Pos} (h1 : EvTo c ⟨sc, b⟩ e v false) (k1 : ptOk sc i b x = true) (e1 : setA i b (x, v, .own) = b1) (k2 : ptOk sc j b1 y = true) (e2 : setA j b1 (y, v, .own) = b2) (k3 : ptOk sc k b2 z = true) (e3 : setA k b2 (z, v, .own) = b') (hf : flatV v = true) : StTo c sc b (.Assign [.Name x p1, .Name y p2, .Name z p3] e pos) .next b' := by
  refine .names ?_ h1 hf ?_
  · show (ownName sc x && (ownName sc y && (ownName sc z && true))) = true
    rw [(ptOk_of k1 e1).1, (ptOk_of k2 e2).1, (ptOk_of k3 e3).1]; rfl
  · show setL (setL (setL b x v .own) y v .own) z v .own = b'
    rw [(ptOk_of k1 e1).2, (ptOk_of k2 e2).2, (ptOk_of k3 e3).2]
theorem StTo.at (i j : Nat) {C : Addr} {fs : List (PySem.Str × V)} {a : PySem.Str} (h1 : EvTo c ⟨sc, b⟩ e v true) (hv : nthA i b = some (x, .inst C fs, .own)) (k : plOk i b x = true) (hf : c.Γ.fld C a = true) (k2 : (putA j fs a && decide (fs.length ≤ 900)) = true) (hc : isComp e = false) (eb : setA i b (x, .inst C (setA j fs (a, v)), .own) = b') : StTo c sc b (.Assign [.Attribute (.Name x p) a p'] e pos) .next b' := by
  rw [Bool.and_eq_true] at k2
  obtain ⟨a1, a2, a3, a4⟩ := plOk_of k hv eb
  exact .attr h1 hc a1 a2 a3 hf k2.2 (by rw [setF_of k2.1]; exact a4)
end
section
variable {step : Loc → V → Fl → Loc → Prop} {σ ι : Type} {f : ι → V} {mk : σ → Loc}
noncomputable def foldO {σ ι : Type} (g : σ → ι → Option σ) : List ι → σ → Option σ
  | [], s => some s
  | i :: r, s => (g s i).bind (foldO g r)
noncomputable def foldB {σ ι : Type} (g : σ → ι → Option σ) : List ι → σ → σ
  | [], s => s
  | i :: r, s => match g s i with
    | some s' => foldB g r s'
    | none => s
noncomputable def foldR {σ ι : Type} (g : σ → ι → σ × Option V) : List ι → σ → σ × Option V
  | [], s => (s, none)
  | i :: r, s => match (g s i).2 with
    | none => foldR g r (g s i).1
    | some v => ((g s i).1, some v)
theorem foldB_c {σ ι : Type} (g : σ → ι → Option σ) (i : ι) (r : List ι) (s : σ) : foldB g (i :: r) s = (g s i).elim s (foldB g r) := by
  show (match g s i with | some s' => foldB g r s' | none => s) = _
  cases g s i <;> rfl
theorem foldR_c {σ ι : Type} (g : σ → ι → σ × Option V) (i : ι) (r : List ι) (s : σ) : foldR g (i :: r) s = (g s i).2.elim (foldR g r (g s i).1) fun v => ((g s i).1, some v) := by
  show (match (g s i).2 with | none => foldR g r (g s i).1 | some v => ((g s i).1, some v)) = _
  cases (g s i).2 <;> rfl
noncomputable def flOf : Option V → Fl
  | none => .next
  | some v => .ret v
theorem LpTo.fO {g : σ → ι → Option σ} {I : σ → List ι → Prop} (hs : ∀ s i r s', I s (i :: r) → g s i = some s' → step (mk s) (f i) .next (mk s') ∧ I s' r) : ∀ (is : List ι) (s s' : σ), I s is → foldO g is s = some s' → LpTo step (is.map f) (mk s) .next (mk s') ∧ I s' []
  | [], s, s', h, e => by cases e; exact ⟨.nil _, h⟩
  | i :: r, s, s', h, e => by
    obtain ⟨s1, e1, e2⟩ := Option.bind_eq_some_iff.mp e
    obtain ⟨a, h'⟩ := hs s i r s1 h e1
    obtain ⟨a', h''⟩ := LpTo.fO hs r s1 s' h' e2
    exact ⟨.next _ _ _ _ _ _ a a', h''⟩
theorem LpTo.fL {g : σ → ι → σ} {I : σ → List ι → Prop} (hs : ∀ s i r, I s (i :: r) → step (mk s) (f i) .next (mk (g s i)) ∧ I (g s i) r) : ∀ (is : List ι) (s : σ), I s is → LpTo step (is.map f) (mk s) .next (mk (is.foldl g s)) ∧ I (is.foldl g s) []
  | [], s, h => ⟨.nil _, h⟩
  | i :: r, s, h => by
    obtain ⟨a, h'⟩ := hs s i r h
    obtain ⟨a', h''⟩ := LpTo.fL hs r _ h'
    exact ⟨.next _ _ _ _ _ _ a a', h''⟩
theorem LpTo.fB {g : σ → ι → Option σ} {I : σ → List ι → Prop} (hs : ∀ s i r, I s (i :: r) → (∀ s', g s i = some s' → step (mk s) (f i) .next (mk s') ∧ I s' r) ∧ (g s i = none → step (mk s) (f i) .brk (mk s))) : ∀ (is : List ι) (s : σ), I s is → LpTo step (is.map f) (mk s) .next (mk (foldB g is s))
  | [], s, h => .nil _
  | i :: r, s, h => by
    obtain ⟨a, a'⟩ := hs s i r h
    rw [foldB_c]
    cases q : g s i with
    | none => exact .brk _ _ _ _ (a' q)
    | some s' => exact .next _ _ _ _ _ _ (a s' q).1 (LpTo.fB hs r s' (a s' q).2)
theorem LpTo.fR {g : σ → ι → σ × Option V} {I : σ → List ι → Prop} (hs : ∀ s i r, I s (i :: r) → step (mk s) (f i) (flOf (g s i).2) (mk (g s i).1) ∧ ((g s i).2 = none → I (g s i).1 r)) : ∀ (is : List ι) (s : σ), I s is → LpTo step (is.map f) (mk s) (flOf (foldR g is s).2) (mk (foldR g is s).1)
  | [], s, h => .nil _
  | i :: r, s, h => by
    obtain ⟨a, a'⟩ := hs s i r h
    rw [foldR_c]
    cases q : (g s i).2 with
    | none =>
      rw [q] at a
      exact .next _ _ _ _ _ _ a (LpTo.fR hs r _ (a' q))
    | some v =>
      rw [q] at a
      exact .ret _ _ _ _ _ a
end
section
variable {c : Cx} {sc : Scope} {b : Loc} {g : Comprehension} {rr : List Comprehension} {elt : Expr} {ι : Type} {f h : ι → V}
theorem CsTo.fM {k : ι → List V} : ∀ (is : List ι), (∀ i ∈ is, CiTo c sc b g rr elt (f i) (k i)) → CsTo c sc b g rr elt (is.map f) (is.flatMap k)
  | [], _ => .nil
  | i :: r, e => by
    rw [List.map_cons, List.flatMap_cons]
    exact .cons (e i (.head _)) (CsTo.fM r fun j m => e j (.tail _ m))
theorem CsTo.mp : ∀ (is : List ι), (∀ i ∈ is, CiTo c sc b g rr elt (f i) [h i]) → CsTo c sc b g rr elt (is.map f) (is.map h)
  | [], _ => .nil
  | i :: r, e => .cons (e i (.head _)) (CsTo.mp r fun j m => e j (.tail _ m))
theorem CsTo.ft {p : ι → Bool} : ∀ (is : List ι), (∀ i ∈ is, CiTo c sc b g rr elt (f i) (if p i then [h i] else [])) → CsTo c sc b g rr elt (is.map f) ((is.filter p).map h)
  | [], _ => .nil
  | i :: r, e => by
    have a := e i (.head _)
    have a' := CsTo.ft r fun j m => e j (.tail _ m)
    rw [List.map_cons, List.filter_cons]
    cases q : p i
    · rw [q] at a
      exact .cons a a'
    · rw [q] at a
      exact .cons a a'
theorem CiTo.el {v y : V} {b' : Loc} (hg : g.ifs = []) (hr : rr = []) (hb : BdTo c.q g.target v b b') (he : EvTo c ⟨sc, b'⟩ elt y false) : CiTo c sc b g rr elt v [y] := ⟨b', true, hb, hg ▸ .nil, .yes y hr he⟩
theorem CiTo.in {v y : V} {b' : Loc} {t : Expr} (hg : g.ifs = [t]) (hr : rr = []) (hb : BdTo c.q g.target v b b') (ht : EtTo c ⟨sc, b'⟩ t true) (he : EvTo c ⟨sc, b'⟩ elt y false) : CiTo c sc b g rr elt v [y] := ⟨b', true, hb, hg ▸ .yes ht .nil, .yes y hr he⟩
theorem CiTo.out {v : V} {b' : Loc} {t : Expr} (hg : g.ifs = [t]) (hb : BdTo c.q g.target v b b') (ht : EtTo c ⟨sc, b'⟩ t false) : CiTo c sc b g rr elt v [] := ⟨b', false, hb, hg ▸ .no ht, .no⟩
end

noncomputable def capI : List Nat → Loc → Loc
  | [], _ => []
  | i :: r, b => match nthA i b with
    | some (x, v, _) => (x, v, .view) :: capI r b
    | none => capI r b
theorem cap_of {sc : Scope} {b bc : Loc} (is : List Nat) (h : capB sc b = capI is b) (e : capI is b = bc) : capB sc b = bc := h.trans e
noncomputable def nthS : Nat → List Stmt → Stmt
  | _, [] => .Pass ⟨0, 0, 0, 0⟩
  | 0, s :: _ => s
  | i + 1, _ :: r => nthS i r
noncomputable def clsB : Stmt → List Stmt
  | .ClassDef (body := b) .. => b
  | _ => []
structure OfTab (c : Cx) (T : Tab) : Prop where
  glob : c.Γ.glob = T.glo.glob
  fld : c.Γ.fld = T.glo.fld
  catt : c.Γ.catt = T.glo.catt
  al : c.Γ.al = T.glo.al
  meth : c.Γ.meth = T.glo.meth
section
variable {c : Cx} {T : Tab}
theorem OfTab.gl (O : OfTab c T) {x : PySem.Str} {v : PySem.Value} (h : T.glob.lookup x = some v) : c.Γ.glob x = some v := by rw [O.glob]; exact h
theorem OfTab.fl (O : OfTab c T) {C : Addr} {a : PySem.Str} (h : T.fld.contains (C, a) = true) : c.Γ.fld C a = true := by rw [O.fld]; exact h
theorem OfTab.ca (O : OfTab c T) {v : PySem.Value} {a : PySem.Str} {r : V} (h : T.glo.catt v a = some r) : c.Γ.catt v a = some r := by rw [O.catt]; exact h
theorem OfTab.aln (O : OfTab c T) {v : PySem.Value} {b : Bool} (h : T.glo.al v = b) : c.Γ.al v = b := by rw [O.al]; exact h
theorem OfTab.mt (O : OfTab c T) {v : V} {a : PySem.Str} {f : PySem.Value} (h : T.glo.meth v a = some f) : c.Γ.meth v a = some f := by rw [O.meth]; exact h
theorem OfTab.ma (O : OfTab c T) {C : Addr} {fs : List (PySem.Str × V)} {a : PySem.Str} {f : Addr} (hn : fs.lookup a = none) (h : T.meth.lookup (C, a) = some f) : c.Γ.meth (.inst C fs) a = some (.ref f) := O.mt (by
  show (if (fs.lookup a).isNone then _ else _) = _
  rw [hn, h]; rfl)
theorem OfTab.pin (O : OfTab c T) {l : List Addr} : OfTab (c.pin l) T := ⟨O.glob, O.fld, O.catt, O.al, O.meth⟩
end
section
variable {c : Cx} {sc : Scope} {b b' : Loc} {e : Expr} {v : V} {p : Pos} {ss : List Stmt}
theorem SsTo.rt (h : RtTo c sc b e v) : SsTo c sc b (.Return (some e) p :: ss) (.ret v) [] := .forget (.stop (.ret h) rfl) (by first | exact nn | nofun)
theorem SsTo.dn {r : Loc} (e : b = b' ++ r) : SsTo c sc b [] .next b' := .forget .nil (e ▸ sub_pre)
theorem SsTo.bk {r : Loc} (e : b = b' ++ r) : SsTo c sc b (.Break p :: ss) .brk b' := .forget (.stop .brk rfl) (e ▸ sub_pre)
theorem SsTo.rtL {r : Loc} (e' : b = b' ++ r) (h : RtTo c sc b e v) : SsTo c sc b (.Return (some e) p :: ss) (.ret v) b' := .forget (.stop (.ret h) rfl) (e' ▸ sub_pre)
theorem rets (h : SsTo c sc b ss (.ret v) []) : ∃ fl b', SsTo c sc b ss fl b' ∧ retV fl = some v := ⟨_, _, h, rfl⟩
end
section
variable {c : Cx} {sc : Scope} {tg : Expr} {body : List Stmt}
noncomputable def foldG {σ ι : Type} (g : σ → ι → σ × List V) : List ι → σ → σ × List V
  | [], s => (s, [])
  | i :: r, s => ((foldG g r (g s i).1).1, (g s i).2 ++ (foldG g r (g s i).1).2)
theorem LgTo.fG {σ ι : Type} {f : ι → V} {mk : σ → Loc} {g : σ → ι → σ × List V} (hfl : ∀ s, flatB (mk s) = true) : ∀ (is : List ι) (s : σ), (∀ s, ∀ i ∈ is, ∃ bt r, BdTo c.q tg (f i) (mk s) bt ∧ flatB bt = true ∧ GsTo c sc bt body (g s i).2 (mk (g s i).1 ++ r)) → LgTo c sc tg body (is.map f) (mk s) (foldG g is s).2 (mk (foldG g is s).1)
  | [], s, h => .nil _
  | i :: r, s, h => by
    obtain ⟨bt, b1, h1, h2, h3⟩ := h s i (.head _)
    exact .cons h1 h2 h3 sub_pre (hfl _) (LgTo.fG hfl r _ fun s j m => h s j (.tail _ m))
theorem setL_at (i : Nat) {b b' : Loc} {x : PySem.Str} {v : V} {st : Sta} (k : putA i b x = true) (e : setA i b (x, v, st) = b') : setL b x v st = b' := (setL_of k).trans e
end
theorem sub_mid {b1 b2 : Loc} {k : PySem.Str} {v : V × Sta} (hk : b2.lookup k = none) : ∀ x y, (b1 ++ b2).lookup x = some y → (b1 ++ (k, v) :: b2).lookup x = some y := fun x y e => by
  rw [lookup_append] at e ⊢
  cases h : b1.lookup x with
  | some u => rw [h] at e; exact e
  | none =>
    rw [h] at e
    have e : b2.lookup x = some y := e
    show ((k, v) :: b2).lookup x = some y
    rw [List.lookup_cons]
    cases q : x == k with
    | true => rw [beq_iff_eq.mp q, hk] at e; cases e
    | false => exact e

section
variable {α : Type} {v : V} {r : α} {a : List V} {k : List (PySem.Str × V)}
noncomputable def onI : V → (Addr → List (PySem.Str × V) → Option α) → Option α
  | .inst C fs, f => f C fs
  | _, _ => none
noncomputable def onS : V → (PySem.Str → Option α) → Option α
  | .str x, f => f x
  | _, _ => none
noncomputable def onN : V → (Int → Option α) → Option α
  | .int i, f => f i
  | _, _ => none
noncomputable def onB : V → (Bool → Option α) → Option α
  | .bool i, f => f i
  | _, _ => none
noncomputable def onL : V → (List V → Option α) → Option α
  | .lst l, f => f l
  | _, _ => none
noncomputable def onT : V → (List V → Option α) → Option α
  | .tup l, f => f l
  | _, _ => none
noncomputable def on0 : List (PySem.Str × V) → Option α → Option α
  | [], o => o
  | _, _ => none
noncomputable def on1 : List V → (V → Option α) → Option α
  | [v], f => f v
  | _, _ => none
noncomputable def on2 : List V → (V → V → Option α) → Option α
  | [v, w], f => f v w
  | _, _ => none
noncomputable def onK : List (PySem.Str × V) → (PySem.Str → V → Option α) → Option α
  | [(k, v)], f => f k v
  | _, _ => none
theorem onK_some {f : PySem.Str → V → Option α} (h : onK k f = some r) : ∃ x v, k = [(x, v)] ∧ f x v = some r := by
  rcases k with _ | ⟨p, _ | ⟨w, l⟩⟩
  · exact ns h
  · exact ⟨p.1, p.2, rfl, h⟩
  · exact ns h
theorem onI_some {f : Addr → List (PySem.Str × V) → Option α} (h : onI v f = some r) : ∃ C fs, v = .inst C fs ∧ f C fs = some r := by
  cases v <;> first | exact ns h | exact ⟨_, _, rfl, h⟩
theorem onS_some {f : PySem.Str → Option α} (h : onS v f = some r) : ∃ x, v = .str x ∧ f x = some r := by
  cases v <;> first | exact ns h | exact ⟨_, rfl, h⟩
theorem onN_some {f : Int → Option α} (h : onN v f = some r) : ∃ x, v = .int x ∧ f x = some r := by
  cases v <;> first | exact ns h | exact ⟨_, rfl, h⟩
theorem onB_some {f : Bool → Option α} (h : onB v f = some r) : ∃ x, v = .bool x ∧ f x = some r := by
  cases v <;> first | exact ns h | exact ⟨_, rfl, h⟩
theorem onL_some {f : List V → Option α} (h : onL v f = some r) : ∃ x, v = .lst x ∧ f x = some r := by
  cases v <;> first | exact ns h | exact ⟨_, rfl, h⟩
theorem onT_some {f : List V → Option α} (h : onT v f = some r) : ∃ x, v = .tup x ∧ f x = some r := by
  cases v <;> first | exact ns h | exact ⟨_, rfl, h⟩
theorem on0_some {o : Option α} (h : on0 k o = some r) : k = [] ∧ o = some r := by
  cases k with
  | nil => exact ⟨rfl, h⟩
  | cons _ _ => exact ns h
theorem on1_some {f : V → Option α} (h : on1 a f = some r) : ∃ v, a = [v] ∧ f v = some r := by
  rcases a with _ | ⟨v, _ | ⟨w, l⟩⟩
  · exact ns h
  · exact ⟨v, rfl, h⟩
  · exact ns h
theorem on2_some {f : V → V → Option α} (h : on2 a f = some r) : ∃ v w, a = [v, w] ∧ f v w = some r := by
  rcases a with _ | ⟨v, _ | ⟨w, _ | ⟨u, l⟩⟩⟩
  · exact ns h
  · exact ns h
  · exact ⟨v, w, rfl, h⟩
  · exact ns h
end
section
variable {α β : Type} {P : List α → List β → Prop}
theorem len10 (h : ∀ a, P [a] []) (us : List α) (ks : List β) (e : us.length = 1) (e' : ks.length = 0) : P us ks := by
  obtain ⟨a, rfl⟩ := List.length_eq_one_iff.mp e
  cases List.length_eq_zero_iff.mp e'
  exact h a
theorem len20 (h : ∀ a b, P [a, b] []) (us : List α) (ks : List β) (e : us.length = 2) (e' : ks.length = 0) : P us ks := by
  cases List.length_eq_zero_iff.mp e'
  cases us with
  | nil => cases e
  | cons a us =>
    obtain ⟨b, rfl⟩ := List.length_eq_one_iff.mp (Nat.succ.inj e)
    exact h a b
theorem len2_ex {us : List α} (e : us.length = 2) : ∃ a b, us = [a, b] := len20 (β := Nat) (P := fun us _ => ∃ a b, us = [a, b]) (fun a b => ⟨a, b, rfl⟩) us [] e rfl
theorem len21 (h : ∀ a b u, P [a, b] [u]) (us : List α) (ks : List β) (e : us.length = 2) (e' : ks.length = 1) : P us ks := by
  obtain ⟨u, rfl⟩ := List.length_eq_one_iff.mp e'
  exact len20 (P := fun us (_ : List β) => P us [u]) (fun a b => h a b u) us [] e rfl
end
noncomputable abbrev aWS : Addr := 269
noncomputable abbrev aHD : Addr := 182
theorem fits_of {i : Int} (h1 : -1000000000 ≤ i) (h2 : i ≤ 1000000000) : fits i = true := fits_iff.mpr ⟨by omega, by omega⟩
theorem fits_nat {n : Nat} (h : n ≤ 1000000000) : fits (n : Int) = true := fits_of (by omega) (Int.ofNat_le.mpr h)
theorem clip_nat (n k : Nat) (h : k ≤ n) : clipAt n (k : Int) = k := by unfold clipAt; rw [if_neg (by omega)]; omega
theorem le_mil {n m : Nat} (h : n ≤ m) (k : m ≤ 1000000 := by decide) : n ≤ 1000000 := Nat.le_trans h k
theorem seqIndex_at {j : Int} {n : Nat} (h0 : 0 ≤ j) (h1 : j < n) : seqIndex? j n = some j.toNat := by
  unfold seqIndex?
  simp [show ¬ j < 0 by omega, h0, h1]
theorem flatVs_int : ∀ l : List Int, flatVs (l.map .int) = true
  | [] => rfl
  | i :: r => flatVs_int r
theorem str_one (c d : Nat) : ((⟨#[c]⟩ : PySem.Str) == ⟨#[d]⟩) = (c == d) := by
  cases q : c == d with
  | true => rw [beq_iff_eq.mp q]; exact beq_self_eq_true _
  | false =>
    rw [beq_eq_false_iff_ne] at q ⊢
    intro h
    injection h with h
    have := congrArg Array.toList h
    simp at this
    exact q this
theorem rep_ints (k : Nat) (z : Int) : (List.replicate k [V.int z]).flatten = (List.replicate k z).map V.int := by
  induction k with
  | zero => rfl
  | succ k ih => rw [List.replicate_succ, List.replicate_succ, List.flatten_cons, ih]; rfl
noncomputable def intsV : List V → Option (List Int)
  | [] => some []
  | .int i :: r => (intsV r).map (i :: ·)
  | _ => none
noncomputable def strsV : List V → Option (List PySem.Str)
  | [] => some []
  | .str i :: r => (strsV r).map (i :: ·)
  | _ => none
theorem intsV_of : ∀ {l : List V} {is : List Int}, intsV l = some is → l = is.map V.int
  | [], is, e => by cases (show some [] = some is from e); rfl
  | v :: r, is, e => by
    cases v <;> first | exact nomatch (show (none : Option (List Int)) = some is from e) | skip
    obtain ⟨js, e1, rfl⟩ := Option.map_eq_some_iff.mp (show (intsV r).map (_ :: ·) = some is from e)
    rw [intsV_of e1]; rfl
theorem strsV_of : ∀ {l : List V} {is : List PySem.Str}, strsV l = some is → l = is.map V.str
  | [], is, e => by simp only [strsV, Option.some.injEq] at e; subst e; rfl
  | v :: r, is, e => by
    cases v <;> first | (simp [strsV] at e; done) | skip
    simp only [strsV] at e
    obtain ⟨js, e1, rfl⟩ := Option.map_eq_some_iff.mp e
    rw [strsV_of e1]; rfl
theorem intsV_map : ∀ is : List Int, intsV (is.map V.int) = some is
  | [] => rfl
  | i :: r => by show (intsV (r.map V.int)).map (i :: ·) = _; rw [intsV_map r]; rfl
theorem strsV_map : ∀ is : List PySem.Str, strsV (is.map V.str) = some is
  | [] => rfl
  | i :: r => by simp [strsV, strsV_map r]
noncomputable def normI (fs : List (PySem.Str × V)) : Option (List Int × Int) := (fs.lookup (PySem.Str.ofString "norm")).bind fun v => onT v fun l => on2 l fun a b => onT a fun cs => onN b fun i => (intsV cs).map fun is => (is, i)
theorem normI_ok {fs : List (PySem.Str × V)} {cs : List Int} {b : Int} (h : normI fs = some (cs, b)) : fs.lookup (PySem.Str.ofString "norm") = some (.tup [.tup (cs.map .int), .int b]) := by
  obtain ⟨v, e, h⟩ := Option.bind_eq_some_iff.mp h
  obtain ⟨l, e1, h⟩ := onT_some h
  obtain ⟨x, y, e2, h⟩ := on2_some h
  obtain ⟨c, e3, h⟩ := onT_some h
  obtain ⟨n, e4, h⟩ := onN_some h
  obtain ⟨is, e5, e6⟩ := Option.map_eq_some_iff.mp h
  cases e6
  rw [e, e1, e2, e3, e4, intsV_of e5]
noncomputable def intI (fs : List (PySem.Str × V)) (x : PySem.Str) : Option Int := match fs.lookup x with
  | some (.int i) => some i
  | _ => none
theorem intI_ok {fs : List (PySem.Str × V)} {x : PySem.Str} {i : Int} (h : intI fs x = some i) : fs.lookup x = some (.int i) := by
  unfold intI at h
  split at h
  · rename_i e; cases h; exact e
  · cases h
noncomputable def ilOf (cs : List Int) (ts : Int) : Int := (List.range ((cs.length : Int) - ts).toNat).foldl (fun (il : Int) (i : Nat) => il + (ts + (i : Int)).fdiv ts * cs.getD (ts + (i : Int)).toNat 0) 0
noncomputable def okL (cs : List Int) (ts nt : Int) : Bool := decide (1 ≤ ts) && decide (ts ≤ 1000000) && decide (cs.length ≤ 1000000) && cs.all fits && fits (ilOf cs ts + nt)
noncomputable def F69 : List V → List (PySem.Str × V) → Option V := fun a k => on2 a fun v w => on0 k (onI v fun C fs => onN w fun ts => if C = aWS then (normI fs).bind fun q => (intI fs (PySem.Str.ofString "nt")).bind fun nt => if okL q.1 ts nt then some (.int (q.2 + ts * (ilOf q.1 ts + nt))) else none else none)
theorem foldB_inv {σ ι : Type} {g : σ → ι → Option σ} {I : σ → List ι → Prop} (h : ∀ s i r s', I s (i :: r) → g s i = some s' → I s' r) : ∀ (is : List ι) (s : σ), I s is → ∃ r, I (foldB g is s) r
  | [], s, hi => ⟨[], hi⟩
  | i :: r, s, hi => by
    rw [foldB_c]
    cases q : g s i with
    | none => exact ⟨_, hi⟩
    | some s' => exact foldB_inv h r s' (h s i r s' hi q)
structure WS where
  count : List Int
  b : Int
  n : Int
  nt : Int
noncomputable def bump (count : List Int) (b : Int) : List Int :=
  let c := if (count.length : Int) ≤ b then count ++ List.replicate (b - count.length + 1).toNat 0 else count
  c.set b.toNat (c.getD b.toNat 0 + 1)
noncomputable def wsStep (s : WS) (c : Nat) : Option WS :=
  if c = 32 then some ⟨s.count, s.b + 1, s.n + 1, s.nt⟩
  else if c = 9 then some ⟨bump s.count s.b, 0, s.n + 1, s.nt + 1⟩
  else none
theorem wsStep_inv {s s' : WS} {c : Nat} {r : List Nat} (h : 0 ≤ s.b ∧ s.b + ((c :: r).length : Int) ≤ 400 ∧ s.count.length ≤ 401 ∧ 0 ≤ s.nt ∧ s.nt + ((c :: r).length : Int) ≤ 400) (e : wsStep s c = some s') : 0 ≤ s'.b ∧ s'.b + (r.length : Int) ≤ 400 ∧ s'.count.length ≤ 401 ∧ 0 ≤ s'.nt ∧ s'.nt + (r.length : Int) ≤ 400 := by
  obtain ⟨i1, i2, i3, i4, i5⟩ := h
  rw [List.length_cons] at i2 i5
  push_cast at i2 i5
  unfold wsStep at e
  split at e
  · cases e
    exact ⟨by dsimp only; omega, by dsimp only; omega, i3, i4, by dsimp only; omega⟩
  split at e
  · cases e
    refine ⟨by dsimp only; omega, by dsimp only; omega, ?_, by dsimp only; omega, by dsimp only; omega⟩
    unfold bump
    dsimp only
    split
    · rw [List.length_set, List.length_append, List.length_replicate]; omega
    · rw [List.length_set]; exact i3
  · cases e
noncomputable def wsRun (x : PySem.Str) : WS := foldB wsStep x.cps.toList ⟨[], 0, 0, 0⟩
theorem wsRun_inv {x : PySem.Str} (h : x.cps.size ≤ 400) : 0 ≤ (wsRun x).b ∧ (wsRun x).b ≤ 400 ∧ (wsRun x).count.length ≤ 401 ∧ 0 ≤ (wsRun x).nt ∧ (wsRun x).nt ≤ 400 := by
  obtain ⟨r, i1, i2, i3, i4, i5⟩ := foldB_inv (I := fun (s : WS) (r : List Nat) => 0 ≤ s.b ∧ s.b + (r.length : Int) ≤ 400 ∧ s.count.length ≤ 401 ∧ 0 ≤ s.nt ∧ s.nt + (r.length : Int) ≤ 400) (fun s i r s' h e => wsStep_inv h e) x.cps.toList ⟨[], 0, 0, 0⟩ ⟨by decide, by simp; omega, by decide, by decide, by simp; omega⟩
  exact ⟨i1, by unfold wsRun; omega, i3, i4, by unfold wsRun; omega⟩
noncomputable def wsV (raw : PySem.Str) (s : WS) : V := .inst aWS [(PySem.Str.ofString "raw", .str raw), (PySem.Str.ofString "n", .int s.n), (PySem.Str.ofString "nt", .int s.nt), (PySem.Str.ofString "norm", .tup [.tup (s.count.map .int), .int s.b]), (PySem.Str.ofString "is_simple", .bool (decide ((s.count.length : Int) ≤ 1)))]
noncomputable def F100 : List V → List (PySem.Str × V) → Option V := fun a k => on1 a fun v => on0 k (onS v fun x => if x.cps.size ≤ 400 ∧ x.cps.all (· < 1114112) = true then some (wsV x (wsRun x)) else none)
theorem chr_ok {c : Nat} (h : c < 1114112) : PyData.strOk ⟨#[c]⟩ = true := by
  unfold PyData.strOk
  simp [h]
theorem sp_str : PySem.Str.ofString " " = ⟨#[32]⟩ := by decide +kernel
theorem tb_str : PySem.Str.ofString "\t" = ⟨#[9]⟩ := by decide +kernel
noncomputable def hdrs (hs : List (PySem.Str × PySem.Str)) : List V := hs.map fun p => .tup [.str p.1, .str p.2]
noncomputable def pairS (v : V) : Option (PySem.Str × PySem.Str) := onT v fun l => on2 l fun a b => onS a fun x => onS b fun y => some (x, y)
theorem pairS_ok {v : V} {p : PySem.Str × PySem.Str} (h : pairS v = some p) : v = .tup [.str p.1, .str p.2] := by
  obtain ⟨l, e1, h⟩ := onT_some h
  obtain ⟨x, y, e2, h⟩ := on2_some h
  obtain ⟨c, e3, h⟩ := onS_some h
  obtain ⟨n, e4, h⟩ := onS_some h
  cases h
  rw [e1, e2, e3, e4]
noncomputable def hdrsOf : List V → Option (List (PySem.Str × PySem.Str))
  | [] => some []
  | v :: r => (pairS v).bind fun p => (hdrsOf r).map (p :: ·)
theorem hdrsOf_ok : ∀ {l : List V} {hs : List (PySem.Str × PySem.Str)}, hdrsOf l = some hs → l = hdrs hs := by
  intro l
  induction l with
  | nil => intro hs e; cases e; rfl
  | cons v r ih =>
    intro hs e
    obtain ⟨p, e1, e⟩ := Option.bind_eq_some_iff.mp e
    obtain ⟨js, e2, rfl⟩ := Option.map_eq_some_iff.mp e
    rw [pairS_ok e1, ih e2]; rfl
theorem hdrsOf_hdrs (hs : List (PySem.Str × PySem.Str)) : hdrsOf (hdrs hs) = some hs := by
  induction hs with
  | nil => rfl
  | cons p r ih =>
    show (hdrsOf (hdrs r)).map _ = _
    rw [ih]; rfl
noncomputable def hdV (hs : List (PySem.Str × PySem.Str)) : V := .inst aHD [(PySem.Str.ofString "_headers", .lst (hdrs hs))]
noncomputable def hdOf (v : V) : Option (List (PySem.Str × PySem.Str)) := onI v fun C fs => onK fs fun k u => onL u fun l => if C = aHD ∧ k = PySem.Str.ofString "_headers" then hdrsOf l else none
theorem hdOf_ok {v : V} {hs : List (PySem.Str × PySem.Str)} (h : hdOf v = some hs) : v = hdV hs := by
  obtain ⟨C, fs, e1, h⟩ := onI_some h
  obtain ⟨k, u, e2, h⟩ := onK_some h
  obtain ⟨l, e3, h⟩ := onL_some h
  have h : (if C = aHD ∧ k = PySem.Str.ofString "_headers" then hdrsOf l else none) = some hs := h
  obtain ⟨⟨e4, e5⟩, h⟩ := ite_some h
  rw [e1, e2, e3, e4, e5, hdrsOf_ok h]; rfl
theorem hdOf_hdV (hs : List (PySem.Str × PySem.Str)) : hdOf (hdV hs) = some hs := by
  show (if aHD = aHD ∧ PySem.Str.ofString "_headers" = PySem.Str.ofString "_headers" then hdrsOf (hdrs hs) else none) = _
  rw [if_pos ⟨rfl, rfl⟩]; exact hdrsOf_hdrs hs
noncomputable def words : List PySem.Str := ((List.range 8).map fun n => ⟨(List.replicate (n + 1) 97).toArray⟩) ++ ((List.range 7).map fun n => ⟨(List.replicate (n + 2) 65).toArray⟩) ++ [⟨#[104]⟩, ⟨#[40]⟩, ⟨#[41]⟩, ⟨#[92, 41, 40]⟩, ⟨#[34, 40, 34, 40]⟩, ⟨#[92, 92, 40]⟩]
noncomputable def prt (x : PySem.Str) : Bool := decide (x ∈ words)
noncomputable def F170 : List V → List (PySem.Str × V) → Option V := fun a kw => on2 a fun _ w => onS w fun x => onK kw fun k u => onB u fun _ => if k = PySem.Str.ofString "name" ∧ prt x = true then some (.str x) else none
theorem prt_free {code : Array Nat} (h : words.all (freeStr code) = true) {x : PySem.Str} (hx : prt x = true) : freeStr code x = true := List.all_eq_true.mp h x (of_decide_eq_true hx)
noncomputable def escG (esc : Bool) (p : Nat × Nat) : Bool × List V :=
  if esc then (false, [.tup [.int (p.2 : Int), .str (PySem.Str.ofString "\\" ++ ⟨#[p.1]⟩)]])
  else if p.1 = 92 then (true, [])
  else (false, [.tup [.int (p.2 : Int), .str ⟨#[p.1]⟩]])
noncomputable def F111 : List V → Option (List V) := fun a => on1 a fun v => onS v fun x => if x.cps.all (· < 1114112) = true ∧ (foldG escG x.cps.toList.zipIdx false).1 = false then some (foldG escG x.cps.toList.zipIdx false).2 else none
theorem bs_str : PySem.Str.ofString "\\" = ⟨#[92]⟩ := by decide +kernel
noncomputable def F268 : V → List V → Option V := fun v a => on2 a fun w u => onS w fun k => onS u fun x => (hdOf v).bind fun hs => if prt k = true ∧ prt x = true ∧ hs.length ≤ 900 ∧ JoinOk (PySem.Str.ofString "; ") [x] = true ∧ Txt.join (PySem.Str.ofString "; ") [x] = x then some (hdV (hs ++ [(k, x)])) else none
noncomputable def F271 : List V → List (PySem.Str × V) → Option V := fun a k => on1 a fun v => on0 k (onL v fun l => if l.isEmpty = true then some (hdV []) else none)
theorem prt_ok {x : PySem.Str} (h : prt x = true) : PyData.strOk x = true := List.all_eq_true.mp (by decide +kernel : words.all PyData.strOk = true) x (of_decide_eq_true h)
noncomputable def escQ : Bool → List (Nat × Nat) → List (Int × PySem.Str)
  | _, [] => []
  | true, p :: r => ((p.2 : Int), PySem.Str.ofString "\\" ++ ⟨#[p.1]⟩) :: escQ false r
  | false, p :: r => if p.1 = 92 then escQ true r else ((p.2 : Int), ⟨#[p.1]⟩) :: escQ false r
theorem escQ_c (p : Nat × Nat) (r : List (Nat × Nat)) : escQ false (p :: r) = if p.1 = 92 then escQ true r else ((p.2 : Int), ⟨#[p.1]⟩) :: escQ false r := rfl
noncomputable def tpV (p : Int × PySem.Str) : V := .tup [.int p.1, .str p.2]
theorem escQ_eq : ∀ (is : List (Nat × Nat)) (esc : Bool), (foldG escG is esc).2 = (escQ esc is).map tpV
  | [], esc => rfl
  | p :: r, true => by
    show _ :: (foldG escG r false).2 = _
    rw [escQ_eq r false]; rfl
  | p :: r, false => by
    show (escG false p).2 ++ (foldG escG r (escG false p).1).2 = _
    rw [escQ_c]
    by_cases c : p.1 = 92
    · rw [show escG false p = (true, []) by simp [escG, c], if_pos c]
      exact escQ_eq r true
    · rw [show escG false p = (false, [.tup [.int (p.2 : Int), .str ⟨#[p.1]⟩]]) by simp [escG, c], if_neg c]
      show _ :: (foldG escG r false).2 = _
      rw [escQ_eq r false]; rfl
noncomputable def parG (o : Int) (p : Int × PySem.Str) : Int × Option V :=
  if p.2 = PySem.Str.ofString "(" then (o + 1, none) else if p.2 = PySem.Str.ofString ")" then (o - 1, if o - 1 < 0 then some (.bool false) else none) else (o, none)
noncomputable def parB (l : List (Int × PySem.Str)) : Bool := match (foldR parG l 0).2 with
  | none => (foldR parG l 0).1 == 0
  | some _ => false
theorem parG_some {o : Int} {p : Int × PySem.Str} {v : V} (h : (parG o p).2 = some v) : v = .bool false := by
  unfold parG at h
  split at h
  · cases h
  split at h
  · dsimp only at h
    split at h <;> cases h
    rfl
  · cases h
theorem parF_some : ∀ {l : List (Int × PySem.Str)} {o : Int} {v : V}, (foldR parG l o).2 = some v → v = .bool false
  | [], o, v, h => by cases h
  | p :: r, o, v, h => by
    rw [foldR_c] at h
    cases q : (parG o p).2 with
    | none => rw [q] at h; exact parF_some h
    | some w => rw [q] at h; cases h; exact parG_some q
theorem sb_ints {cs : List Int} {j : Int} (h0 : 0 ≤ j) (h1 : j < cs.length) (h2 : cs.length ≤ 1000000) : SbTo (.lst (cs.map .int)) (.int j) (.int (cs.getD j.toNat 0)) := by
  have l : j.toNat < cs.length := by omega
  exact SbTo.lst (k := j.toNat) (fits_of (by omega) (by omega)) (by rw [List.length_map]; exact seqIndex_at h0 h1) (by simp [List.getD, l])
theorem sb_tints {cs : List Int} {j : Int} (h0 : 0 ≤ j) (h1 : j < cs.length) (h2 : cs.length ≤ 1000000) : SbTo (.tup (cs.map .int)) (.int j) (.int (cs.getD j.toNat 0)) := by
  have l : j.toNat < cs.length := by omega
  exact SbTo.tup (k := j.toNat) (fits_of (by omega) (by omega)) (by rw [List.length_map]; exact seqIndex_at h0 h1) (by simp [List.getD, l])
theorem sb_pair0 {a b : V} : SbTo (.tup [a, b]) (.int 0) a := SbTo.tup (k := 0) rfl rfl rfl
theorem sb_pair1 {a b : V} : SbTo (.tup [a, b]) (.int 1) b := SbTo.tup (k := 1) rfl rfl rfl
theorem len_ints (cs : List Int) : ((cs.map V.int).length : Int) = (cs.length : Int) := by rw [List.length_map]

/-! further rules: places in lists of lists, pop, x[i] += e, in a tuple, list.count, chains, and -/
theorem nd_swap {α : Type} {p1 g p2 g' : List α} (nd : (p1 ++ (g ++ p2)).Nodup) (ng : g'.Nodup) (off : ∀ a ∈ g', a ∈ g ∨ (a ∉ p1 ∧ a ∉ p2)) : (p1 ++ (g' ++ p2)).Nodup := by
  have n1 := List.nodup_append.mp nd
  have n2 := List.nodup_append.mp n1.2.1
  refine List.nodup_append.mpr ⟨n1.1, List.nodup_append.mpr ⟨ng, n2.2.1, fun a m b m' e => ?_⟩, fun a m b m' e => ?_⟩
  · subst e
    exact (off a m).elim (fun k => n2.2.2 a k a m' rfl) fun k => k.2 m'
  · subst e
    rcases List.mem_append.mp m' with k | k
    · exact (off a k).elim (fun k => n1.2.2 a m a (List.mem_append_left _ k) rfl) fun k => k.1 m
    · exact n1.2.2 a m a (List.mem_append_right _ k) rfl
theorem VRs.split {h : Heap} {y : V} {L : List V} : ∀ {us : List PySem.Value} {fp : List Addr} {k : Nat}, VRs h us L fp → L[k]? = some y →
    ∃ u p1 g p2, fp = p1 ++ (g ++ p2) ∧ us[k]? = some u ∧ VR h u y g ∧ ∀ (h' : Heap) (W : List Addr) (y' : V) (g' : List Addr), (∀ a o, h.get? a = some o → fixedObj o = true ∨ a ∉ W → h'.get? a = some o) → (∀ a ∈ p1, a ∉ W) → (∀ a ∈ p2, a ∉ W) → VR h' u y' g' → VRs h' us (L.set k y') (p1 ++ (g' ++ p2)) := by
  induction L with
  | nil => intro us fp k r e; cases e
  | cons x L ih =>
    intro us fp k r e
    refine VRs.consE r fun u us f g r rs => ?_
    cases k with
    | zero =>
      cases e
      refine ⟨u, [], f, g, rfl, rfl, r, fun h' W y' g' kp h1 h2 r' => ?_⟩
      show VRs h' (u :: us) (y' :: L) (g' ++ g)
      exact .cons r' (rs.but kp h2)
    | succ k =>
      obtain ⟨z, p1, g1, p2, e1, e2, e3, e4⟩ := ih rs (k := k) e
      refine ⟨z, f ++ p1, g1, p2, by rw [e1, List.append_assoc], e2, e3, fun h' W y' g' kp h1 h2 r' => ?_⟩
      rw [List.append_assoc]
      exact .cons (r.but kp fun a m => h1 a (List.mem_append_left _ m)) (e4 h' W y' g' kp (fun a m => h1 a (List.mem_append_right _ m)) h2 r')
section
variable {c : Cx} {pe : PE} {sc : Scope} {b b1 b' : Loc} {l i e o : Expr} {y y' v : V} {p pos apos cpos : Pos} {fr f1 f2 : Bool}
theorem PlTo.sub {L : List V} {j : Int} {k : Nat} (h1 : PlTo c sc b l (.lst L) (.lst (L.set k y')) b') (h2 : EvTo c ⟨sc, b⟩ i (.int j) f2) (hf : fits j = true) (e1 : seqIndex? j L.length = some k) (e2 : L[k]? = some y) (hi : ∀ o x, subscripted i false o x = operate [o, x] (getItem o x)) : PlTo c sc b (.Subscript l i p) y y' b' := fun t Q h => by
  refine Subscript_ (h1 t _ fun u s1 g x1 r1 nd own tw => ?_)
  refine h2 (t.toAt.ext x1) _ fun u' s2 p2 => ?_
  obtain ⟨gi, x2, r2, _, _⟩ := p2
  revert nd own tw
  refine VR.lstE r1 fun D us n fp q rs nd own tw => VR.intE r2 fun tk => ?_
  obtain ⟨z, p1, ge, pp, rfl, z1, z2, z3⟩ := rs.split e2
  have nd1 := List.nodup_cons.mp nd
  have nd2 := List.nodup_append.mp nd1.2
  have nd3 := List.nodup_append.mp nd2.2.1
  have inG : ∀ a ∈ ge, a ∈ D :: (p1 ++ (ge ++ pp)) := fun a m => .tail _ (List.mem_append_right _ (List.mem_append_left _ m))
  have ex : ∀ a ∈ D :: (p1 ++ (ge ++ pp)), ∃ o, s1.heap.get? a = some o := (VR.lst q rs).doms
  have q2 : s2.heap.get? D = some (lstObj us n) := x2.keep _ _ q
  refine tail_any (Heap.IsList.typeIs ⟨_, q2, rfl, _, rfl⟩) slot_list_getitem.lookup (getItem_list_any ⟨_, q2, rfl, _, rfl⟩ (by rw [List.size_toArray, rs.length]; exact e1) hf (by simpa using z1) (h z s2 ge (x1.ext x2) (z2.ext x2) nd3.1 (fun a m => own a (inG a m)) fun s3 s4 W g' x23 st hW dW r' ndg hg => ?_)) (hi _ _)
  have off : ∀ a ∈ g', a ∉ ge → ∀ d ∈ D :: (p1 ++ (ge ++ pp)), a ≠ d := fun a m k d md e => by
    subst e
    obtain ⟨o, e⟩ := ex a md
    exact (hg a m).elim k fun z => by rw [x2.keep _ _ e] at z; cases z
  have DW : D ∉ W := fun k => nd1.1 (List.mem_append_right _ (List.mem_append_left _ (hW D k)))
  refine tw s3 s4 W (D :: (p1 ++ (g' ++ pp))) (x2.ext x23) st (fun a m => inG a (hW a m)) dW (.lst (st.heap D _ (x23.keep _ _ q2) (.inr DW)) (z3 s4.heap W y' g' (fun a o e k => st.heap a o ((x2.ext x23).keep _ _ e) k) (fun a m k => nd2.2.2 a m a (List.mem_append_left _ (hW a k)) rfl) (fun a m k => nd3.2.2 a (hW a k) a m rfl) r')) (List.nodup_cons.mpr ⟨fun m => ?_, nd_swap nd1.2 ndg fun a m => ?_⟩) fun a m => ?_
  · rcases List.mem_append.mp m with m | m
    · exact nd1.1 (List.mem_append_left _ m)
    · rcases List.mem_append.mp m with m | m
      · exact off D m (fun k => nd1.1 (List.mem_append_right _ (List.mem_append_left _ k))) D (.head _) rfl
      · exact nd1.1 (List.mem_append_right _ (List.mem_append_right _ m))
  · refine (Classical.em (a ∈ ge)).imp id fun k => ⟨fun q => off a m k a (.tail _ (List.mem_append_left _ q)) rfl, fun q => off a m k a (.tail _ (List.mem_append_right _ (List.mem_append_right _ q))) rfl⟩
  · rcases List.mem_cons.mp m with rfl | m
    · exact .inl (.head _)
    · rcases List.mem_append.mp m with m | m
      · exact .inl (.tail _ (List.mem_append_left _ m))
      · rcases List.mem_append.mp m with m | m
        · exact (hg a m).imp (inG a) (back x2)
        · exact .inl (.tail _ (List.mem_append_right _ (List.mem_append_right _ m)))
theorem pop_ok {prog : Program} {w : World} {A : Around} {E : PySem.Value → Shared → Prop} {s : Shared} {us : List PySem.Value} {k : Nat} {D : Addr} {u : PySem.Value} {tk : Tok} (hD : s.heap.get? D = some (lstObj (u :: us) k)) (hz : us.length ≤ 1000000) {Q : PySem.Value → Shared → Prop}
    (h : ∀ s' k', s'.heap.get? D = some (lstObj us k') → Stp [D] [] s s' → Q u s') : wpAny (model prog w) A (call (.builtin "list.pop") [.ref D, .int 0 tk]) Q E s := by
  have e24 := sizeLine_eq
  refine call_meets PySem.F.slot_list_pop ⟨_, hD, rfl⟩ PySem.F.entry_list_pop (PySem.F.args_list_pop_2 _ _) (PySem.MeetsSeq.list_pop_at D _ k 0 tk 0 u (by decide) (by simp [seqIndex?]) (by simp) (by rw [List.size_toArray, List.length_cons, e24]; omega)) ⟨hD, h _ (k + 1) ?_ (.of_same (Heap.SameBut.update ..) fun o e' => ?_)⟩
  · show (s.heap.update D _).get? D = _
    rw [Heap.get?_update_self _ hD rfl]
    simp [Obj.mapSeq, lstObj]
  · rw [hD] at e'; cases e'; rfl
theorem StTo.pop {l : List V} {tes : List Expr} {k q : Nat} {tp p2 : Pos} (hl : (apos.endLine == cpos.line) = true) (h1 : PlTo c sc b o (.lst (v :: l)) (.lst l) b1) (hv : flatV v = true) (hb : BdTo c.q (.Tuple tes k tp) v b1 b') (hok : (tNames (.Tuple tes k tp)).all (ownName sc) = true) (hz : l.length ≤ 1000000) (ha : ∀ env, attributeBase o ("pop" : PySem.Str) env (eval o env) = eval o env) :
    StTo c sc b (.Assign [.Tuple tes k tp] (.Call (.Attribute o ("pop" : PySem.Str) apos) [.Constant (.int 0) q p2] [] cpos) pos) .next b' := fun t Q h => by
  refine wpAny_Assign_stores (meth_ok ha rfl hl (notStar (fun _ => rfl)) fun pl => h1 t _ fun u s1 g x1 r1 nd _ tw => ?_) (by unfold swapsWithSole; exact swaps_no rfl _ _) (by unfold swappedStores; rfl)
  revert nd tw
  refine VR.lstE r1 fun D us n f q rs nd tw => ?_
  refine getMethod_builtin (T := "list") ⟨_, q, rfl⟩ PySem.F.plainAttrs_list PySem.F.slot_list_pop PySem.F.type_list_pop (fun a' e => by cases e; exact ⟨_, q, rfl⟩) ?_
  refine args1_raw (keep_builtin _ _) rfl (wpAny_Constant_int ?_)
  have x2 : Ext s1 { s1 with toks := s1.toks + 1 } := .toks _ _
  revert q nd tw
  refine VRs.consE rs fun uv us fv f rv rs q nd tw => ?_
  have := flat_nil rv hv
  subst this
  have nd1 := List.nodup_cons.mp nd
  refine pop_ok (s := { s1 with toks := s1.toks + 1 }) q (by rw [rs.length]; exact hz) fun s3 k3 hD st => ?_
  have off : ∀ a ∈ f, a ∉ [D] := fun a m k => nd1.1 ((List.mem_singleton.mp k) ▸ m)
  obtain ⟨FP', O', pp⟩ := tw _ s3 [D] (D :: f) x2 st (fun a m => by rw [List.mem_singleton.mp m]; exact .head _) (fun a m => by rw [List.mem_singleton.mp m]; exact ⟨_, hD⟩) (.lst hD ((rs.ext x2).but st.heap off)) nd fun a m => .inl m
  exact bd_fin (t.next pp) hb hok (.refl _ _ _) ((rv.ext x2).stp st (by first | exact nn | nofun)) (by first | exact nn | nofun) fun s4 FP2 P => h .next s4 FP2 _ (pp.trans P) trivial
end

section
variable {prog : Program} {w : World} {A : Around} {E : PySem.Value → Shared → Prop} {s : Shared}
theorem set_neg {D : Addr} {us : List PySem.Value} {k j : Nat} {i : Int} {t : Tok} {v : PySem.Value} (hD : s.heap.get? D = some (lstObj us k)) (h0 : i < 0) (hf : -(2 ^ 62) < i) (hk : seqIndex? i us.length = some j) (hj : j < us.length) {Q : Unit → Shared → Prop}
    (h : ∀ s' k', s'.heap.get? D = some (lstObj (us.set j v) k') → Stp [D] [] s s' → Q () s') : wpAny (model prog w) A (setItem (.ref D) (.int i t) v) Q E s := by
  have hl : s.heap.IsList D us.toArray := ⟨_, hD, rfl, _, rfl⟩
  unfold setItem
  try with_reducible refine wpAny_holding ?_
  refine wpAny_bind (wpAny_sequenceKey hl.typeIs (by decide) ?_)
  refine wpAny_bind (wpAny_callSpecial?_slot (name := Str.ofString "__setitem__") hl.typeIs slot_list_setitem
    (wpAny_call_entry slot_list_setitem hl.typeIs entry_list_setitem ?_ (args_list_setitem _ _ _)))
  show wpAny _ _ (Builtin.List.listSubscript? (.int i t) >>= _) _ _ s
  refine wpAny_bind (wpAny_listSubscript_int (fitsIndex_neg h0 (by omega)) ?_)
  have hx' : us.toArray[j]? = some us[j] := by simp [hj]
  obtain ⟨n, rfl⟩ : ∃ n : Nat, i = Int.negSucc n := by
    cases i with
    | ofNat n => exact absurd h0 (Int.not_lt.mpr (Int.natCast_nonneg n))
    | negSucc n => exact ⟨n, rfl⟩
  show wpAny _ _ ((Builtin.List.listItems (.ref D) >>= fun xs => pure ((seqIndex? (Int.negSucc n) xs.size).bind fun i => xs[i]?.map (i, ·))) >>= _) _ _ s
  refine wpAny_bind (wpAny_bind ?_)
  show wpAny _ _ (seqItems? (.ref D) >>= _) _ _ s
  refine wpAny_bind (wpAny_seqItems hD rfl (wpAny_pure (wpAny_pure ?_)))
  rw [List.size_toArray, hk]
  simp only [Option.bind_some, hx', Option.map_some]
  show wpAny _ _ (setSeqItemAt D j v >>= _) _ _ s
  obtain ⟨k', e1, e2⟩ := upd_list (s := s) (fun x => x.setIfInBounds j v) hD s.toks
  refine wpAny_bind (wpAny_setSeqItemAt hD rfl ?_)
  have fin := h _ k' (by simpa using e1) e2
  first
    | exact wpAny_bind (wpAny_pure (wpAny_pure ⟨.none, rfl, wpAny_pure fin⟩))
    | exact wpAny_pure ⟨.none, rfl, wpAny_pure fin⟩
end
section
variable {c : Cx} {pe : PE} {sc : Scope} {b b1 b' : Loc} {l i e o : Expr} {v : V} {p pos apos cpos : Pos} {fr f0 f1 f2 : Bool}
theorem StTo.augI {op : Operator} {L : List V} {j : Int} {k : Nat} {x d y : V} (h2 : PlTo c sc b o (.lst L) (.lst (L.set k y)) b') (h3 : EvTo c ⟨sc, b⟩ i (.int j) f2) (hf : fits j = true) (e1 : seqIndex? j L.length = some k) (e2 : L[k]? = some x) (h1 : EvTo c ⟨sc, b⟩ e d f1) (ha : AgTo op x d y) (fx : flatV x = true) (hz : L.length ≤ 1000000)
    (hi : ∀ ov iv new, augStore i ov iv new = (do holding [new, ov, iv] (setItem ov iv new); release [new, ov, iv] []; pure .next) := by intros; rfl) :
    StTo c sc b (.AugAssign (.Subscript o i p) op e pos) .next b' := fun t Q h => by
  refine wpAny_AugAssign_SubscriptAny (h2 t _ fun u s1 g x1 r1 nd _ tw => h3 (t.toAt.ext x1) _ fun iv s2 p2 => ?_) hi
  obtain ⟨fi, x2, ri, _, _⟩ := p2
  revert nd tw
  refine VR.lstE r1 fun D us n f q rs nd tw => VR.intE ri fun tj => ?_
  have q2 : s2.heap.get? D = some (lstObj us n) := x2.keep _ _ q
  obtain ⟨z, g, z1, z2, z3⟩ := rs.get e2
  have := flat_nil z2 fx
  subst this
  refine getItem_list_any ⟨_, q2, rfl, _, rfl⟩ (by rw [List.size_toArray, rs.length]; exact e1) hf (by simpa using z1) ?_
  refine h1 (t.toAt.ext (x1.ext x2)) _ fun dv s3 p3 => ?_
  obtain ⟨fd, x3, rd, _, _⟩ := p3
  refine ha.go (z2.ext (x2.ext x3)) rd fun yv s4 x4 ry => ?_
  have x14 : Ext s1 s4 := (x2.ext x3).ext x4
  have q4 : s4.heap.get? D = some (lstObj us n) := x14.keep _ _ q
  have nd' := List.nodup_cons.mp nd
  have fin : ∀ s5 k5, s5.heap.get? D = some (lstObj (us.set k yv) k5) → Stp [D] [] s4 s5 → Q .next s5 := fun s5 k5 hD st => by
    obtain ⟨f', rs', sub⟩ := VRs.set (ry.stp st (by first | exact nn | nofun)) k ((rs.ext x14).but st.heap fun a m z => nd'.1 ((List.mem_singleton.mp z) ▸ m))
    obtain ⟨FP', O', pp⟩ := tw s4 s5 [D] (D :: f') x14 st (fun a m => by rw [List.mem_singleton.mp m]; exact .head _) (fun a m => by rw [List.mem_singleton.mp m]; exact ⟨_, hD⟩) (.lst hD rs') (List.nodup_cons.mpr ⟨fun m => nd'.1 (sub.subset m), sub.nodup nd'.2⟩) fun a m => .inl ((List.mem_cons.mp m).elim (fun z => z ▸ .head _) fun z => .tail _ (sub.subset z))
    exact h .next s5 FP' O' pp trivial
  have hf' := fits_iff.mp hf
  obtain ⟨k1, ⟨k2, rfl⟩ | ⟨k2, _, _⟩⟩ := seqIndex_lt e1
  · exact set_ok q4 k2 hf'.2 (by rw [rs.length]; omega) fin
  · exact set_neg q4 k2 hf'.1 (by rw [rs.length]; exact e1) (by rw [rs.length]; exact k1) fin
noncomputable def inV (a : V) (l : List V) : Option Bool := do
  let d ← dataV a
  let ds ← dataVs l
  if PyData.canLayAll0 ds = true ∧ d.canLay0 = true ∧ PyData.depthAll ds ≤ 60 then some (ds.any fun y => PyData.eqv y d) else none
theorem CmTo.inT {a : V} {l : List V} {x : Bool} (h : inV a l = some x) : CmTo .In a (.tup l) x := ⟨fun R ra rb hq => by
  obtain ⟨d, e1, h⟩ := Option.bind_eq_some_iff.mp h
  obtain ⟨ds, e2, h⟩ := Option.bind_eq_some_iff.mp h
  obtain ⟨⟨k1, k2, k3⟩, h⟩ := ite_some h
  cases h
  have e3 : dataV (.tup l) = some (.tuple ds) := by show (dataVs l).map _ = _; rw [e2]; rfl
  refine SeqAt.in_tuple_reads (rb.reads e3) (ra.reads e1) k1 k2 ?_ (hq _ (.refl _ _ _))
  have := R.units
  have := Nat.min_le_left (PyData.depthAll ds) d.depth
  omega⟩
theorem EvTo.cnt {xs : List V} {y : V} {n : Nat} (hl : (apos.endLine == cpos.line) = true) (ha : ∀ env, attributeBase o ("count" : PySem.Str) env (eval o env) = eval o env) (h0 : EvTo c pe o (.lst xs) f0) (hs : ∀ env, starEach [e] env = [(false, eval e env)]) (h1 : EvTo c pe e y f1) (hd : (do
    let d ← dataV y
    let ds ← dataVs xs
    if PyData.canLayAll0 ds = true ∧ d.canLay0 = true ∧ PyData.depthAll ds ≤ 60 then some (ds.countP fun z => PyData.eqv z d) else none) = some n) : EvTo c pe (.Call (.Attribute o ("count" : PySem.Str) apos) [e] [] cpos) (.int n) fr := fun t Q h => by
  obtain ⟨d, e1, hd⟩ := Option.bind_eq_some_iff.mp hd
  obtain ⟨ds, e2, hd⟩ := Option.bind_eq_some_iff.mp hd
  obtain ⟨⟨k1, k2, k3⟩, hd⟩ := ite_some hd
  cases hd
  refine meth_ok ha rfl hl (notStar hs) fun pl => h0 t _ fun u s1 p1 => ?_
  obtain ⟨f, x1, r1, _, _⟩ := p1
  refine VR.lstE r1 fun D us n f q rs => ?_
  refine getMethod_builtin (T := "list") ⟨_, q, rfl⟩ PySem.F.plainAttrs_list PySem.F.slot_list_count PySem.F.type_list_count (fun a' e => by cases e; exact ⟨_, q, rfl⟩) ?_
  refine args1_raw (keep_builtin _ _) (hs _) (h1 (t.ext x1) _ fun z s2 p2 => ?_)
  obtain ⟨fz, x2, rz, _, _⟩ := p2
  have q2 := x2.keep _ _ q
  have rr := (rs.ext x2).reads e2
  have ie := SeqAt.items_eqAt (A := t.A) (vs := us.toArray) (by simpa using rr) (rz.reads e1) k1 k2 (by
    have := t.room.units
    have := Nat.min_le_left (PyData.depthAll ds) d.depth
    omega)
  refine call_meets PySem.F.slot_list_count ⟨_, q2, rfl⟩ PySem.F.entry_list_count (PySem.F.args_list_count_2 _ _) (SeqAt.list_countAt D us.toArray n .none #[] z _) ⟨q2, ie, ?_⟩
  have ec : us.toArray.toList.countP (fun y => PyData.eqv (SeqAt.readOf s2.heap y) d) = ds.countP fun z => PyData.eqv z d := by
    rw [← SeqAt.readsAll_map ds _ _ k1 rr, List.countP_map]
    rfl
  rw [ec]
  exact h _ _ (.flat ((x1.ext x2).ext (.toks _ _)) (.int _ _))
theorem EtTo.cm2 {op op' : CmpOp} {r r' : Expr} {a b d : V} {x y : Bool} (h1 : EvTo c pe l a f0) (h2 : EvTo c pe r b f1) (c1 : CmTo op a b x) (h3 : x = true → EvTo c pe r' d f2) (c2 : x = true → CmTo op' b d y) (hm : lastMarks [op'] [r'] = false) : EtTo c pe (.Compare l [op, op'] [r, r'] p) (x && y) := fun t Q h => by
  rw [arm_isTrue_Compare]
  refine wpAny_bind (h1 t _ fun u s1 p1 => ?_)
  obtain ⟨f, x1, r1, _, _⟩ := p1
  have e : markedEach [op, op'] [r, r'] (evalEach [r, r'] t.env) = eval r t.env :: markedEach [op'] [r'] (evalEach [r'] t.env) := rfl
  rw [e, marked_one hm]
  refine test_link (h2 (t.ext x1) _ fun z s2 p2 => ?_)
  obtain ⟨g, x2, r2, _, _⟩ := p2
  refine c1.go t.room (r1.ext x2) r2 fun s3 x3 => wpAny_truthy_bool ?_
  have x03 : Ext t.s s3 := (x1.ext x2).ext x3
  cases x with
  | false => exact h _ x03
  | true =>
    rw [if_pos rfl]
    refine test_last (h3 rfl (t.ext x03) _ fun z' s4 p4 => ?_)
    obtain ⟨g', x4, r4, _, _⟩ := p4
    exact (c2 rfl).go t.room (r2.ext (x3.ext x4)) r4 fun s5 x5 => wpAny_truthy_bool (h _ ((x03.ext x4).ext x5))
end

theorem CiTo.more {c : Cx} {sc : Scope} {b b' : Loc} {g g' : Comprehension} {rr : List Comprehension} {elt : Expr} {v : V} {xs ys : List V} (hg : g.ifs = []) (hb : BdTo c.q g.target v b b') (h1 : EiTo c ⟨sc, b'⟩ g'.iter xs) (hk : ((tNames g'.target).all fun x => (b'.lookup x).isNone) = true) (h2 : CsTo c sc b' g' rr elt xs ys) : CiTo c sc b g (g' :: rr) elt v ys :=
  ⟨b', true, hb, by rw [hg]; exact .nil, .more g' rr xs ys rfl h1 hk (ClTo.of h2)⟩
theorem CsTo.to {c : Cx} {sc : Scope} {b : Loc} {g : Comprehension} {r : List Comprehension} {elt : Expr} {xs l l' : List V} (h : CsTo c sc b g r elt xs l) (e : l = l') : CsTo c sc b g r elt xs l' := e ▸ h
theorem SsTo.cv {c : Cx} {sc : Scope} {b b1 b' : Loc} {ss : List Stmt} {fl : Fl} (e : b = b1) (h : SsTo c sc b1 ss fl b') : SsTo c sc b ss fl b' := e ▸ h

noncomputable def st55 : Stmt := nthS 1 (clsB (nthS 13 PySem.Challenge.pw_sr0084_02.main.body))
noncomputable def st69 : Stmt := nthS 3 (clsB (nthS 13 PySem.Challenge.pw_sr0084_02.main.body))
noncomputable def st111 : Stmt := nthS 9 PySem.Challenge.pw_sr0084_02.main.body
noncomputable def st118 : Stmt := nthS 10 PySem.Challenge.pw_sr0084_02.main.body
noncomputable def st125 : Stmt := nthS 11 PySem.Challenge.pw_sr0084_02.main.body
noncomputable def st163 : Stmt := nthS 0 (clsB (nthS 7 PySem.Challenge.pw_sr0084_02.main.body))
noncomputable def st170 : Stmt := nthS 1 (clsB (nthS 7 PySem.Challenge.pw_sr0084_02.main.body))
noncomputable def st208 : Stmt := nthS 7 (clsB (nthS 7 PySem.Challenge.pw_sr0084_02.main.body))
noncomputable def st268 : Stmt := nthS 16 (clsB (nthS 7 PySem.Challenge.pw_sr0084_02.main.body))
noncomputable def st278 : Stmt := nthS 15 PySem.Challenge.pw_sr0084_02.main.body
noncomputable def st283 : Stmt := nthS 16 PySem.Challenge.pw_sr0084_02.main.body
noncomputable def st290 : Stmt := nthS 17 PySem.Challenge.pw_sr0084_02.main.body
noncomputable def st295 : Stmt := nthS 18 PySem.Challenge.pw_sr0084_02.main.body
noncomputable def st300 : Stmt := nthS 19 PySem.Challenge.pw_sr0084_02.main.body
noncomputable def tab3 : Tab where
  glob := [(PySem.Str.ofString "_check_parenthesis", .ref 207), (PySem.Str.ofString "_iter_escaped_chars", .ref 193), (PySem.Str.ofString "_strip_quoted_realnames", .ref 200), (PySem.Str.ofString "Whitespace", .ref aWS), (PySem.Str.ofString "Headers", .ref aHD), (PySem.Str.ofString "_name_disallowed_re", .ref 48), (PySem.Str.ofString "_value_disallowed_re", .ref 53), (PySem.Str.ofString "_law_text", .ref 278), (PySem.Str.ofString "_law_queue", .ref 283), (PySem.Str.ofString "_law_waves", .ref 290), (PySem.Str.ofString "_law_whole", .ref 295), (PySem.Str.ofString "law", .ref 300), (PySem.Str.ofString "len", .builtin "len"), (PySem.Str.ofString "sum", .builtin "sum"), (PySem.Str.ofString "range", .type "range"), (PySem.Str.ofString "tuple", .type "tuple"), (PySem.Str.ofString "type", .type "type"), (PySem.Str.ofString "list", .type "list"), (PySem.Str.ofString "str", .type "str"), (PySem.Str.ofString "enumerate", .type "enumerate"), (PySem.Str.ofString "ValueError", .type "ValueError")]
  fld := [(aWS, PySem.Str.ofString "raw"), (aWS, PySem.Str.ofString "n"), (aWS, PySem.Str.ofString "nt"), (aWS, PySem.Str.ofString "norm"), (aWS, PySem.Str.ofString "is_simple"), (aHD, PySem.Str.ofString "_headers")]
  meth := [((aWS, PySem.Str.ofString "indent_level"), 238), ((aHD, PySem.Str.ofString "_convert_string_type"), 83), ((aHD, PySem.Str.ofString "get_all"), 121)]
  catt := [((aWS, PySem.Str.ofString "S"), PySem.Str.ofString " "), ((aWS, PySem.Str.ofString "T"), PySem.Str.ofString "\t")]
  al := [aHD]
section
variable {c : Cx} (T : OfTab c tab3)
include T
theorem gl_check_parenthesis : c.Γ.glob (PySem.Str.ofString "_check_parenthesis") = some (.ref 207) := T.gl (by kernel_rfl)
theorem gl_iter_escaped_chars : c.Γ.glob (PySem.Str.ofString "_iter_escaped_chars") = some (.ref 193) := T.gl (by kernel_rfl)
theorem gl_strip_quoted_realnames : c.Γ.glob (PySem.Str.ofString "_strip_quoted_realnames") = some (.ref 200) := T.gl (by kernel_rfl)
theorem gl_Whitespace : c.Γ.glob (PySem.Str.ofString "Whitespace") = some (.ref aWS) := T.gl (by kernel_rfl)
theorem gl_Headers : c.Γ.glob (PySem.Str.ofString "Headers") = some (.ref aHD) := T.gl (by kernel_rfl)
theorem gl_name_disallowed_re : c.Γ.glob (PySem.Str.ofString "_name_disallowed_re") = some (.ref 48) := T.gl (by kernel_rfl)
theorem gl_value_disallowed_re : c.Γ.glob (PySem.Str.ofString "_value_disallowed_re") = some (.ref 53) := T.gl (by kernel_rfl)
theorem gl_law_text : c.Γ.glob (PySem.Str.ofString "_law_text") = some (.ref 278) := T.gl (by kernel_rfl)
theorem gl_law_queue : c.Γ.glob (PySem.Str.ofString "_law_queue") = some (.ref 283) := T.gl (by kernel_rfl)
theorem gl_law_waves : c.Γ.glob (PySem.Str.ofString "_law_waves") = some (.ref 290) := T.gl (by kernel_rfl)
theorem gl_law_whole : c.Γ.glob (PySem.Str.ofString "_law_whole") = some (.ref 295) := T.gl (by kernel_rfl)
theorem gl_len : c.Γ.glob (PySem.Str.ofString "len") = some (.builtin "len") := T.gl (by kernel_rfl)
theorem gl_sum : c.Γ.glob (PySem.Str.ofString "sum") = some (.builtin "sum") := T.gl (by kernel_rfl)
theorem gl_range : c.Γ.glob (PySem.Str.ofString "range") = some (.type "range") := T.gl (by kernel_rfl)
theorem gl_tuple : c.Γ.glob (PySem.Str.ofString "tuple") = some (.type "tuple") := T.gl (by kernel_rfl)
theorem gl_type : c.Γ.glob (PySem.Str.ofString "type") = some (.type "type") := T.gl (by kernel_rfl)
theorem gl_list : c.Γ.glob (PySem.Str.ofString "list") = some (.type "list") := T.gl (by kernel_rfl)
theorem gl_str : c.Γ.glob (PySem.Str.ofString "str") = some (.type "str") := T.gl (by kernel_rfl)
theorem gl_enumerate : c.Γ.glob (PySem.Str.ofString "enumerate") = some (.type "enumerate") := T.gl (by kernel_rfl)
theorem gl_ValueError : c.Γ.glob (PySem.Str.ofString "ValueError") = some (.type "ValueError") := T.gl (by kernel_rfl)
theorem fl_aWS_raw : c.Γ.fld aWS (PySem.Str.ofString "raw") = true := T.fl (by kernel_rfl)
theorem fl_aWS_n : c.Γ.fld aWS (PySem.Str.ofString "n") = true := T.fl (by kernel_rfl)
theorem fl_aWS_nt : c.Γ.fld aWS (PySem.Str.ofString "nt") = true := T.fl (by kernel_rfl)
theorem fl_aWS_norm : c.Γ.fld aWS (PySem.Str.ofString "norm") = true := T.fl (by kernel_rfl)
theorem fl_aWS_is_simple : c.Γ.fld aWS (PySem.Str.ofString "is_simple") = true := T.fl (by kernel_rfl)
theorem fl_aHD_headers : c.Γ.fld aHD (PySem.Str.ofString "_headers") = true := T.fl (by kernel_rfl)
theorem ca_S : c.Γ.catt (.ref aWS) (PySem.Str.ofString "S") = some (.str (PySem.Str.ofString " ")) := T.ca (by kernel_rfl)
theorem ca_T : c.Γ.catt (.ref aWS) (PySem.Str.ofString "T") = some (.str (PySem.Str.ofString "\t")) := T.ca (by kernel_rfl)
theorem mt_aWS_indent_level {fs : List (PySem.Str × V)} (hn : fs.lookup (PySem.Str.ofString "indent_level") = none) : c.Γ.meth (.inst aWS fs) (PySem.Str.ofString "indent_level") = some (.ref 238) := T.ma hn (by kernel_rfl)
theorem mt_aHD_convert_string_type {fs : List (PySem.Str × V)} (hn : fs.lookup (PySem.Str.ofString "_convert_string_type") = none) : c.Γ.meth (.inst aHD fs) (PySem.Str.ofString "_convert_string_type") = some (.ref 83) := T.ma hn (by kernel_rfl)
theorem mt_aHD_get_all {fs : List (PySem.Str × V)} (hn : fs.lookup (PySem.Str.ofString "get_all") = none) : c.Γ.meth (.inst aHD fs) (PySem.Str.ofString "get_all") = some (.ref 121) := T.ma hn (by kernel_rfl)
end
noncomputable def mk69 (fs : List (PySem.Str × V)) (ts : Int) (cs : List Int) (b il : Int) : Loc := [(PySem.Str.ofString "self", .inst aWS fs, .frz), (PySem.Str.ofString "tabsize", .int ts, .own), (PySem.Str.ofString "count", .tup (cs.map .int), .own), (PySem.Str.ofString "trailing", .int b, .own), (PySem.Str.ofString "il", .int il, .own)]
theorem ok69 {c : Cx} (T : OfTab c tab3) (hq : c.q = true) (I : FnIn c.K 238 st69 .none .none) {al : Bool} : FnOk c 238 al F69 := by
  refine fnOk_of (na := 2) (kwn := []) (names := [PySem.Str.ofString "self", PySem.Str.ofString "tabsize"]) I (by kernel_rfl) (by kernel_rfl) rfl ?_ ?_
  · exact fun name qual doc pm cdv ct an s => len20 fun a b => BindsTo.of_eq rfl
  · intro args kws r h
    have T : OfTab (c.pin []) tab3 := T.pin
    obtain ⟨_, _, e_, a1_⟩ := on2_some h
    clear h; subst e_
    obtain ⟨e_, a2_⟩ := on0_some a1_
    clear a1_; subst e_
    obtain ⟨C, fs, e_, a3_⟩ := onI_some a2_
    clear a2_; subst e_
    obtain ⟨ts, e_, h⟩ := onN_some a3_
    clear a3_; subst e_
    · obtain ⟨hC, h⟩ := ite_some h
      · subst hC
        obtain ⟨⟨cs, b⟩, e1, h⟩ := Option.bind_eq_some_iff.mp h
        obtain ⟨nt, e2, h⟩ := Option.bind_eq_some_iff.mp h
        obtain ⟨hz, h⟩ := ite_some h
        · cases h
          have e1 := normI_ok e1
          have e2 := intI_ok e2
          simp only [okL, Bool.and_eq_true, decide_eq_true_eq] at hz
          obtain ⟨⟨⟨⟨z1, z2⟩, z3⟩, z4⟩, z5⟩ := hz
          have hz : (cs.map V.int).length ≤ 1000000 := by rw [List.length_map]; exact z3
          have e3 : ((cs.map V.int).length : Int) = (cs.length : Int) := by rw [List.length_map]
          have f1 : fits ts = true := fits_of (by omega) (by omega)
          have f2 : fits (cs.length : Int) = true := fits_of (by omega) (by omega)
          refine ⟨rfl, rfl, rets ?_⟩
          show SsTo (c.pin []) (scpOf st69) [(PySem.Str.ofString "self", .inst aWS fs, .frz), (PySem.Str.ofString "tabsize", .int ts, .own)] (bodOf st69) _ _
          refine SsTo.cons (b1 := [_, _, _, _]) (StTo.bind (fr := false) (BdTo.pr (by exact hq) 2 3 .own .own (by first | rfl | exact flatVs_int _) (by first | rfl | exact flatVs_int _) (by kernel_rfl) (rfl : _ = [_, _, _]) (by kernel_rfl) (rfl : _ = [_, _, _, _])) (by kernel_rfl) rfl rfl (EvTo.fld (f0 := false) (fun _ => rfl) (EvTo.nm 0 rfl (by kernel_rfl)) (fl_aWS_norm T) e1 rfl)) ?_
          refine SsTo.cons (b1 := [_, _, _, _, _]) (StTo.put 4 EvTo.cInt (by kernel_rfl) rfl (rfl : _ = [_, _, _, _, _])) ?_
          refine SsTo.cons (b1 := (mk69 fs ts cs b (ilOf cs ts))) (StTo.for (FsTo.new (fun _ _ => rfl) (EvTo.bi (f0 := false) (f1 := false) (EvTo.gl (gl_range T) (by kernel_rfl)) (EvsTo.cons (fun _ => rfl) (EvTo.nm 1 rfl (by kernel_rfl)) (EvsTo.cons (fun _ => rfl) (EvTo.bi (f0 := false) (f1 := false) (EvTo.gl (gl_len T) (by kernel_rfl)) (EvsTo.cons (fun _ => rfl) (EvTo.nm 2 rfl (by kernel_rfl)) EvsTo.nil) (by exact BiTo.lenT hz)) EvsTo.nil)) (by first | exact BiTo.range1 | exact BiTo.range2)) (by exact ItTo.rng f1 (by rw [e3]; exact f2))) (by kernel_rfl) ?_) ?_
          · rw [e3]
            refine (LpTo.fL (σ := Int) (ι := Nat) (f := fun i => V.int (ts + (i : Int))) (mk := mk69 fs ts cs b) (g := fun il i => il + (ts + (i : Int)).fdiv ts * cs.getD (ts + (i : Int)).toNat 0) (I := fun _ r => ∀ i ∈ r, (i : Int) < (cs.length : Int) - ts) (fun il i r hI => ⟨?_, fun j m => hI j (.tail _ m)⟩) (List.range ((cs.length : Int) - ts).toNat) 0 (fun i m => by have := List.mem_range.mp m; omega)).1
            have hi := hI i (.head _)
            have g1 := sb_tints (cs := cs) (j := ts + (i : Int)) (by omega) (by omega) z3
            have g2 : fits ((ts + (i : Int)).fdiv ts) = true := by
              rw [Int.fdiv_eq_ediv_of_nonneg _ (by omega)]
              have h1 : 0 ≤ (ts + (i : Int)) / ts := Int.ediv_nonneg (by omega) (by omega)
              have h2 : (ts + (i : Int)) / ts ≤ ts + (i : Int) := Int.ediv_le_self _ (by omega)
              exact fits_of (by omega) (by omega)
            have g4 : (decide (ts ≠ 0) && decide (ts.natAbs ≤ 1000000)) = true := by simp; omega
            refine TnTo.mk [_, _, _, _, _, _] (BdTo.nm 5 .own (by first | rfl | exact flatVs_int _) (by kernel_rfl) (rfl : _ = [_, _, _, _, _, _])) ?_
            refine SsTo.cons (b1 := [_, _, _, _, _, _]) (StTo.put 4 (EvTo.bin (f1 := false) (f2 := false) (EvTo.nm 4 rfl (by kernel_rfl)) (EvTo.bin (f1 := false) (f2 := false) (EvTo.bin (f1 := false) (f2 := false) (EvTo.nm 5 rfl (by kernel_rfl)) (EvTo.nm 1 rfl (by kernel_rfl)) (by exact OpTo.divI g4)) (EvTo.sub (f1 := false) (f2 := false) (EvTo.nm 2 rfl (by kernel_rfl)) (EvTo.nm 5 rfl (by kernel_rfl)) (by exact g1) (fun _ _ => rfl)) (by exact OpTo.mulI g2)) (by first | assumption | exact OpTo.addI | exact OpTo.addS (by first | assumption | rfl | omega))) (by kernel_rfl) rfl (rfl : _ = [_, _, _, _, _, _])) ?_
            exact SsTo.dn (r := [_]) rfl
          exact SsTo.rt (RtTo.fresh (EvTo.bin (f1 := false) (f2 := false) (EvTo.nm 3 rfl (by kernel_rfl)) (EvTo.bin (f1 := false) (f2 := false) (EvTo.nm 1 rfl (by kernel_rfl)) (EvTo.bin (f1 := false) (f2 := false) (EvTo.nm 4 rfl (by kernel_rfl)) (EvTo.fld (f0 := false) (fun _ => rfl) (EvTo.nm 0 rfl (by kernel_rfl)) (fl_aWS_nt T) e2 rfl) (by first | assumption | exact OpTo.addI | exact OpTo.addS (by first | assumption | rfl | omega))) (by exact OpTo.mulI f1)) (by first | assumption | exact OpTo.addI | exact OpTo.addS (by first | assumption | rfl | omega))))

theorem grow_len {n : Nat} {b : Int} (h0 : 0 ≤ b) (h : (n : Int) ≤ b) : n + (b - (n : Int) + 1).toNat = b.toNat + 1 := by
  obtain ⟨k, rfl⟩ := Int.eq_ofNat_of_zero_le h0
  obtain ⟨d, rfl⟩ := Nat.exists_eq_add_of_le (Int.ofNat_le.mp h)
  rw [show ((n + d : Nat) : Int) - (n : Int) + 1 = ((d + 1 : Nat) : Int) by omega]
  rfl
noncomputable def wsMk (x : PySem.Str) (s : WS) : Loc := [(PySem.Str.ofString "self", .inst aWS [(PySem.Str.ofString "raw", .str x)], .own), (PySem.Str.ofString "ws", .str x, .own), (PySem.Str.ofString "S", .str (PySem.Str.ofString " "), .own), (PySem.Str.ofString "T", .str (PySem.Str.ofString "\t"), .own), (PySem.Str.ofString "count", .lst (s.count.map .int), .own), (PySem.Str.ofString "b", .int s.b, .own), (PySem.Str.ofString "n", .int s.n, .own), (PySem.Str.ofString "nt", .int s.nt, .own)]
theorem ok100 {c : Cx} (T : OfTab c tab3) (hq : c.q = true) (H : ClsIn c.K aWS 224) (I : FnIn c.K 224 st55 .none .none) {al : Bool} : FnOk c aWS al F100 := by
  refine clsOk_of H I (by kernel_rfl) (by kernel_rfl) fun args kws r h => ?_
  obtain ⟨_, e_, a1_⟩ := on1_some h
  clear h; subst e_
  obtain ⟨e_, a2_⟩ := on0_some a1_
  clear a1_; subst e_
  obtain ⟨x, e_, h⟩ := onS_some a2_
  clear a2_; subst e_
  · obtain ⟨hx, h⟩ := ite_some h
    · cases h
      refine ⟨rfl, fun s a dx us fp r0 nd hg hal r1 lo => ?_⟩
      have := flats_nil r1 rfl
      subst this
      obtain ⟨FP, hb⟩ := bndM (c := c) (st := st55) (dV := .none) (kV := .none) (names := [PySem.Str.ofString "ws"]) (by kernel_rfl) r0 nd (fun b m => (hg b m).1) r1 rfl fun name qual doc pm cdv ct an s u us h1 => by
        obtain ⟨b, rfl⟩ := List.length_eq_one_iff.mp h1
        exact BindsTo.of_eq rfl
      have iv := wsRun_inv hx.1
      have l2 : ((wsRun x).count.map V.int).length ≤ 1000000 := by rw [List.length_map]; omega
      have T : OfTab (c.pin [a]) tab3 := T.pin
      refine ⟨_, FP, _, .next, [(PySem.Str.ofString "self", wsV x (wsRun x), .own)], hb, fun b m => .inl m, ?_, rfl, rfl⟩
      show SsTo (c.pin [a]) (scpOf st55) [(PySem.Str.ofString "self", .inst aWS [], .own), (PySem.Str.ofString "ws", .str x, .own)] (bodOf st55) _ _
      refine SsTo.cons (b1 := [_, _]) (StTo.at 0 0 (EvTo.nmf 1 rfl (by kernel_rfl) rfl) rfl (by kernel_rfl) (fl_aWS_raw T) (by kernel_rfl) rfl (rfl : _ = [_, _])) ?_
      refine SsTo.cons (b1 := [_, _, _, _]) (StTo.put2 (by exact hq) 2 3 (EvTo.tup (EvsTo.cons (fun _ => rfl) (EvTo.catt (f0 := false) (fun _ => rfl) (EvTo.gl (gl_Whitespace T) (by kernel_rfl)) (ca_S T)) (EvsTo.cons (fun _ => rfl) (EvTo.catt (f0 := false) (fun _ => rfl) (EvTo.gl (gl_Whitespace T) (by kernel_rfl)) (ca_T T)) EvsTo.nil)) (Nat.le_of_ble_eq_true rfl)) (by kernel_rfl) (rfl : _ = [_, _, _]) (by kernel_rfl) (rfl : _ = [_, _, _, _]) (by kernel_rfl)) ?_
      refine SsTo.cons (b1 := [_, _, _, _, _]) (StTo.put 4 (EvTo.list EvsTo.nil (Nat.le_of_ble_eq_true rfl)) (by kernel_rfl) rfl (rfl : _ = [_, _, _, _, _])) ?_
      refine SsTo.cons (b1 := [_, _, _, _, _, _, _, _]) (StTo.put3 5 6 7 EvTo.cInt (by kernel_rfl) (rfl : _ = [_, _, _, _, _, _]) (by kernel_rfl) (rfl : _ = [_, _, _, _, _, _, _]) (by kernel_rfl) (rfl : _ = [_, _, _, _, _, _, _, _]) rfl) ?_
      refine SsTo.cons (b1 := (wsMk x (wsRun x))) (StTo.for (FsTo.new (fun _ _ => rfl) (EvTo.any rfl (EvTo.fl 0 (fun _ => rfl) (EvTo.nm 0 rfl (by kernel_rfl)) (fl_aWS_raw T) (by rfl) (by kernel_rfl))) (by first | exact ItTo.lst | exact ItTo.str (by exact hq) | exact ItTo.tup | exact ItTo.rng (by first | assumption | rfl | omega) (by first | assumption | rfl | omega))) (by kernel_rfl) ?_) ?_
      · refine LpTo.fB (σ := WS) (ι := Nat) (f := fun c => V.str ⟨#[c]⟩) (mk := wsMk x) (g := wsStep) (I := fun s r => 0 ≤ s.b ∧ s.b + r.length ≤ 400 ∧ s.count.length ≤ 401 ∧ ∀ c ∈ r, c < 1114112) (fun s c r hI => ?_) x.cps.toList ⟨[], 0, 0, 0⟩ ⟨by decide, by simp; omega, by decide, fun c m => ?_⟩
        · obtain ⟨i1, i2, i3, i4⟩ := hI
          rw [List.length_cons] at i2
          have hc := chr_ok (i4 c (.head _))
          have q1 : eqV (.str ⟨#[c]⟩) (.str (PySem.Str.ofString " ")) = some (c == 32) := by rw [eqV_str hc (by decide +kernel), sp_str, str_one]
          have q2 : eqV (.str ⟨#[c]⟩) (.str (PySem.Str.ofString "\t")) = some (c == 9) := by rw [eqV_str hc (by decide +kernel), tb_str, str_one]
          unfold wsStep
          by_cases c1 : c = 32
          · subst c1
            refine ⟨fun s' e => ?_, fun e => by simp at e⟩
            rw [if_pos rfl] at e
            cases e
            refine ⟨?_, by dsimp only; omega, by dsimp only; push_cast at i2; omega, i3, fun d m => i4 d (.tail _ m)⟩
            have n1 : ((32 : Nat) == 32) = true := rfl
            refine TnTo.mk [_, _, _, _, _, _, _, _, _] (BdTo.nm 8 .own (by first | rfl | kernel_rfl) (by kernel_rfl) (rfl : _ = [_, _, _, _, _, _, _, _, _])) ?_
            refine SsTo.cons (b1 := [_, _, _, _, _, _, _, _, _]) (StTo.ifT (EtTo.cm (EvTo.nm 8 rfl (by kernel_rfl)) (EvTo.nm 2 rfl (by kernel_rfl)) (by exact CmTo.eq q1) (by exact n1) rfl) (by
                refine SsTo.cons (b1 := [_, _, _, _, _, _, _, _, _]) (StTo.put 6 (EvTo.bin (f1 := false) (f2 := false) (EvTo.nm 6 rfl (by kernel_rfl)) EvTo.cInt (by first | assumption | exact OpTo.addI | exact OpTo.addS (by first | assumption | rfl | omega))) (by kernel_rfl) rfl (rfl : _ = [_, _, _, _, _, _, _, _, _])) ?_
                refine SsTo.cons (b1 := [_, _, _, _, _, _, _, _, _]) (StTo.put 5 (EvTo.bin (f1 := false) (f2 := false) (EvTo.nm 5 rfl (by kernel_rfl)) EvTo.cInt (by first | assumption | exact OpTo.addI | exact OpTo.addS (by first | assumption | rfl | omega))) (by kernel_rfl) rfl (rfl : _ = [_, _, _, _, _, _, _, _, _])) ?_
                exact SsTo.nil)) ?_
            exact SsTo.dn (r := [_]) rfl
          · rw [if_neg c1]
            have n1 : (c == 32) = false := by simpa using c1
            by_cases c2 : c = 9
            · subst c2
              refine ⟨fun s' e => ?_, fun e => by simp at e⟩
              rw [if_pos rfl] at e
              cases e
              have n2 : ((9 : Nat) == 9) = true := rfl
              refine ⟨?_, by dsimp only; omega, by dsimp only; push_cast at i2; omega, ?_, fun d m => i4 d (.tail _ m)⟩
              · unfold bump
                by_cases c3 : (s.count.length : Int) ≤ s.b
                · have d3 : decide (((s.count.map V.int).length : Int) ≤ s.b) = true := by rw [len_ints]; simpa using c3
                  have g1 : s.b - (s.count.length : Int) + 1 ≤ 1000 ∧ -1000 ≤ s.b - (s.count.length : Int) + 1 := ⟨by omega, by omega⟩
                  have g2 : s.count.length + (List.replicate (s.b - (s.count.length : Int) + 1).toNat (0 : Int)).length ≤ 1000000 := by rw [List.length_replicate]; omega
                  have hl : (s.count ++ List.replicate (s.b - (s.count.length : Int) + 1).toNat (0 : Int)).length = s.b.toNat + 1 := by rw [List.length_append, List.length_replicate]; exact grow_len i1 (by omega)
                  have g3 := sb_ints (cs := s.count ++ List.replicate (s.b - (s.count.length : Int) + 1).toNat (0 : Int)) (j := s.b) i1 (by omega) (by omega)
                  have g4 : s.b < (s.count ++ List.replicate (s.b - (s.count.length : Int) + 1).toNat (0 : Int)).length := by omega
                  have g5 : (s.count ++ List.replicate (s.b - (s.count.length : Int) + 1).toNat (0 : Int)).length ≤ 1000000 := by omega
                  rw [if_pos c3]
                  refine TnTo.mk [_, _, _, _, _, _, _, _, _] (BdTo.nm 8 .own (by first | rfl | kernel_rfl) (by kernel_rfl) (rfl : _ = [_, _, _, _, _, _, _, _, _])) ?_
                  refine SsTo.cons (b1 := [_, _, _, _, _, _, _, _, _]) (StTo.ifF (EtTo.cm (EvTo.nm 8 rfl (by kernel_rfl)) (EvTo.nm 2 rfl (by kernel_rfl)) (by exact CmTo.eq q1) (by exact n1) rfl) (by
                      refine SsTo.cons (b1 := [_, _, _, _, _, _, _, _, _]) (StTo.ifT (EtTo.cm (EvTo.nm 8 rfl (by kernel_rfl)) (EvTo.nm 3 rfl (by kernel_rfl)) (by exact CmTo.eq q2) (by exact n2) rfl) (by
                          refine SsTo.cons (b1 := [_, _, _, _, _, _, _, _, _]) (StTo.put 6 (EvTo.bin (f1 := false) (f2 := false) (EvTo.nm 6 rfl (by kernel_rfl)) EvTo.cInt (by first | assumption | exact OpTo.addI | exact OpTo.addS (by first | assumption | rfl | omega))) (by kernel_rfl) rfl (rfl : _ = [_, _, _, _, _, _, _, _, _])) ?_
                          refine SsTo.cons (b1 := [_, _, _, _, _, _, _, _, _]) (StTo.put 7 (EvTo.bin (f1 := false) (f2 := false) (EvTo.nm 7 rfl (by kernel_rfl)) EvTo.cInt (by first | assumption | exact OpTo.addI | exact OpTo.addS (by first | assumption | rfl | omega))) (by kernel_rfl) rfl (rfl : _ = [_, _, _, _, _, _, _, _, _])) ?_
                          refine SsTo.cons (b1 := [_, _, _, _, _, _, _, _, _]) (StTo.ifT (EtTo.cm (EvTo.nm 5 rfl (by kernel_rfl)) (EvTo.bi (f0 := false) (f1 := false) (EvTo.gl (gl_len T) (by kernel_rfl)) (EvsTo.cons (fun _ => rfl) (EvTo.nm 4 rfl (by kernel_rfl)) EvsTo.nil) (by exact BiTo.lenL (by rw [List.length_map]; omega))) (by exact CmTo.ge) (by exact d3) rfl) (by
                              refine SsTo.cons (b1 := [_, _, _, _, _, _, _, _, _]) (StTo.put 4 (EvTo.to (v' := .lst ((s.count ++ List.replicate (s.b - (s.count.length : Int) + 1).toNat (0 : Int)).map V.int)) (EvTo.bin (f1 := false) (f2 := false) (EvTo.nm 4 rfl (by kernel_rfl)) (EvTo.bin (f1 := false) (f2 := false) (EvTo.list (EvsTo.cons (fun _ => rfl) EvTo.cInt EvsTo.nil) (Nat.le_of_ble_eq_true rfl)) (EvTo.bin (f1 := false) (f2 := false) (EvTo.bin (f1 := false) (f2 := false) (EvTo.nm 5 rfl (by kernel_rfl)) (EvTo.bi (f0 := false) (f1 := false) (EvTo.gl (gl_len T) (by kernel_rfl)) (EvsTo.cons (fun _ => rfl) (EvTo.nm 4 rfl (by kernel_rfl)) EvsTo.nil) (by exact BiTo.lenL (by rw [List.length_map]; omega))) (by first | assumption | exact OpTo.subI)) EvTo.cInt (by first | assumption | exact OpTo.addI | exact OpTo.addS (by first | assumption | rfl | omega))) (by exact OpTo.mulL (by decide) (by rw [len_ints]; exact g1.1) (by rw [len_ints]; exact g1.2) (by intro h; cases h))) (by exact OpTo.addL (by rw [List.length_map, rep_ints, List.length_map]; exact g2) (by rw [len_ints, rep_ints, ← List.map_append]; intro _; exact flatVs_int _))) (by rw [len_ints, rep_ints, ← List.map_append])) (by kernel_rfl) rfl (rfl : _ = [_, _, _, _, _, _, _, _, _])) ?_
                              exact SsTo.nil)) ?_
                          refine SsTo.cons (b1 := [_, _, _, _, _, _, _, _, _]) (StTo.setI (f1 := false) (f2 := false) rfl (EvTo.bin (f1 := false) (f2 := false) (EvTo.sub (f1 := false) (f2 := false) (EvTo.nm 4 rfl (by kernel_rfl)) (EvTo.nm 5 rfl (by kernel_rfl)) (by exact g3) (fun _ _ => rfl)) EvTo.cInt (by first | assumption | exact OpTo.addI | exact OpTo.addS (by first | assumption | rfl | omega))) rfl (PlTo.nm 4 rfl (by kernel_rfl) (rfl : _ = [_, _, _, _, _, _, _, _, _])) (EvTo.nm 5 rfl (by kernel_rfl)) (by exact i1) (by rw [List.length_map]; exact g4) (by rw [List.length_map]; exact g5)) ?_
                          refine SsTo.cons (b1 := [_, _, _, _, _, _, _, _, _]) (StTo.put 5 EvTo.cInt (by kernel_rfl) rfl (rfl : _ = [_, _, _, _, _, _, _, _, _])) ?_
                          exact SsTo.nil)) ?_
                      exact SsTo.nil)) ?_
                  exact SsTo.dn (r := [_]) (by unfold wsMk; dsimp only; rw [List.map_set]; rfl)
                · have d3 : decide (((s.count.map V.int).length : Int) ≤ s.b) = false := by rw [len_ints]; simpa using c3
                  have g3 := sb_ints (cs := s.count) (j := s.b) i1 (by omega) (by omega)
                  have g4 : s.b < s.count.length := by omega
                  have g5 : s.count.length ≤ 1000000 := by omega
                  rw [if_neg c3]
                  refine TnTo.mk [_, _, _, _, _, _, _, _, _] (BdTo.nm 8 .own (by first | rfl | kernel_rfl) (by kernel_rfl) (rfl : _ = [_, _, _, _, _, _, _, _, _])) ?_
                  refine SsTo.cons (b1 := [_, _, _, _, _, _, _, _, _]) (StTo.ifF (EtTo.cm (EvTo.nm 8 rfl (by kernel_rfl)) (EvTo.nm 2 rfl (by kernel_rfl)) (by exact CmTo.eq q1) (by exact n1) rfl) (by
                      refine SsTo.cons (b1 := [_, _, _, _, _, _, _, _, _]) (StTo.ifT (EtTo.cm (EvTo.nm 8 rfl (by kernel_rfl)) (EvTo.nm 3 rfl (by kernel_rfl)) (by exact CmTo.eq q2) (by exact n2) rfl) (by
                          refine SsTo.cons (b1 := [_, _, _, _, _, _, _, _, _]) (StTo.put 6 (EvTo.bin (f1 := false) (f2 := false) (EvTo.nm 6 rfl (by kernel_rfl)) EvTo.cInt (by first | assumption | exact OpTo.addI | exact OpTo.addS (by first | assumption | rfl | omega))) (by kernel_rfl) rfl (rfl : _ = [_, _, _, _, _, _, _, _, _])) ?_
                          refine SsTo.cons (b1 := [_, _, _, _, _, _, _, _, _]) (StTo.put 7 (EvTo.bin (f1 := false) (f2 := false) (EvTo.nm 7 rfl (by kernel_rfl)) EvTo.cInt (by first | assumption | exact OpTo.addI | exact OpTo.addS (by first | assumption | rfl | omega))) (by kernel_rfl) rfl (rfl : _ = [_, _, _, _, _, _, _, _, _])) ?_
                          refine SsTo.cons (b1 := [_, _, _, _, _, _, _, _, _]) (StTo.ifF (EtTo.cm (EvTo.nm 5 rfl (by kernel_rfl)) (EvTo.bi (f0 := false) (f1 := false) (EvTo.gl (gl_len T) (by kernel_rfl)) (EvsTo.cons (fun _ => rfl) (EvTo.nm 4 rfl (by kernel_rfl)) EvsTo.nil) (by exact BiTo.lenL (by rw [List.length_map]; omega))) (by exact CmTo.ge) (by exact d3) rfl) (by
                              exact SsTo.nil)) ?_
                          refine SsTo.cons (b1 := [_, _, _, _, _, _, _, _, _]) (StTo.setI (f1 := false) (f2 := false) rfl (EvTo.bin (f1 := false) (f2 := false) (EvTo.sub (f1 := false) (f2 := false) (EvTo.nm 4 rfl (by kernel_rfl)) (EvTo.nm 5 rfl (by kernel_rfl)) (by exact g3) (fun _ _ => rfl)) EvTo.cInt (by first | assumption | exact OpTo.addI | exact OpTo.addS (by first | assumption | rfl | omega))) rfl (PlTo.nm 4 rfl (by kernel_rfl) (rfl : _ = [_, _, _, _, _, _, _, _, _])) (EvTo.nm 5 rfl (by kernel_rfl)) (by exact i1) (by rw [List.length_map]; exact g4) (by rw [List.length_map]; exact g5)) ?_
                          refine SsTo.cons (b1 := [_, _, _, _, _, _, _, _, _]) (StTo.put 5 EvTo.cInt (by kernel_rfl) rfl (rfl : _ = [_, _, _, _, _, _, _, _, _])) ?_
                          exact SsTo.nil)) ?_
                      exact SsTo.nil)) ?_
                  exact SsTo.dn (r := [_]) (by unfold wsMk; dsimp only; rw [List.map_set]; rfl)
              · unfold bump
                dsimp only
                split
                · rw [List.length_set, List.length_append, List.length_replicate]; omega
                · rw [List.length_set]; exact i3
            · rw [if_neg c2]
              have n2 : (c == 9) = false := by simpa using c2
              refine ⟨fun s' e => by simp at e, fun _ => ?_⟩
              refine TnTo.mk [_, _, _, _, _, _, _, _, _] (BdTo.nm 8 .own (by first | rfl | kernel_rfl) (by kernel_rfl) (rfl : _ = [_, _, _, _, _, _, _, _, _])) ?_
              refine SsTo.stop (StTo.ifF (EtTo.cm (EvTo.nm 8 rfl (by kernel_rfl)) (EvTo.nm 2 rfl (by kernel_rfl)) (by exact CmTo.eq q1) (by exact n1) rfl) (by
                  refine SsTo.stop (StTo.ifF (EtTo.cm (EvTo.nm 8 rfl (by kernel_rfl)) (EvTo.nm 3 rfl (by kernel_rfl)) (by exact CmTo.eq q2) (by exact n2) rfl) (by
                      exact SsTo.bk (r := [_]) rfl)) rfl)) rfl
        · have := hx.2
          rw [Array.all_eq_true'] at this
          exact of_decide_eq_true (this c (Array.mem_toList_iff.mp m))
      refine SsTo.cons (b1 := [_, _, _, _, _, _, _, _]) (StTo.at 0 1 (EvTo.nmf 6 rfl (by kernel_rfl) rfl) rfl (by kernel_rfl) (fl_aWS_n T) (by kernel_rfl) rfl (rfl : _ = [_, _, _, _, _, _, _, _])) ?_
      refine SsTo.cons (b1 := [_, _, _, _, _, _, _, _]) (StTo.at 0 2 (EvTo.nmf 7 rfl (by kernel_rfl) rfl) rfl (by kernel_rfl) (fl_aWS_nt T) (by kernel_rfl) rfl (rfl : _ = [_, _, _, _, _, _, _, _])) ?_
      refine SsTo.cons (b1 := [_, _, _, _, _, _, _, _]) (StTo.at 0 3 (EvTo.tup (EvsTo.cons (fun _ => rfl) (EvTo.bi (f0 := false) (f1 := false) (EvTo.gl (gl_tuple T) (by kernel_rfl)) (EvsTo.cons (fun _ => rfl) (EvTo.nm 4 rfl (by kernel_rfl)) EvsTo.nil) (by exact BiTo.tuple l2 (flatVs_int _))) (EvsTo.cons (fun _ => rfl) (EvTo.nmf 5 rfl (by kernel_rfl) rfl) EvsTo.nil)) (Nat.le_of_ble_eq_true rfl)) rfl (by kernel_rfl) (fl_aWS_norm T) (by kernel_rfl) rfl (rfl : _ = [_, _, _, _, _, _, _, _])) ?_
      refine SsTo.cons (b1 := [_, _, _, _, _, _, _, _]) (StTo.at 0 4 (EvTo.to (v' := .bool (decide (((wsRun x).count.length : Int) ≤ 1))) (EvTo.cm (EvTo.bi (f0 := false) (f1 := false) (EvTo.gl (gl_len T) (by kernel_rfl)) (EvsTo.cons (fun _ => rfl) (EvTo.nm 4 rfl (by kernel_rfl)) EvsTo.nil) (by exact BiTo.lenL l2)) EvTo.cInt (by exact CmTo.le) (by rfl) rfl) (by rw [← len_ints])) rfl (by kernel_rfl) (fl_aWS_is_simple T) (by kernel_rfl) rfl (rfl : _ = [_, _, _, _, _, _, _, _])) ?_
      exact SsTo.dn (r := [_, _, _, _, _, _, _]) rfl

theorem flatVs_str1 {α : Type} {f : α → PySem.Str} : ∀ l : List α, flatVs (l.map fun p => V.str (f p)) = true
  | [] => rfl
  | _ :: r => flatVs_str1 r
structure PatOk (K : Frag) (a : Addr) : Prop where
  ok : ∃ c, PatAt K a c ∧ words.all (freeStr c) = true
theorem ok170 {c : Cx} (T : OfTab c tab3) (I : FnIn c.K 83 st170 .none .none) (P1 : PatOk c.K 48) (P2 : PatOk c.K 53) {al : Bool} : FnOk c 83 al F170 := by
  refine fnOk_of (na := 2) (kwn := [PySem.Str.ofString "name"]) (names := [PySem.Str.ofString "self", PySem.Str.ofString "value", PySem.Str.ofString "name"]) I (by kernel_rfl) (by kernel_rfl) rfl ?_ ?_
  · exact fun name qual doc pm cdv ct an s => len21 fun a b u => BindsTo.of_eq rfl
  · intro args kws r h
    have T : OfTab (c.pin []) tab3 := T.pin
    obtain ⟨c1, p1, r1⟩ := P1.ok
    obtain ⟨c2, p2, r2⟩ := P2.ok
    obtain ⟨v, _, e_, a1_⟩ := on2_some h
    clear h; subst e_
    obtain ⟨x, e_, a2_⟩ := onS_some a1_
    clear a1_; subst e_
    obtain ⟨k, _, e_, a3_⟩ := onK_some a2_
    clear a2_; subst e_
    obtain ⟨nm, e_, h⟩ := onB_some a3_
    clear a3_; subst e_
    · obtain ⟨⟨e_, hx⟩, h2⟩ := ite_some h
      · clear h; subst e_
        cases h2
        have f1 := prt_free r1 hx
        have f2 := prt_free r2 hx
        refine ⟨rfl, rfl, rets ?_⟩
        cases nm
        · show SsTo (c.pin []) (scpOf st170) [(PySem.Str.ofString "self", v, if flatV v then .own else .frz), (PySem.Str.ofString "value", .str x, .own), (PySem.Str.ofString "name", .bool false, .own)] (bodOf st170) _ _
          refine SsTo.stop (StTo.ifT (EtTo.cm (EvTo.bi (f0 := false) (f1 := false) (EvTo.gl (gl_type T) (by kernel_rfl)) (EvsTo.cons (fun _ => rfl) (EvTo.nm 1 rfl (by kernel_rfl)) EvsTo.nil) (by first | exact BiTo.typeS | exact BiTo.typeL)) (EvTo.gl (gl_str T) (by kernel_rfl)) (by first | assumption | exact CmTo.is (by first | exact IsTo.bool | exact IsTo.type | exact IsTo.noneN | exact IsTo.strN | exact IsTo.intN | exact IsTo.lstN)) (by first | rfl | assumption | (simp; done) | (simp; omega)) rfl) (by
              refine SsTo.cons (b1 := [_, _, _, _]) (StTo.put 3 (EvTo.ifF (EtTo.vl (EvTo.nm 2 rfl (by kernel_rfl)) (by first | exact TrTo.bool | exact TrTo.int | exact TrTo.none) (by first | rfl | assumption | (simp; done) | (simp; omega)) (fun _ _ => rfl)) (EvTo.gl (gl_value_disallowed_re T) (by kernel_rfl))) (by kernel_rfl) rfl (rfl : _ = [_, _, _, _])) ?_
              refine SsTo.cons (b1 := [_, _, _, _]) (StTo.ifF (EtTo.vl (EvTo.search (f0 := false) (f1 := false) (fun _ => rfl) rfl rfl (EvTo.nm 3 rfl (by kernel_rfl)) p2 f2 (EvsTo.cons (fun _ => rfl) (EvTo.nm 1 rfl (by kernel_rfl)) EvsTo.nil)) (by first | exact TrTo.bool | exact TrTo.int | exact TrTo.none) (by first | rfl | assumption | (simp; done) | (simp; omega)) (fun _ _ => rfl)) (by
                  exact SsTo.nil)) ?_
              exact SsTo.rt (RtTo.nm 1 rfl (by kernel_rfl)))) rfl
        · show SsTo (c.pin []) (scpOf st170) [(PySem.Str.ofString "self", v, if flatV v then .own else .frz), (PySem.Str.ofString "value", .str x, .own), (PySem.Str.ofString "name", .bool true, .own)] (bodOf st170) _ _
          refine SsTo.stop (StTo.ifT (EtTo.cm (EvTo.bi (f0 := false) (f1 := false) (EvTo.gl (gl_type T) (by kernel_rfl)) (EvsTo.cons (fun _ => rfl) (EvTo.nm 1 rfl (by kernel_rfl)) EvsTo.nil) (by first | exact BiTo.typeS | exact BiTo.typeL)) (EvTo.gl (gl_str T) (by kernel_rfl)) (by first | assumption | exact CmTo.is (by first | exact IsTo.bool | exact IsTo.type | exact IsTo.noneN | exact IsTo.strN | exact IsTo.intN | exact IsTo.lstN)) (by first | rfl | assumption | (simp; done) | (simp; omega)) rfl) (by
              refine SsTo.cons (b1 := [_, _, _, _]) (StTo.put 3 (EvTo.ifT (EtTo.vl (EvTo.nm 2 rfl (by kernel_rfl)) (by first | exact TrTo.bool | exact TrTo.int | exact TrTo.none) (by first | rfl | assumption | (simp; done) | (simp; omega)) (fun _ _ => rfl)) (EvTo.gl (gl_name_disallowed_re T) (by kernel_rfl))) (by kernel_rfl) rfl (rfl : _ = [_, _, _, _])) ?_
              refine SsTo.cons (b1 := [_, _, _, _]) (StTo.ifF (EtTo.vl (EvTo.search (f0 := false) (f1 := false) (fun _ => rfl) rfl rfl (EvTo.nm 3 rfl (by kernel_rfl)) p1 f1 (EvsTo.cons (fun _ => rfl) (EvTo.nm 1 rfl (by kernel_rfl)) EvsTo.nil)) (by first | exact TrTo.bool | exact TrTo.int | exact TrTo.none) (by first | rfl | assumption | (simp; done) | (simp; omega)) (fun _ _ => rfl)) (by
                  exact SsTo.nil)) ?_
              exact SsTo.rt (RtTo.nm 1 rfl (by kernel_rfl)))) rfl

noncomputable def escMk (x : PySem.Str) (esc : Bool) : Loc := [(PySem.Str.ofString "addr", .str x, .own), (PySem.Str.ofString "pos", .int 0, .own), (PySem.Str.ofString "escape", .bool esc, .own)]
noncomputable def escMk' (x : PySem.Str) (esc : Bool) : Loc := [(PySem.Str.ofString "addr", .str x, .own), (PySem.Str.ofString "escape", .bool esc, .own)]
theorem ok111 {c : Cx} (T : OfTab c tab3) (hq : c.q = true) (I : FnIn c.K 193 st111 .none .none) : GenOk c 193 F111 := by
  refine genOk_of hq (names := [PySem.Str.ofString "addr"]) I (by kernel_rfl) (by kernel_rfl) ?_ ?_
  · intro name qual doc pm cdv ct an s us h1
    obtain ⟨a, rfl⟩ := List.length_eq_one_iff.mp h1
    exact BindsTo.of_eq rfl
  · intro args ys h
    have T : OfTab (c.pin []) tab3 := T.pin
    obtain ⟨_, e_, a1_⟩ := on1_some h
    clear h; subst e_
    obtain ⟨x, e_, h⟩ := onS_some a1_
    clear a1_; subst e_
    · obtain ⟨hC, h⟩ := ite_some h
      · obtain ⟨hx, he⟩ := hC
        cases h
        refine ⟨rfl, ?_, rfl⟩
        show TpTo (c.pin []) (scpOf st111) (bodOf st111) [(PySem.Str.ofString "addr", .str x, .own)] _
        refine TpTo.const (v := .int 0) (b1 := [(PySem.Str.ofString "addr", .str x, .own), (PySem.Str.ofString "pos", .int 0, .own)]) (by kernel_rfl) rfl rfl (setL_at 1 (by kernel_rfl) rfl) ?_
        refine TpTo.const (v := .bool false) (b1 := escMk x false) (by kernel_rfl) rfl rfl (setL_at 2 (by kernel_rfl) rfl) ?_
        rw [← List.append_nil (foldG escG x.cps.toList.zipIdx false).2]
        refine TpTo.loop (b0 := escMk' x false) (b1 := escMk' x (foldG escG x.cps.toList.zipIdx false).1) (b2 := escMk' x (foldG escG x.cps.toList.zipIdx false).1) (x := x) (st := .own) (by kernel_rfl) (by kernel_rfl) (by kernel_rfl) (by kernel_rfl) (gl_enumerate T) (nth_lookup (i := 0) rfl (by kernel_rfl)) ?_ rfl ?_ ?_
        · exact sub_mid (b1 := [(PySem.Str.ofString "addr", .str x, .own)]) (b2 := [(PySem.Str.ofString "escape", .bool false, .own)]) (by kernel_rfl)
        · refine LgTo.fG (f := fun p : Nat × Nat => V.tup [.int (p.2 : Int), .str ⟨#[p.1]⟩]) (mk := escMk' x) (g := escG) (fun _ => rfl) x.cps.toList.zipIdx false fun esc p m => ?_
          obtain ⟨c, i⟩ := p
          have hc : c < 1114112 := by
            have h1 := List.mem_zipIdx m
            rw [Array.all_eq_true'] at hx
            refine of_decide_eq_true (hx c (Array.mem_toList_iff.mp ?_))
            have := h1.2.2
            rw [this]
            exact List.getElem_mem _
          have q1 : eqV (.str ⟨#[c]⟩) (.str (PySem.Str.ofString "\\")) = some (c == 92) := by rw [eqV_str (chr_ok hc) (by decide +kernel), bs_str, str_one]
          have q2 : (PySem.Str.ofString "\\").length + (⟨#[c]⟩ : PySem.Str).length ≤ 1000000 := by
            have : (PySem.Str.ofString "\\").length = 1 := by decide +kernel
            rw [this]
            show 1 + 1 ≤ 1000000
            decide
          unfold escG
          cases esc
          · by_cases c1 : c = 92
            · subst c1
              have n1 : ((92 : Nat) == 92) = true := rfl
              rw [if_neg (by decide), if_pos rfl]
              exact ⟨[_, _, _, _], [_, _], (BdTo.pr (by exact hq) 2 3 .own .own (by first | rfl | kernel_rfl) (by first | rfl | kernel_rfl) (by kernel_rfl) (rfl : _ = [_, _, _]) (by kernel_rfl) (rfl : _ = [_, _, _, _])), rfl, (GsTo.ifF (EtTo.vl (EvTo.nm 1 rfl (by kernel_rfl)) (by exact TrTo.bool) (by first | rfl | assumption | (simp; done) | (simp; omega)) (fun _ _ => rfl)) (GsTo.ifT (EtTo.cm (EvTo.nm 3 rfl (by kernel_rfl)) EvTo.cStr (by exact CmTo.eq q1) (by exact n1) rfl) (GsTo.step (b1 := [_, _, _, _]) (StTo.put 1 EvTo.cBool (by kernel_rfl) rfl (rfl : _ = [_, _, _, _])) rfl (GsTo.nil _)) (GsTo.nil _) rfl) (GsTo.nil _) rfl)⟩
            · have n1 : (c == 92) = false := by simpa using c1
              rw [if_neg (by decide), if_neg c1]
              exact ⟨[_, _, _, _], [_, _], (BdTo.pr (by exact hq) 2 3 .own .own (by first | rfl | kernel_rfl) (by first | rfl | kernel_rfl) (by kernel_rfl) (rfl : _ = [_, _, _]) (by kernel_rfl) (rfl : _ = [_, _, _, _])), rfl, (GsTo.ifF (EtTo.vl (EvTo.nm 1 rfl (by kernel_rfl)) (by exact TrTo.bool) (by first | rfl | assumption | (simp; done) | (simp; omega)) (fun _ _ => rfl)) (GsTo.ifF (EtTo.cm (EvTo.nm 3 rfl (by kernel_rfl)) EvTo.cStr (by exact CmTo.eq q1) (by exact n1) rfl) (GsTo.yld (EvTo.tup (EvsTo.cons (fun _ => rfl) (EvTo.nm 2 rfl (by kernel_rfl)) (EvsTo.cons (fun _ => rfl) (EvTo.nm 3 rfl (by kernel_rfl)) EvsTo.nil)) (Nat.le_of_ble_eq_true rfl)) rfl (GsTo.nil _)) (GsTo.nil _) rfl) (GsTo.nil _) rfl)⟩
          · rw [if_pos rfl]
            exact ⟨[_, _, _, _], [_, _], (BdTo.pr (by exact hq) 2 3 .own .own (by first | rfl | kernel_rfl) (by first | rfl | kernel_rfl) (by kernel_rfl) (rfl : _ = [_, _, _]) (by kernel_rfl) (rfl : _ = [_, _, _, _])), rfl, (GsTo.ifT (EtTo.vl (EvTo.nm 1 rfl (by kernel_rfl)) (by exact TrTo.bool) (by first | rfl | assumption | (simp; done) | (simp; omega)) (fun _ _ => rfl)) (GsTo.yld (EvTo.tup (EvsTo.cons (fun _ => rfl) (EvTo.nm 2 rfl (by kernel_rfl)) (EvsTo.cons (fun _ => rfl) (EvTo.bin (f1 := false) (f2 := false) EvTo.cStr (EvTo.nm 3 rfl (by kernel_rfl)) (by exact OpTo.addS q2)) EvsTo.nil)) (Nat.le_of_ble_eq_true rfl)) rfl (GsTo.step (b1 := [_, _, _, _]) (StTo.put 1 EvTo.cBool (by kernel_rfl) rfl (rfl : _ = [_, _, _, _])) rfl (GsTo.nil _))) (GsTo.nil _) rfl)⟩
        · rw [he]
          exact GsTo.ifF (EtTo.vl (EvTo.nm 1 rfl (by kernel_rfl)) (by first | exact TrTo.bool | exact TrTo.int | exact TrTo.none) (by first | rfl | assumption | (simp; done) | (simp; omega)) (fun _ _ => rfl)) (GsTo.nil _) (GsTo.nil _) rfl

theorem StTo.mv {c : Cx} {sc : Scope} {b b1 b' : Loc} {x y a : PySem.Str} {C : Addr} {fs : List (PySem.Str × V)} {v : V} {p p' q pos : Pos} (i j k : Nat) (hy : nthA i b = some (y, v, .own)) (hx : nthA j b = some (x, .inst C fs, .own)) (hk : (nmOk i b y && plOk j b x && !(y == x) && putA k fs a && decide (fs.length ≤ 900) && putA i (setA j b (x, .inst C (setA k fs (a, v)), .own)) y) = true) (hf : c.Γ.fld C a = true) (e1 : setA j b (x, .inst C (setA k fs (a, v)), .own) = b1) (e2 : setA i b1 (y, v, .view) = b') : StTo c sc b (.Assign [.Attribute (.Name x p) a p'] (.Name y q) pos) .next b' := by
  simp only [Bool.and_eq_true, Bool.not_eq_true'] at hk
  obtain ⟨⟨⟨⟨⟨k1, k2⟩, k3⟩, k4⟩, k5⟩, k6⟩ := hk
  obtain ⟨a1, a2⟩ := nmOk_of hy k1
  obtain ⟨p1, p2, p3, p4⟩ := plOk_of k2 hx e1
  refine .move a1 a2 p1 p2 k3 p3 hf k5 ?_
  rw [setF_of k4, p4, setL_of (e1 ▸ k6)]
  exact e2
noncomputable def DefNone (K : Frag) (T : Addr) : Prop := ∃ o n, K.lookup T = some o ∧ o.data = .seq #[.none] n
theorem ok271 {c : Cx} {Td : Addr} (T : OfTab c tab3) (H : ClsIn c.K aHD 76) (I : FnIn c.K 76 st163 (.ref Td) .none) (D : DefNone c.K Td) : FnOk c aHD true F271 := by
  refine clsOk_of H I (by kernel_rfl) (by kernel_rfl) fun args kws r h => ?_
  obtain ⟨_, e_, a1_⟩ := on1_some h
  clear h; subst e_
  obtain ⟨e_, a2_⟩ := on0_some a1_
  clear a1_; subst e_
  obtain ⟨l, e_, h⟩ := onL_some a2_
  clear a2_; subst e_
  obtain ⟨he, h⟩ := ite_some h
  cases List.isEmpty_iff.mp he
  · cases h
    refine ⟨rfl, fun s a dx us fp r0 nd hg hal r1 lo => ?_⟩
    have T : OfTab (c.pin [a]) tab3 := T.pin
    have hal := hal rfl
    revert hg hal
    refine VRs.consE r1 fun u us g g' ra rs hg hal => ?_
    obtain ⟨rfl, rfl⟩ := rs.nilE
    revert hg hal
    refine VR.lstE ra fun d us' n f q rs hg hal => ?_
    obtain ⟨rfl, rfl⟩ := rs.nilE
    have da : d ∉ [a, dx] := fun m => (hg d m).2 (.head _)
    obtain ⟨FP, N⟩ := entM_ok (h₀ := c.h₀) (sc := scpOf st163) (xs := []) r0 nd (fun b m => (hg b m).1) .nil rfl (by kernel_rfl)
    have N2 := ent_more N (pn := PySem.Str.ofString "headers") (d := d) (v := .lst []) (by
      show _ ∉ [PySem.Str.ofString "self"]
      decide +kernel) (by
      rw [show (scpOf st163).names.lookup (PySem.Str.ofString "headers") = some .local by kernel_rfl]; exact .inl rfl) (.lst q .nil) (st := .own) (.inr ⟨rfl, da, rfl, hal d (.head _), fun z y e m => ?_⟩)
    · refine ⟨_, _, _, .next, [(PySem.Str.ofString "self", hdV [], .own)], BndTo.of (dV := .ref Td) (kV := .none) (fun name qual doc pm cdv ct an => ?_) N2, fun b m => ?_, ?_, rfl, rfl⟩
      · obtain ⟨o, n', d1, d2⟩ := D
        exact binds_K (c.ok.base.kin.keeps lo) rfl d1 d2 rfl rfl
      · rcases List.mem_append.mp m with m | m
        · exact .inl m
        · exact .inr ⟨rfl, m⟩
      · show SsTo (c.pin [a]) (scpOf st163) [(PySem.Str.ofString "self", .inst aHD [], .own), (PySem.Str.ofString "headers", .lst [], .own)] (bodOf st163) _ _
        refine SsTo.cons (b1 := [_, _]) (StTo.same (by kernel_rfl) (PkTo.ifT (EtTo.cm (EvTo.nm 1 rfl (by kernel_rfl)) EvTo.cNone (by first | assumption | exact CmTo.isNot (by first | exact IsTo.bool | exact IsTo.type | exact IsTo.noneN | exact IsTo.strN | exact IsTo.intN | exact IsTo.lstN)) (by first | rfl | assumption | (simp; done) | (simp; omega)) rfl)) (nth_lookup (i := 1) rfl (by kernel_rfl)) (by kernel_rfl) rfl) ?_
        refine SsTo.cons (b1 := [_, _]) (StTo.ifF (EtTo.cm (EvTo.bi (f0 := false) (f1 := false) (EvTo.gl (gl_type T) (by kernel_rfl)) (EvsTo.cons (fun _ => rfl) (EvTo.nm 1 rfl (by kernel_rfl)) EvsTo.nil) (by first | exact BiTo.typeS | exact BiTo.typeL)) (EvTo.gl (gl_list T) (by kernel_rfl)) (by first | assumption | exact CmTo.isNot (by first | exact IsTo.bool | exact IsTo.type | exact IsTo.noneN | exact IsTo.strN | exact IsTo.intN | exact IsTo.lstN)) (by first | rfl | assumption | (simp; done) | (simp; omega)) rfl) (by
            exact SsTo.nil)) ?_
        refine SsTo.cons (b1 := [_, _]) (StTo.mv 1 0 0 rfl rfl (by kernel_rfl) (fl_aHD_headers T) rfl rfl) ?_
        refine SsTo.cons (b1 := [_, _]) (StTo.ifT (EtTo.vl EvTo.cBool (by first | exact TrTo.bool | exact TrTo.int | exact TrTo.none) (by first | rfl | assumption | (simp; done) | (simp; omega)) (fun _ _ => rfl)) (by
            refine SsTo.cons (b1 := [_, _]) (StTo.for (FsTo.nil (fr := false) (fun _ _ => rfl) (EvTo.nm 1 rfl (by kernel_rfl)) ItTo.lst) (by kernel_rfl) (LpTo.nil _)) ?_
            exact SsTo.nil)) ?_
        exact SsTo.dn (r := [_]) rfl
    · have e' : [(PySem.Str.ofString "self", V.inst aHD [], Sta.own)].lookup z = some y := e
      rw [List.lookup_cons] at e'
      cases q : z == PySem.Str.ofString "self" with
      | true =>
        rw [q] at e'; cases e'
        exact da ((N.own z _ e).2 d m)
      | false => rw [q] at e'; cases e'

theorem c170 (v : V) (y : PySem.Str) (q : Bool) (h : prt y = true) : F170 [v, .str y] [(PySem.Str.ofString "name", .bool q)] = some (.str y) := by
  show (if _ then _ else _) = _
  rw [if_pos ⟨rfl, h⟩]
theorem hdrs_app (hs : List (PySem.Str × PySem.Str)) (k x : PySem.Str) : hdrs hs ++ [.tup [.str k, .str x]] = hdrs (hs ++ [(k, x)]) := by unfold hdrs; rw [List.map_append]; rfl
theorem hdV_app (hs : List (PySem.Str × PySem.Str)) (k x : PySem.Str) : .inst aHD [(PySem.Str.ofString "_headers", .lst (hdrs hs ++ [.tup [.str k, .str x]]))] = hdV (hs ++ [(k, x)]) := by rw [hdrs_app]; rfl
theorem ok268 {c : Cx} (T : OfTab c tab3) (hq : c.q = true) (I : FnIn c.K 179 st268 .none .none) (e170 : ∀ vs ks, c.Γ.fn (.ref 83) vs ks = F170 vs ks) : EffOk c 179 F268 := by
  refine effOk_of I (by kernel_rfl) (by kernel_rfl) fun C fs vs y' h => ?_
  obtain ⟨_, _, e_, a1_⟩ := on2_some h
  clear h; subst e_
  obtain ⟨k, e_, a2_⟩ := onS_some a1_
  clear a1_; subst e_
  obtain ⟨x, e_, h⟩ := onS_some a2_
  clear a2_; subst e_
  · obtain ⟨hs, e1, h⟩ := Option.bind_eq_some_iff.mp h
    obtain ⟨hz, h⟩ := ite_some h
    · obtain ⟨z1, z2, z3, z4, z5⟩ := hz
      cases h
      have e1 := hdOf_ok e1
      rw [e1]
      intro s a us g r0 ng hg r1 lo
      have T : OfTab (c.pin [a]) tab3 := T.pin
      have l1 : (hdrs hs).length ≤ 1000000 := by unfold hdrs; rw [List.length_map]; omega
      obtain ⟨FP, hb⟩ := bndD (c := c) (st := st268) (dV := .none) (kV := .none) (names := [PySem.Str.ofString "_name", PySem.Str.ofString "_value"]) (pn := PySem.Str.ofString "_params") (by kernel_rfl) r0 ng hg lo r1 rfl fun name qual doc pm cdv ct an A E Q s u us h1 hq => by
        obtain ⟨b, d, rfl⟩ := len2_ex h1
        show wpAny _ _ (alloc W.emptyDict >>= fun d => pure _) _ _ _
        exact wpAny_bind (wpAny_alloc (wpAny_pure hq))
      rw [← hdV_app]
      refine ⟨_, FP, .next, [(PySem.Str.ofString "self", .inst aHD [(PySem.Str.ofString "_headers", .lst (hdrs hs ++ [.tup [.str k, .str x]]))], .own)], .none, hb, ?_, rfl, rfl⟩
      show SsTo (c.pin [a]) (scpOf st268) [(PySem.Str.ofString "self", .inst aHD [(PySem.Str.ofString "_headers", .lst (hdrs hs))], .own), (PySem.Str.ofString "_name", .str k, .own), (PySem.Str.ofString "_value", .str x, .own), (PySem.Str.ofString "_params", .dic, .frz)] (bodOf st268) _ _
      refine SsTo.cons (b1 := [_, _, _, _, _]) (StTo.put 4 (EvTo.list EvsTo.nil (Nat.le_of_ble_eq_true rfl)) (by kernel_rfl) rfl (rfl : _ = [_, _, _, _, _])) ?_
      refine SsTo.cons (b1 := [_, _, _, _, _]) (StTo.ifT (EtTo.cm (EvTo.nm 2 rfl (by kernel_rfl)) EvTo.cNone (by first | assumption | exact CmTo.isNot (by first | exact IsTo.bool | exact IsTo.type | exact IsTo.noneN | exact IsTo.strN | exact IsTo.intN | exact IsTo.lstN)) (by first | rfl | assumption | (simp; done) | (simp; omega)) rfl) (by
          refine SsTo.cons (b1 := [_, _, _, _, _]) (StTo.put 2 (EvTo.mt (fun _ => rfl) rfl (EvTo.nm 0 rfl (by kernel_rfl)) (by exact mt_aHD_convert_string_type T rfl) (EvsTo.cons (fun _ => rfl) (EvTo.nm 2 rfl (by kernel_rfl)) EvsTo.nil) (EvkTo.cons (f1 := false) EvTo.cBool EvkTo.nil) (by exact (e170 _ _).trans (c170 _ _ _ z2))) (by kernel_rfl) rfl (rfl : _ = [_, _, _, _, _])) ?_
          refine SsTo.cons (b1 := [_, _, _, _, _]) (StTo.app (fun _ => rfl) rfl (fun _ => rfl) (PlTo.nm 4 rfl (by kernel_rfl) (rfl : _ = [_, _, _, _, _])) (EvTo.nmf 2 rfl (by kernel_rfl) rfl) (by decide)) ?_
          exact SsTo.nil)) ?_
      refine SsTo.cons (b1 := [_, _, _, _, _]) (StTo.items0 (by exact hq) (nth_lookup (i := 3) rfl (by kernel_rfl)) (by kernel_rfl) rfl) ?_
      refine SsTo.cons (b1 := [_, _, _, _, _]) (StTo.app (fun _ => rfl) rfl (fun _ => rfl) (PlTo.fl 0 0 rfl (by kernel_rfl) (fl_aHD_headers T) rfl (by kernel_rfl) (rfl : _ = [_, _, _, _, _])) (EvTo.tup (EvsTo.cons (fun _ => rfl) (EvTo.mt (fun _ => rfl) rfl (EvTo.nm 0 rfl (by kernel_rfl)) (by exact mt_aHD_convert_string_type T rfl) (EvsTo.cons (fun _ => rfl) (EvTo.nm 1 rfl (by kernel_rfl)) EvsTo.nil) (EvkTo.cons (f1 := false) EvTo.cBool EvkTo.nil) (by exact (e170 _ _).trans (c170 _ _ _ z1))) (EvsTo.cons (fun _ => rfl) (EvTo.to (v' := .str x) (EvTo.sm (fun _ => rfl) rfl EvTo.cStr SmTo.join (EvsTo.cons (fun _ => rfl) (EvTo.nm 4 rfl (by kernel_rfl)) EvsTo.nil) (by exact BiTo.join (xs := [x]) z4)) (by rw [z5])) EvsTo.nil)) (Nat.le_of_ble_eq_true rfl)) (by exact l1)) ?_
      exact SsTo.dn (r := [_, _, _, _]) rfl

noncomputable def optV : Option Int → V
  | none => .none
  | some i => .int i
noncomputable abbrev SP := Int × Option Int × List PySem.Str
noncomputable def stG (x : PySem.Str) (s : SP) (p : Int × PySem.Str) : SP :=
  if p.2 = PySem.Str.ofString "\"" then
    (match s.2.1 with
    | none => (s.1, some p.1, s.2.2)
    | some o => (p.1 + 1, none, if s.1 = o then s.2.2 else s.2.2 ++ [Txt.slice x (some s.1) (some o)]))
  else s
noncomputable def stQ (x : PySem.Str) : SP := (escQ false x.cps.toList.zipIdx).foldl (stG x) (0, none, [])
noncomputable def stL (x : PySem.Str) : List PySem.Str := if (stQ x).1 < (x.length : Int) then (stQ x).2.2 ++ [Txt.slice x (some (stQ x).1) none] else (stQ x).2.2
noncomputable def stS (x : PySem.Str) : PySem.Str := if 34 ∈ x.cps.toList then Txt.join (PySem.Str.ofString "") (stL x) else x
noncomputable def F118' (x : PySem.Str) : Option V := if 34 ∈ x.cps.toList → x.cps.size ≤ 1000 ∧ (F111 [.str x]).isSome = true ∧ (escQ false x.cps.toList.zipIdx).all (fun p => PyData.strOk p.2) = true ∧ JoinOk (PySem.Str.ofString "") (stL x) = true then some (.str (stS x)) else none
noncomputable def F118q : List V → List (PySem.Str × V) → Option V := fun a k => on1 a fun v => on0 k (onS v F118')
noncomputable def stMk (x : PySem.Str) (s : SP) : Loc := [(PySem.Str.ofString "addr", .str x, .own), (PySem.Str.ofString "start", .int s.1, .own), (PySem.Str.ofString "open_pos", optV s.2.1, .own), (PySem.Str.ofString "result", .lst (s.2.2.map .str), .own)]
theorem F111_q {x : PySem.Str} {ys : List V} (h : F111 [.str x] = some ys) : ys = (escQ false x.cps.toList.zipIdx).map tpV := by
  rw [← escQ_eq]
  exact (Option.some.inj (ite_some h).2).symm
theorem escQ_len : ∀ (is : List (Nat × Nat)) (esc : Bool), (escQ esc is).length ≤ is.length
  | [], esc => Nat.le_refl _
  | p :: r, true => Nat.succ_le_succ (escQ_len r false)
  | p :: r, false => by
    rw [escQ_c]
    split
    · exact Nat.le_succ_of_le (escQ_len r true)
    · exact Nat.succ_le_succ (escQ_len r false)
theorem stQ_len (x : PySem.Str) : ∀ (l : List (Int × PySem.Str)) (s : SP), (l.foldl (stG x) s).2.2.length ≤ s.2.2.length + l.length
  | [], s => Nat.le_refl _
  | p :: r, s => by
    refine Nat.le_trans (stQ_len x r _) ?_
    have : (stG x s p).2.2.length ≤ s.2.2.length + 1 := by
      unfold stG
      split
      · split
        · exact Nat.le_succ _
        · dsimp only
          split
          · exact Nat.le_succ _
          · rw [List.length_append]; exact Nat.le_refl _
      · exact Nat.le_succ _
    rw [List.length_cons]
    omega
theorem ok118 {c : Cx} (T : OfTab c tab3) (hq : c.q = true) (I : FnIn c.K 200 st118 .none .none) (e111 : ∀ vs, c.Γ.gen (.ref 193) vs = F111 vs) {al : Bool} : FnOk c 200 al F118q := by
  refine fnOk_of (na := 1) (kwn := []) (names := [PySem.Str.ofString "addr"]) I (by kernel_rfl) (by kernel_rfl) rfl ?_ ?_
  · exact fun name qual doc pm cdv ct an s => len10 fun a => BindsTo.of_eq rfl
  · intro args kws r h
    have T : OfTab (c.pin []) tab3 := T.pin
    obtain ⟨_, e_, a1_⟩ := on1_some h
    clear h; subst e_
    obtain ⟨e_, a2_⟩ := on0_some a1_
    clear a1_; subst e_
    obtain ⟨x, e_, h⟩ := onS_some a2_
    clear a2_; subst e_
    obtain ⟨hx, h⟩ := ite_some h
    cases h
    refine ⟨rfl, rfl, rets ?_⟩
    show SsTo (c.pin []) (scpOf st118) [(PySem.Str.ofString "addr", .str x, .own)] (bodOf st118) _ _
    have q0 := StrLaws.found_one x 34
    have qs : (⟨#[34]⟩ : PySem.Str) = PySem.Str.ofString "\"" := by decide +kernel
    rw [qs] at q0
    unfold stS
    by_cases c0 : 34 ∈ x.cps.toList
    · obtain ⟨h1, h2, h3, h4⟩ := hx c0
      have d0 : (!(!(Builtin.Str.occurrences x (PySem.Str.ofString "\"") 0 x.length 1).isEmpty)) = false := by rw [q0]; simpa using c0
      obtain ⟨ys, h2⟩ := Option.isSome_iff_exists.mp h2
      have ey := F111_q h2
      subst ey
      have sz : x.length ≤ sizeLine := Nat.le_trans h1 (by decide)
      rw [if_pos c0]
      refine SsTo.cons (b1 := [_]) (StTo.ifF (EtTo.cm EvTo.cStr (EvTo.nm 0 rfl (by kernel_rfl)) (by first | assumption | exact CmTo.notInS) (by exact d0) rfl) (by
          exact SsTo.nil)) ?_
      refine SsTo.cons (b1 := [_, _]) (StTo.put 1 EvTo.cInt (by kernel_rfl) rfl (rfl : _ = [_, _])) ?_
      refine SsTo.cons (b1 := [_, _, _]) (StTo.put 2 EvTo.cNone (by kernel_rfl) rfl (rfl : _ = [_, _, _])) ?_
      refine SsTo.cons (b1 := [_, _, _, _]) (StTo.put 3 (EvTo.list EvsTo.nil (Nat.le_of_ble_eq_true rfl)) (by kernel_rfl) rfl (rfl : _ = [_, _, _, _])) ?_
      refine SsTo.cons (b1 := (stMk x (stQ x))) (StTo.for (FsTo.gen (f0 := false) (f1 := false) (EvTo.gl (gl_iter_escaped_chars T) (by kernel_rfl)) (EvsTo.cons (fun _ => rfl) (EvTo.nm 0 rfl (by kernel_rfl)) EvsTo.nil) rfl (by exact (e111 _).trans h2)) (by kernel_rfl) ?_) ?_
      · refine (LpTo.fL (σ := SP) (ι := Int × PySem.Str) (f := tpV) (mk := stMk x) (g := stG x) (I := fun s r => s.2.2.length + r.length ≤ 1000 ∧ ∀ p ∈ r, PyData.strOk p.2 = true) (fun s p r hI => ?_) (escQ false x.cps.toList.zipIdx) (0, none, []) ⟨?_, fun p m => List.all_eq_true.mp h3 p m⟩).1
        · obtain ⟨i1, i2⟩ := hI
          obtain ⟨i, ch⟩ := p
          obtain ⟨s1, op, res⟩ := s
          have hc := i2 _ (.head _)
          have q1 := eqV_str hc (c := PySem.Str.ofString "\"") (by decide +kernel)
          dsimp only at q1 i1
          rw [List.length_cons] at i1
          have lz : (res.map V.str).length ≤ 1000000 := by rw [List.length_map]; omega
          unfold stG tpV
          dsimp only
          by_cases c1 : ch = PySem.Str.ofString "\""
          · have d1 : (ch == PySem.Str.ofString "\"") = true := by simpa using c1
            rw [if_pos c1]
            cases op with
            | none =>
              refine ⟨?_, by first | omega | (dsimp only; omega), fun p m => i2 p (.tail _ m)⟩
              refine TnTo.mk [_, _, _, _, _, _] (BdTo.pr (by exact hq) 4 5 .own .own (by first | rfl | kernel_rfl) (by first | rfl | kernel_rfl) (by kernel_rfl) (rfl : _ = [_, _, _, _, _]) (by kernel_rfl) (rfl : _ = [_, _, _, _, _, _])) ?_
              refine SsTo.cons (b1 := [_, _, _, _, _, _]) (StTo.ifT (EtTo.cm (EvTo.nm 5 rfl (by kernel_rfl)) EvTo.cStr (by exact CmTo.eq q1) (by exact d1) rfl) (by
                  refine SsTo.cons (b1 := [_, _, _, _, _, _]) (StTo.ifT (EtTo.cm (EvTo.nm 2 rfl (by kernel_rfl)) EvTo.cNone (by first | assumption | exact CmTo.is (by first | exact IsTo.bool | exact IsTo.type | exact IsTo.noneN | exact IsTo.strN | exact IsTo.intN | exact IsTo.lstN)) (by first | rfl | assumption | (simp; done) | (simp; omega)) rfl) (by
                      refine SsTo.cons (b1 := [_, _, _, _, _, _]) (StTo.put 2 (EvTo.nmf 4 rfl (by kernel_rfl) rfl) (by kernel_rfl) rfl (rfl : _ = [_, _, _, _, _, _])) ?_
                      exact SsTo.nil)) ?_
                  exact SsTo.nil)) ?_
              exact SsTo.dn (r := [_, _]) rfl
            | some q =>
              dsimp only
              by_cases c3 : s1 = q
              · have d3 : (!(s1 == q)) = false := by simpa using c3
                rw [if_pos c3]
                refine ⟨?_, by first | omega | (dsimp only; omega), fun p m => i2 p (.tail _ m)⟩
                refine TnTo.mk [_, _, _, _, _, _] (BdTo.pr (by exact hq) 4 5 .own .own (by first | rfl | kernel_rfl) (by first | rfl | kernel_rfl) (by kernel_rfl) (rfl : _ = [_, _, _, _, _]) (by kernel_rfl) (rfl : _ = [_, _, _, _, _, _])) ?_
                refine SsTo.cons (b1 := [_, _, _, _, _, _]) (StTo.ifT (EtTo.cm (EvTo.nm 5 rfl (by kernel_rfl)) EvTo.cStr (by exact CmTo.eq q1) (by exact d1) rfl) (by
                    refine SsTo.cons (b1 := [_, _, _, _, _, _]) (StTo.ifF (EtTo.cm (EvTo.nm 2 rfl (by kernel_rfl)) EvTo.cNone (by first | assumption | exact CmTo.is (by first | exact IsTo.bool | exact IsTo.type | exact IsTo.noneN | exact IsTo.strN | exact IsTo.intN | exact IsTo.lstN)) (by first | rfl | assumption | (simp; done) | (simp; omega)) rfl) (by
                        refine SsTo.cons (b1 := [_, _, _, _, _, _]) (StTo.ifF (EtTo.cm (EvTo.nm 1 rfl (by kernel_rfl)) (EvTo.nm 2 rfl (by kernel_rfl)) (by exact CmTo.neI) (by exact d3) rfl) (by
                            exact SsTo.nil)) ?_
                        refine SsTo.cons (b1 := [_, _, _, _, _, _]) (StTo.put 1 (EvTo.bin (f1 := false) (f2 := false) (EvTo.nm 4 rfl (by kernel_rfl)) EvTo.cInt (by first | assumption | exact OpTo.addI | exact OpTo.addS (by first | assumption | omega | rfl))) (by kernel_rfl) rfl (rfl : _ = [_, _, _, _, _, _])) ?_
                        refine SsTo.cons (b1 := [_, _, _, _, _, _]) (StTo.put 2 EvTo.cNone (by kernel_rfl) rfl (rfl : _ = [_, _, _, _, _, _])) ?_
                        exact SsTo.nil)) ?_
                    exact SsTo.nil)) ?_
                exact SsTo.dn (r := [_, _]) rfl
              · have d3 : (!(s1 == q)) = true := by simpa using c3
                rw [if_neg c3]
                refine ⟨?_, by (try dsimp only); rw [List.length_append, List.length_singleton]; omega, fun p m => i2 p (.tail _ m)⟩
                refine TnTo.mk [_, _, _, _, _, _] (BdTo.pr (by exact hq) 4 5 .own .own (by first | rfl | kernel_rfl) (by first | rfl | kernel_rfl) (by kernel_rfl) (rfl : _ = [_, _, _, _, _]) (by kernel_rfl) (rfl : _ = [_, _, _, _, _, _])) ?_
                refine SsTo.cons (b1 := [_, _, _, _, _, _]) (StTo.ifT (EtTo.cm (EvTo.nm 5 rfl (by kernel_rfl)) EvTo.cStr (by exact CmTo.eq q1) (by exact d1) rfl) (by
                    refine SsTo.cons (b1 := [_, _, _, _, _, _]) (StTo.ifF (EtTo.cm (EvTo.nm 2 rfl (by kernel_rfl)) EvTo.cNone (by first | assumption | exact CmTo.is (by first | exact IsTo.bool | exact IsTo.type | exact IsTo.noneN | exact IsTo.strN | exact IsTo.intN | exact IsTo.lstN)) (by first | rfl | assumption | (simp; done) | (simp; omega)) rfl) (by
                        refine SsTo.cons (b1 := [_, _, _, _, _, _]) (StTo.ifT (EtTo.cm (EvTo.nm 1 rfl (by kernel_rfl)) (EvTo.nm 2 rfl (by kernel_rfl)) (by exact CmTo.neI) (by exact d3) rfl) (by
                            refine SsTo.cons (b1 := [_, _, _, _, _, _]) (StTo.app (fun _ => rfl) rfl (fun _ => rfl) (PlTo.nm 3 rfl (by kernel_rfl) (rfl : _ = [_, _, _, _, _, _])) (EvTo.slice (f1 := false) (EvTo.nm 0 rfl (by kernel_rfl)) (EoTo.some (f1 := false) (EvTo.nm 1 rfl (by kernel_rfl))) (EoTo.some (f1 := false) (EvTo.nm 2 rfl (by kernel_rfl))) (by exact SlTo.str sz)) (by exact lz)) ?_
                            exact SsTo.nil)) ?_
                        refine SsTo.cons (b1 := [_, _, _, _, _, _]) (StTo.put 1 (EvTo.bin (f1 := false) (f2 := false) (EvTo.nm 4 rfl (by kernel_rfl)) EvTo.cInt (by first | assumption | exact OpTo.addI | exact OpTo.addS (by first | assumption | omega | rfl))) (by kernel_rfl) rfl (rfl : _ = [_, _, _, _, _, _])) ?_
                        refine SsTo.cons (b1 := [_, _, _, _, _, _]) (StTo.put 2 EvTo.cNone (by kernel_rfl) rfl (rfl : _ = [_, _, _, _, _, _])) ?_
                        exact SsTo.nil)) ?_
                    exact SsTo.nil)) ?_
                exact SsTo.dn (r := [_, _]) (by unfold stMk; dsimp only; rw [List.map_append]; rfl)
          · have d1 : (ch == PySem.Str.ofString "\"") = false := by simpa using c1
            rw [if_neg c1]
            refine ⟨?_, by first | omega | (dsimp only; omega), fun p m => i2 p (.tail _ m)⟩
            refine TnTo.mk [_, _, _, _, _, _] (BdTo.pr (by exact hq) 4 5 .own .own (by first | rfl | kernel_rfl) (by first | rfl | kernel_rfl) (by kernel_rfl) (rfl : _ = [_, _, _, _, _]) (by kernel_rfl) (rfl : _ = [_, _, _, _, _, _])) ?_
            refine SsTo.cons (b1 := [_, _, _, _, _, _]) (StTo.ifF (EtTo.cm (EvTo.nm 5 rfl (by kernel_rfl)) EvTo.cStr (by exact CmTo.eq q1) (by exact d1) rfl) (by
                exact SsTo.nil)) ?_
            exact SsTo.dn (r := [_, _]) rfl
        · have := escQ_len x.cps.toList.zipIdx false
          rw [List.length_zipIdx, show x.cps.toList.length = x.cps.size from Array.length_toList] at this
          dsimp only
          rw [List.length_nil]
          omega
      have lz2 : ((stQ x).2.2.map V.str).length ≤ 1000000 := by
        rw [List.length_map]
        unfold stQ
        refine Nat.le_trans (stQ_len x _ _) ?_
        have := escQ_len x.cps.toList.zipIdx false
        rw [List.length_zipIdx, show x.cps.toList.length = x.cps.size from Array.length_toList] at this
        show 0 + _ ≤ _
        omega
      unfold stL at h4 ⊢
      by_cases c5 : (stQ x).1 < (x.length : Int)
      · have d5 : decide ((stQ x).1 < (x.length : Int)) = true := by simpa using c5
        rw [if_pos c5] at h4 ⊢
        refine SsTo.cons (b1 := [_, _, _, _]) (StTo.ifT (EtTo.cm (EvTo.nm 1 rfl (by kernel_rfl)) (EvTo.bi (f0 := false) (f1 := false) (EvTo.gl (gl_len T) (by kernel_rfl)) (EvsTo.cons (fun _ => rfl) (EvTo.nm 0 rfl (by kernel_rfl)) EvsTo.nil) (by exact BiTo.lenS sz)) (by exact CmTo.lt) (by exact d5) rfl) (by
            refine SsTo.cons (b1 := [_, _, _, _]) (StTo.app (fun _ => rfl) rfl (fun _ => rfl) (PlTo.nm 3 rfl (by kernel_rfl) (rfl : _ = [_, _, _, _])) (EvTo.slice (f1 := false) (EvTo.nm 0 rfl (by kernel_rfl)) (EoTo.some (f1 := false) (EvTo.nm 1 rfl (by kernel_rfl))) EoTo.none (by exact SlTo.str sz)) (by exact lz2)) ?_
            exact SsTo.nil)) ?_
        exact SsTo.rt (RtTo.fresh (EvTo.sm (fun _ => rfl) rfl EvTo.cStr SmTo.join (EvsTo.cons (fun _ => rfl) (EvTo.nm 3 rfl (by kernel_rfl)) EvsTo.nil) (by first | exact BiTo.join h4 | (have := BiTo.join (kq := c.q) h4; rw [List.map_append] at this; exact this))))
      · have d5 : decide ((stQ x).1 < (x.length : Int)) = false := by simpa using c5
        rw [if_neg c5] at h4 ⊢
        refine SsTo.cons (b1 := [_, _, _, _]) (StTo.ifF (EtTo.cm (EvTo.nm 1 rfl (by kernel_rfl)) (EvTo.bi (f0 := false) (f1 := false) (EvTo.gl (gl_len T) (by kernel_rfl)) (EvsTo.cons (fun _ => rfl) (EvTo.nm 0 rfl (by kernel_rfl)) EvsTo.nil) (by exact BiTo.lenS sz)) (by exact CmTo.lt) (by exact d5) rfl) (by
            exact SsTo.nil)) ?_
        exact SsTo.rt (RtTo.fresh (EvTo.sm (fun _ => rfl) rfl EvTo.cStr SmTo.join (EvsTo.cons (fun _ => rfl) (EvTo.nm 3 rfl (by kernel_rfl)) EvsTo.nil) (by first | exact BiTo.join h4 | (have := BiTo.join (kq := c.q) h4; rw [List.map_append] at this; exact this))))
    · have d0 : (!(!(Builtin.Str.occurrences x (PySem.Str.ofString "\"") 0 x.length 1).isEmpty)) = true := by rw [q0]; simpa using c0
      rw [if_neg c0]
      refine SsTo.stop (StTo.ifT (EtTo.cm EvTo.cStr (EvTo.nm 0 rfl (by kernel_rfl)) (by first | assumption | exact CmTo.notInS) (by exact d0) rfl) (by
          exact SsTo.rt (RtTo.nm 0 rfl (by kernel_rfl)))) rfl

theorem SsTo.forR {c : Cx} {sc : Scope} {b bL b1 : Loc} {tg iter : Expr} {body ss : List Stmt} {xs : List V} {p : Pos} {o : Option V} {r : V} (h1 : FsTo c sc b iter xs bL) (hok : (tNames tg).all (ownName sc) = true) (h2 : LpTo (TnTo c sc tg body) xs bL (flOf o) b1) (hv : ∀ v, o = some v → v = r) (hn : o = none → SsTo c sc b1 ss (.ret r) []) : SsTo c sc b (.For tg iter body [] p :: ss) (.ret r) [] := by
  cases o with
  | none => exact .cons (.for h1 hok h2) (hn rfl)
  | some v =>
    have := hv v rfl
    subst this
    exact .forget (.stop (.for h1 hok h2) rfl) (by first | exact nn | nofun)
noncomputable def parMk (x : PySem.Str) (k : Int) : Loc := [(PySem.Str.ofString "addr", .str x, .own), (PySem.Str.ofString "opens", .int k, .own)]
noncomputable def strOf (o : Option V) : Option PySem.Str := o.bind fun v => onS v some
theorem strOf_ok {o : Option V} {x : PySem.Str} (h : strOf o = some x) : o = some (.str x) := by
  obtain ⟨v, e, h⟩ := Option.bind_eq_some_iff.mp h
  obtain ⟨y, e2, h⟩ := onS_some h
  cases h
  rw [e, e2]
noncomputable def F125q : List V → List (PySem.Str × V) → Option V := fun a k => on1 a fun v => on0 k (onS v fun z => (strOf (F118' z)).bind fun x => if (F111 [.str x]).isSome = true ∧ (escQ false x.cps.toList.zipIdx).all (fun p => PyData.strOk p.2) = true then some (.bool (parB (escQ false x.cps.toList.zipIdx))) else none)
theorem ok125 {c : Cx} (T : OfTab c tab3) (hq : c.q = true) (I : FnIn c.K 207 st125 .none .none) (e118 : ∀ vs ks, c.Γ.fn (.ref 200) vs ks = F118q vs ks) (e111 : ∀ vs, c.Γ.gen (.ref 193) vs = F111 vs) {al : Bool} : FnOk c 207 al F125q := by
  refine fnOk_of (na := 1) (kwn := []) (names := [PySem.Str.ofString "addr"]) I (by kernel_rfl) (by kernel_rfl) rfl ?_ ?_
  · exact fun name qual doc pm cdv ct an s => len10 fun a => BindsTo.of_eq rfl
  · intro args kws r h
    have T : OfTab (c.pin []) tab3 := T.pin
    obtain ⟨_, e_, a1_⟩ := on1_some h
    clear h; subst e_
    obtain ⟨e_, a2_⟩ := on0_some a1_
    clear a1_; subst e_
    obtain ⟨z, e_, h⟩ := onS_some a2_
    clear a2_; subst e_
    obtain ⟨x, h1, h⟩ := Option.bind_eq_some_iff.mp h
    have h1 := strOf_ok h1
    · obtain ⟨hx, h⟩ := ite_some h
      · obtain ⟨h2, h3⟩ := hx
        cases h
        obtain ⟨ys, h2⟩ := Option.isSome_iff_exists.mp h2
        have ey := F111_q h2
        subst ey
        have hv : ∀ v, (foldR parG (escQ false x.cps.toList.zipIdx) 0).2 = some v → v = .bool (parB (escQ false x.cps.toList.zipIdx)) := fun v q => by
          rw [parF_some q]
          unfold parB
          rw [q]
        refine ⟨rfl, rfl, rets ?_⟩
        show SsTo (c.pin []) (scpOf st125) [(PySem.Str.ofString "addr", .str z, .own)] (bodOf st125) _ _
        refine SsTo.cons (b1 := [_]) (StTo.put 0 (EvTo.call (f0 := false) (f1 := false) (EvTo.gl (gl_strip_quoted_realnames T) (by kernel_rfl)) (EvsTo.cons (fun _ => rfl) (EvTo.nm 0 rfl (by kernel_rfl)) EvsTo.nil) EvkTo.nil (by exact (e118 _ _).trans h1) (T.aln (by kernel_rfl))) (by kernel_rfl) rfl (rfl : _ = [_])) ?_
        refine SsTo.cons (b1 := [_, _]) (StTo.put 1 EvTo.cInt (by kernel_rfl) rfl (rfl : _ = [_, _])) ?_
        refine SsTo.forR (o := (foldR parG (escQ false x.cps.toList.zipIdx) 0).2) (b1 := parMk x (foldR parG (escQ false x.cps.toList.zipIdx) 0).1) (FsTo.gen (f0 := false) (f1 := false) (EvTo.gl (gl_iter_escaped_chars T) (by kernel_rfl)) (EvsTo.cons (fun _ => rfl) (EvTo.nm 0 rfl (by kernel_rfl)) EvsTo.nil) rfl (by exact (e111 _).trans h2)) (by kernel_rfl) ?_ hv fun hn => ?_
        · refine LpTo.fR (f := tpV) (mk := parMk x) (g := parG) (I := fun _ r => ∀ p ∈ r, PyData.strOk p.2 = true) (fun k p r hI => ⟨?_, fun _ q m => hI q (.tail _ m)⟩) (escQ false x.cps.toList.zipIdx) 0 (fun p m => List.all_eq_true.mp h3 p m)
          obtain ⟨i, ch⟩ := p
          have hc := hI _ (.head _)
          have q1 := eqV_str hc (c := PySem.Str.ofString "(") (by decide +kernel)
          have q2 := eqV_str hc (c := PySem.Str.ofString ")") (by decide +kernel)
          dsimp only at q1 q2
          unfold parG tpV
          by_cases c1 : ch = PySem.Str.ofString "("
          · have d1 : (ch == PySem.Str.ofString "(") = true := by simpa using c1
            rw [if_pos c1]
            refine TnTo.mk [_, _, _, _] (BdTo.pr (by exact hq) 2 3 .own .own (by first | rfl | kernel_rfl) (by first | rfl | kernel_rfl) (by kernel_rfl) (rfl : _ = [_, _, _]) (by kernel_rfl) (rfl : _ = [_, _, _, _])) ?_
            refine SsTo.cons (b1 := [_, _, _, _]) (StTo.ifT (EtTo.cm (EvTo.nm 3 rfl (by kernel_rfl)) EvTo.cStr (by exact CmTo.eq q1) (by exact d1) rfl) (by
                refine SsTo.cons (b1 := [_, _, _, _]) (StTo.agm 1 EvTo.cInt rfl (by kernel_rfl) (by exact AgTo.addI) (rfl : _ = [_, _, _, _])) ?_
                exact SsTo.nil)) ?_
            exact SsTo.dn (r := [_, _]) rfl
          · have d1 : (ch == PySem.Str.ofString "(") = false := by simpa using c1
            rw [if_neg c1]
            by_cases c2 : ch = PySem.Str.ofString ")"
            · have d2 : (ch == PySem.Str.ofString ")") = true := by simpa using c2
              rw [if_pos c2]
              dsimp only
              by_cases c3 : k - 1 < 0
              · have d3 : decide (k - 1 < 0) = true := by simpa using c3
                rw [if_pos c3]
                refine TnTo.mk [_, _, _, _] (BdTo.pr (by exact hq) 2 3 .own .own (by first | rfl | kernel_rfl) (by first | rfl | kernel_rfl) (by kernel_rfl) (rfl : _ = [_, _, _]) (by kernel_rfl) (rfl : _ = [_, _, _, _])) ?_
                refine SsTo.stop (StTo.ifF (EtTo.cm (EvTo.nm 3 rfl (by kernel_rfl)) EvTo.cStr (by exact CmTo.eq q1) (by exact d1) rfl) (by
                    refine SsTo.stop (StTo.ifT (EtTo.cm (EvTo.nm 3 rfl (by kernel_rfl)) EvTo.cStr (by exact CmTo.eq q2) (by exact d2) rfl) (by
                        refine SsTo.cons (b1 := [_, _, _, _]) (StTo.agm 1 EvTo.cInt rfl (by kernel_rfl) (by exact AgTo.subI) (rfl : _ = [_, _, _, _])) ?_
                        refine SsTo.stop (StTo.ifT (EtTo.cm (EvTo.nm 1 rfl (by kernel_rfl)) EvTo.cInt (by exact CmTo.lt) (by exact d3) rfl) (by
                            exact SsTo.rtL (r := [_, _]) rfl (RtTo.fresh EvTo.cBool))) rfl)) rfl)) rfl
              · have d3 : decide (k - 1 < 0) = false := by simpa using c3
                rw [if_neg c3]
                refine TnTo.mk [_, _, _, _] (BdTo.pr (by exact hq) 2 3 .own .own (by first | rfl | kernel_rfl) (by first | rfl | kernel_rfl) (by kernel_rfl) (rfl : _ = [_, _, _]) (by kernel_rfl) (rfl : _ = [_, _, _, _])) ?_
                refine SsTo.cons (b1 := [_, _, _, _]) (StTo.ifF (EtTo.cm (EvTo.nm 3 rfl (by kernel_rfl)) EvTo.cStr (by exact CmTo.eq q1) (by exact d1) rfl) (by
                    refine SsTo.cons (b1 := [_, _, _, _]) (StTo.ifT (EtTo.cm (EvTo.nm 3 rfl (by kernel_rfl)) EvTo.cStr (by exact CmTo.eq q2) (by exact d2) rfl) (by
                        refine SsTo.cons (b1 := [_, _, _, _]) (StTo.agm 1 EvTo.cInt rfl (by kernel_rfl) (by exact AgTo.subI) (rfl : _ = [_, _, _, _])) ?_
                        refine SsTo.cons (b1 := [_, _, _, _]) (StTo.ifF (EtTo.cm (EvTo.nm 1 rfl (by kernel_rfl)) EvTo.cInt (by exact CmTo.lt) (by exact d3) rfl) (by
                            exact SsTo.nil)) ?_
                        exact SsTo.nil)) ?_
                    exact SsTo.nil)) ?_
                exact SsTo.dn (r := [_, _]) rfl
            · have d2 : (ch == PySem.Str.ofString ")") = false := by simpa using c2
              rw [if_neg c2]
              refine TnTo.mk [_, _, _, _] (BdTo.pr (by exact hq) 2 3 .own .own (by first | rfl | kernel_rfl) (by first | rfl | kernel_rfl) (by kernel_rfl) (rfl : _ = [_, _, _]) (by kernel_rfl) (rfl : _ = [_, _, _, _])) ?_
              refine SsTo.cons (b1 := [_, _, _, _]) (StTo.ifF (EtTo.cm (EvTo.nm 3 rfl (by kernel_rfl)) EvTo.cStr (by exact CmTo.eq q1) (by exact d1) rfl) (by
                  refine SsTo.cons (b1 := [_, _, _, _]) (StTo.ifF (EtTo.cm (EvTo.nm 3 rfl (by kernel_rfl)) EvTo.cStr (by exact CmTo.eq q2) (by exact d2) rfl) (by
                      exact SsTo.nil)) ?_
                  exact SsTo.nil)) ?_
              exact SsTo.dn (r := [_, _]) rfl
        have hb : ((foldR parG (escQ false x.cps.toList.zipIdx) 0).1 == 0) = parB (escQ false x.cps.toList.zipIdx) := by unfold parB; rw [hn]
        exact SsTo.rt (RtTo.fresh (EvTo.cm (EvTo.nm 1 rfl (by kernel_rfl)) EvTo.cInt (by first | assumption | exact CmTo.eqI | exact CmTo.eqS (by first | assumption | rfl | omega) (by first | assumption | rfl | omega)) (by exact hb) rfl))

noncomputable def F208 : List V → List (PySem.Str × V) → Option V := fun a k => on2 a fun v w => on0 k (onS w fun x => (hdOf v).bind fun hs => if x.cps.size ≤ 1000 ∧ prt (Txt.lower x) = true ∧ hs.length ≤ 900 ∧ hs.all (fun p => prt (Txt.lower p.1) && decide (p.1.cps.size ≤ 1000)) = true then some (.lst ((hs.filter fun p => Txt.lower p.1 == Txt.lower x).map fun p => V.str p.2)) else none)
theorem ok208 {c : Cx} (T : OfTab c tab3) (I : FnIn c.K 121 st208 .none .none) (e170 : ∀ vs ks, c.Γ.fn (.ref 83) vs ks = F170 vs ks) {al : Bool} : FnOk c 121 al F208 := by
  refine fnOk_of (na := 2) (kwn := []) (names := [PySem.Str.ofString "self", PySem.Str.ofString "name"]) I (by kernel_rfl) (by kernel_rfl) rfl ?_ ?_
  · exact fun name qual doc pm cdv ct an s => len20 fun a b => BindsTo.of_eq rfl
  · intro args kws r h
    have T : OfTab (c.pin []) tab3 := T.pin
    obtain ⟨v, _, e_, a1_⟩ := on2_some h
    clear h; subst e_
    obtain ⟨e_, a2_⟩ := on0_some a1_
    clear a1_; subst e_
    obtain ⟨x, e_, h⟩ := onS_some a2_
    clear a2_; subst e_
    obtain ⟨hs, e1, h⟩ := Option.bind_eq_some_iff.mp h
    obtain ⟨⟨z1, z2, z3, z4⟩, h⟩ := ite_some h
    cases h
    have e1 := hdOf_ok e1
    subst e1
    have l1 : x.length ≤ 1000000 := le_mil z1
    refine ⟨rfl, rfl, rets ?_⟩
    show SsTo (c.pin []) (scpOf st208) [(PySem.Str.ofString "self", .inst aHD [(PySem.Str.ofString "_headers", .lst (hdrs hs))], .frz), (PySem.Str.ofString "name", .str x, .own)] (bodOf st208) _ _
    refine SsTo.cons (b1 := [_, _]) (StTo.put 1 (EvTo.mt (fun _ => rfl) rfl (EvTo.nm 0 rfl (by kernel_rfl)) (by exact mt_aHD_convert_string_type T rfl) (EvsTo.cons (fun _ => rfl) (EvTo.sm (fun _ => rfl) rfl (EvTo.nm 1 rfl (by kernel_rfl)) SmTo.lower EvsTo.nil (by exact BiTo.lower l1)) EvsTo.nil) (EvkTo.cons (f1 := false) EvTo.cBool EvkTo.nil) (by exact (e170 _ _).trans (c170 _ _ _ z2))) (by kernel_rfl) rfl (rfl : _ = [_, _])) ?_
    exact SsTo.rt (RtTo.fresh (EvTo.lc (by kernel_rfl) (EiTo.val (fr := false) (fun _ _ => rfl) (EvTo.fl 0 (fun _ => rfl) (EvTo.nm 0 rfl (by kernel_rfl)) (fl_aHD_headers T) (by rfl) (by kernel_rfl)) (by exact ItTo.lst)) (cap_of [1] (by kernel_rfl) (rfl : _ = [_])) (CsTo.ft (f := fun p : PySem.Str × PySem.Str => V.tup [.str p.1, .str p.2]) (h := fun p : PySem.Str × PySem.Str => V.str p.2) (p := fun p : PySem.Str × PySem.Str => Txt.lower p.1 == Txt.lower x) hs (fun p m => by
            have hp := List.all_eq_true.mp z4 p m
            simp only [Bool.and_eq_true, decide_eq_true_eq] at hp
            have l2 : p.1.length ≤ 1000000 := le_mil hp.2
            have q := eqV_str (prt_ok hp.1) (prt_ok z2)
            cases nn : (Txt.lower p.1 == Txt.lower x)
            · exact CiTo.out rfl (BdTo.nm 1 .own (by first | rfl | kernel_rfl) (by kernel_rfl) (rfl : _ = [_, _])) (EtTo.cm (EvTo.sm (fun _ => rfl) rfl (EvTo.sub (f1 := false) (f2 := false) (EvTo.nm 1 rfl (by kernel_rfl)) EvTo.cInt (by exact sb_pair0) (fun _ _ => rfl)) SmTo.lower EvsTo.nil (by exact BiTo.lower l2)) (EvTo.nm 0 rfl (by kernel_rfl)) (by exact CmTo.eq q) (by exact nn) rfl)
            · exact CiTo.in rfl rfl (BdTo.nm 1 .own (by first | rfl | kernel_rfl) (by kernel_rfl) (rfl : _ = [_, _])) (EtTo.cm (EvTo.sm (fun _ => rfl) rfl (EvTo.sub (f1 := false) (f2 := false) (EvTo.nm 1 rfl (by kernel_rfl)) EvTo.cInt (by exact sb_pair0) (fun _ _ => rfl)) SmTo.lower EvsTo.nil (by exact BiTo.lower l2)) (EvTo.nm 0 rfl (by kernel_rfl)) (by exact CmTo.eq q) (by exact nn) rfl) (EvTo.sub (f1 := false) (f2 := false) (EvTo.nm 1 rfl (by kernel_rfl)) EvTo.cInt (by exact sb_pair1) (fun _ _ => rfl)))) (by rw [List.length_map]; exact Nat.le_trans (List.length_filter_le _ _) (by omega)) (by intro _; exact flatVs_str1 _)))

theorem dataVs_map {α : Type} {f : α → V} {D : α → PyData} (h : ∀ a, dataV (f a) = some (D a)) : ∀ l : List α, dataVs (l.map f) = some (l.map D)
  | [] => rfl
  | a :: r => by
    show (dataV (f a)).bind (fun d => (dataVs (r.map f)).bind fun ds => some (d :: ds)) = _
    rw [h a, dataVs_map h r]; rfl
theorem lay_map {α : Type} {D : α → PyData} : ∀ {l : List α}, (∀ a ∈ l, (D a).canLay0 = true) → PyData.canLayAll0 (l.map D) = true
  | [], _ => rfl
  | a :: r, h => by rw [List.map_cons, PyData.canLayAll0, h a (.head _), lay_map fun b m => h b (.tail _ m)]; rfl
theorem depth_map {α : Type} {D : α → PyData} {k : Nat} : ∀ {l : List α}, (∀ a ∈ l, (D a).depth ≤ k) → PyData.depthAll (l.map D) ≤ k
  | [], _ => Nat.zero_le _
  | a :: r, h => by
    rw [List.map_cons, PyData.depthAll]
    exact Nat.max_le.mpr ⟨h a (.head _), depth_map fun b m => h b (.tail _ m)⟩
theorem eqvAll_map {α : Type} [BEq α] {D : α → PyData} (h : ∀ a b, PyData.eqv (D a) (D b) = (a == b)) : ∀ a b : List α, PyData.eqvAll (a.map D) (b.map D) = (a == b)
  | [], [] => rfl
  | [], _ :: _ => rfl
  | _ :: _, [] => rfl
  | i :: r, j :: q => by rw [List.map_cons, List.map_cons, PyData.eqvAll, eqvAll_map h r q, h]; rfl
theorem eqV_lst {a b : List V} {x y : List PyData} (ha : dataVs a = some x) (hb : dataVs b = some y) : eqV (.lst a) (.lst b) = if SeqAt.shaped (.list x) && SeqAt.shaped (.list y) then some (PyData.eqvAll x y) else none := by
  show ((dataVs a).map PyData.list).bind (fun d => ((dataVs b).map PyData.list).bind fun e => if SeqAt.shaped d && SeqAt.shaped e then some (PyData.eqv d e) else none) = _
  rw [ha, hb]; rfl
theorem eqV_map {α : Type} [BEq α] {f : α → V} {D : α → PyData} (h : ∀ a, dataV (f a) = some (D a)) (l : ∀ a, (D a).canLay0 = true) (d : ∀ a, (D a).depth ≤ 9) (e : ∀ a b, PyData.eqv (D a) (D b) = (a == b)) (a b : List α) : eqV (.lst (a.map f)) (.lst (b.map f)) = some (a == b) := by
  have sh : ∀ x : List α, SeqAt.shaped (.list (x.map D)) = true := fun x => by
    unfold SeqAt.shaped
    rw [PyData.canLay0, lay_map fun a _ => l a, PyData.depth]
    have := depth_map (l := x) fun a _ => d a
    exact decide_eq_true (by omega)
  rw [eqV_lst (dataVs_map h a) (dataVs_map h b), sh, sh, eqvAll_map e]; rfl
noncomputable def nV (l : List Nat) : List V := l.map fun (d : Nat) => V.int (d : Int)
theorem nat_beq (a b : Nat) : ((a : Int) == (b : Int)) = (a == b) := by
  rw [Bool.eq_iff_iff, beq_iff_eq, beq_iff_eq]; exact Int.ofNat_inj
theorem eqV_nats (a b : List Nat) : eqV (.lst (nV a)) (.lst (nV b)) = some (a == b) := eqV_map (f := fun (d : Nat) => V.int (d : Int)) (D := fun (d : Nat) => .int (d : Int)) (fun _ => rfl) (fun _ => rfl) (fun _ => Nat.zero_le _) (fun a b => nat_beq a b) a b
noncomputable def prV (p : Nat × Nat) : V := .tup [.int (p.1 : Int), .int (p.2 : Int)]
theorem eqV_prs (a b : List (Nat × Nat)) : eqV (.lst (a.map prV)) (.lst (b.map prV)) = some (a == b) := eqV_map (D := fun p => .tuple [.int (p.1 : Int), .int (p.2 : Int)]) (fun _ => rfl) (fun _ => rfl) (fun _ => (by decide : (1 : Nat) ≤ 9)) (fun a b => by
  show ((a.1 : Int) == (b.1 : Int) && (((a.2 : Int) == (b.2 : Int)) && true)) = (a.1 == b.1 && a.2 == b.2)
  rw [nat_beq, nat_beq, Bool.and_true]) a b
noncomputable def opnS : PySem.Str := PySem.Str.ofString "("
noncomputable def clsS : PySem.Str := PySem.Str.ofString ")"
noncomputable def sg (b : Bool) : PySem.Str := if b then opnS else clsS
noncomputable def sgV (b : Bool) : V := .str (sg b)
theorem opnS_ok : PyData.strOk opnS = true := by decide +kernel
theorem sg_ok (b : Bool) : PyData.strOk (sg b) = true := by cases b <;> decide +kernel
theorem sg_beq (a b : Bool) : (sg a == sg b) = (a == b) := by cases a <;> cases b <;> decide +kernel
theorem eqV_sgs (a b : List Bool) : eqV (.lst (a.map sgV)) (.lst (b.map sgV)) = some (a == b) := eqV_map (D := fun b => .str (sg b)) (fun _ => rfl) (fun b => sg_ok b) (fun _ => Nat.zero_le _) (fun a b => sg_beq a b) a b
theorem flatVs_nV : ∀ l : List Nat, flatVs (nV l) = true
  | [] => rfl
  | _ :: r => flatVs_nV r
theorem flatVs_prV : ∀ l : List (Nat × Nat), flatVs (l.map prV) = true
  | [] => rfl
  | _ :: r => flatVs_prV r
theorem flatVs_sgV : ∀ l : List Bool, flatVs (l.map sgV) = true
  | [] => rfl
  | _ :: r => flatVs_sgV r
noncomputable def bitsV : List V → Option (List Bool)
  | [] => some []
  | v :: r => onS v fun x => if x = opnS then (bitsV r).map (true :: ·) else if x = clsS then (bitsV r).map (false :: ·) else none
theorem bitsV_c (x : PySem.Str) (r : List V) : bitsV (.str x :: r) = if x = opnS then (bitsV r).map (true :: ·) else if x = clsS then (bitsV r).map (false :: ·) else none := rfl
theorem bitsV_of : ∀ {l : List V} {bs : List Bool}, bitsV l = some bs → l = bs.map sgV
  | [], bs, e => by cases (show some [] = some bs from e); rfl
  | v :: r, bs, e => by
    obtain ⟨x, rfl, e'⟩ := onS_some (show onS v _ = some bs from e)
    clear e
    rename _ => e
    by_cases q : x = opnS
    · rw [if_pos q] at e
      obtain ⟨cs, e1, rfl⟩ := Option.map_eq_some_iff.mp e
      rw [bitsV_of e1, q]; rfl
    · rw [if_neg q] at e
      obtain ⟨q, e⟩ := ite_some e
      obtain ⟨cs, e1, rfl⟩ := Option.map_eq_some_iff.mp e
      rw [bitsV_of e1, q]; rfl
theorem bitsV_map : ∀ bs : List Bool, bitsV (bs.map sgV) = some bs
  | [] => rfl
  | true :: r => by
    rw [List.map_cons]
    refine (bitsV_c _ _).trans ?_
    rw [if_pos (show sg true = opnS from rfl), bitsV_map r]; rfl
  | false :: r => by
    rw [List.map_cons]
    refine (bitsV_c _ _).trans ?_
    rw [if_neg (show ¬ sg false = opnS by decide +kernel), if_pos (show sg false = clsS from rfl), bitsV_map r]; rfl
noncomputable def qS (s : List (List Nat) × Nat) (b : Bool) : Option (List (List Nat) × Nat) :=
  if b then (if s.2 < s.1.length ∧ s.1.length ≤ 1000 ∧ (s.1.getD s.2 []).length ≤ 1000 then some (s.1.set s.2 (s.1.getD s.2 [] ++ [s.1.length]) ++ [[]], s.2) else none) else (if s.2 ≤ 1000 then some (s.1, s.2 + 1) else none)
noncomputable def pRun (bl : List (List Nat)) : Nat → List Nat → List (Nat × Nat) → Option (List Nat)
  | _, ds, [] => some ds
  | 0, _, _ => none
  | n + 1, ds, p :: r => if p.1 < bl.length ∧ ds.length ≤ 1000 ∧ r.length ≤ 1000 ∧ (bl.getD p.1 []).length ≤ 1000 ∧ bl.length ≤ 1000 then pRun bl n (ds ++ [p.2]) ((bl.getD p.1 []).map (fun m => (m, p.2 + 1)) ++ r) else none
noncomputable def quR (bs : List Bool) : Option (List Nat) := (foldO qS bs ([[]], 0)).bind fun s => if s.1 ≠ [] ∧ s.1.length ≤ 1000 ∧ (s.1.getD 0 []).length ≤ 1000 then pRun s.1 64 [] ((s.1.getD 0 []).map fun m => (m, 0)) else none
noncomputable def F283 : List V → List (PySem.Str × V) → Option V := fun a k => on1 a fun v => on0 k (onL v fun l => (bitsV l).bind fun bs => (quR bs).map fun ds => .lst (nV ds))
noncomputable def blV (bl : List (List Nat)) : List V := bl.map fun l => .lst (nV l)
noncomputable def quMk (bs : List Bool) (s : List (List Nat) × Nat) : Loc := [(PySem.Str.ofString "signs", .lst (bs.map sgV), .frz), (PySem.Str.ofString "below", .lst (blV s.1), .own), (PySem.Str.ofString "served", .int (s.2 : Int), .own)]
noncomputable def plMk (bs : List Bool) (bl : List (List Nat)) (sv : Nat) (ds : List Nat) (ps : List (Nat × Nat)) : Loc := [(PySem.Str.ofString "signs", .lst (bs.map sgV), .frz), (PySem.Str.ofString "below", .lst (blV bl), .own), (PySem.Str.ofString "served", .int (sv : Int), .own), (PySem.Str.ofString "depths", .lst (nV ds), .own), (PySem.Str.ofString "pile", .lst (ps.map prV), .own)]
theorem sb_bl {bl : List (List Nat)} {k : Nat} (h : k < bl.length) (hz : bl.length ≤ 1000) : SbTo (.lst (blV bl)) (.int (k : Int)) (.lst (nV (bl.getD k []))) := by
  refine SbTo.lst (k := k) (fits_nat (by omega)) (by unfold blV; rw [List.length_map]; exact seqIndex_at (by omega) (by omega)) ?_
  unfold blV
  rw [List.getElem?_map, List.getD_eq_getElem?_getD, List.getElem?_eq_getElem h]; rfl
noncomputable def whT : Stmt → Expr
  | .While t _ _ _ => t
  | _ => default
noncomputable def whB : Stmt → List Stmt
  | .While _ b _ _ => b
  | _ => []
theorem nV_app (ds : List Nat) (d : Nat) : nV ds ++ [.int (d : Int)] = nV (ds ++ [d]) := by unfold nV; rw [List.map_append]; rfl
theorem que_pile {c : Cx} (T : OfTab (c.pin []) tab3) (hq : c.q = true) {bs : List Bool} (bl : List (List Nat)) (sv : Nat) {out : List Nat} : ∀ (n : Nat) (ds : List Nat) (ps : List (Nat × Nat)), pRun bl n ds ps = some out → SsTo (c.pin []) (scpOf st283) (plMk bs bl sv ds ps) ((bodOf st283).drop 5) (.ret (.lst (nV out))) [] := by
  have wh : ∀ (n : Nat) (ds : List Nat) (ps : List (Nat × Nat)), pRun bl n ds ps = some out → WhTo (c.pin []) (scpOf st283) (whT (nthS 5 (bodOf st283))) (whB (nthS 5 (bodOf st283))) n (plMk bs bl sv ds ps) .next (plMk bs bl sv out []) := fun n => by
    induction n with
    | zero =>
      intro ds ps h
      cases ps with
      | nil => cases h; exact .done _ _ (EtTo.cm (EvTo.nm 4 rfl (by kernel_rfl)) (EvTo.list EvsTo.nil (Nat.le_of_ble_eq_true rfl)) (by exact CmTo.ne (eqV_prs _ [])) (by rfl) rfl)
      | cons p r => cases h
    | succ n ih =>
      intro ds ps h
      cases ps with
      | nil => cases h; exact .done _ _ (EtTo.cm (EvTo.nm 4 rfl (by kernel_rfl)) (EvTo.list EvsTo.nil (Nat.le_of_ble_eq_true rfl)) (by exact CmTo.ne (eqV_prs _ [])) (by rfl) rfl)
      | cons p r =>
        obtain ⟨⟨h1, h2, h3, h4, h5⟩, h⟩ := ite_some (show (if p.1 < bl.length ∧ ds.length ≤ 1000 ∧ r.length ≤ 1000 ∧ (bl.getD p.1 []).length ≤ 1000 ∧ bl.length ≤ 1000 then pRun bl n (ds ++ [p.2]) ((bl.getD p.1 []).map (fun m => (m, p.2 + 1)) ++ r) else none) = some out from h)
        refine .next _ _ _ _ _ (EtTo.cm (EvTo.nm 4 rfl (by kernel_rfl)) (EvTo.list EvsTo.nil (Nat.le_of_ble_eq_true rfl)) (by exact CmTo.ne (eqV_prs _ [])) (by rfl) rfl) ?_ (ih _ _ h)
        obtain ⟨o1, d1⟩ := p
        dsimp only at h1 h4 ⊢
        have sb1 : SbTo (.lst (blV bl)) (.int (o1 : Int)) (.lst (nV (bl.getD o1 []))) := sb_bl h1 h5
        unfold plMk
        rw [← nV_app]
        refine SsTo.cons (b1 := [_, _, _, _, _, _, _]) (StTo.pop rfl (PlTo.nm 4 rfl (by kernel_rfl) (rfl : _ = [_, _, _, _, _])) rfl (BdTo.pr (by exact hq) 5 6 .own .own (by first | rfl | kernel_rfl) (by first | rfl | kernel_rfl) (by kernel_rfl) (rfl : _ = [_, _, _, _, _, _]) (by kernel_rfl) (rfl : _ = [_, _, _, _, _, _, _])) (by kernel_rfl) (by rw [List.length_map]; omega) (fun _ => rfl)) ?_
        refine SsTo.cons (b1 := [_, _, _, _, _, _, _]) (StTo.app (fun _ => rfl) rfl (fun _ => rfl) (PlTo.nm 3 rfl (by kernel_rfl) (rfl : _ = [_, _, _, _, _, _, _])) (EvTo.nmf 6 rfl (by kernel_rfl) rfl) (by unfold nV; rw [List.length_map]; omega)) ?_
        refine SsTo.cons (b1 := [_, _, _, _, _, _, _]) (StTo.put 4 (EvTo.to (v' := .lst ((((bl.getD o1 []).map fun m => (m, d1 + 1)) ++ r).map prV)) (EvTo.bin (f1 := false) (f2 := false) (EvTo.lc (by kernel_rfl) (EiTo.val (fr := false) (fun _ _ => rfl) (EvTo.sub (f1 := false) (f2 := false) (EvTo.nm 1 rfl (by kernel_rfl)) (EvTo.nm 5 rfl (by kernel_rfl)) (by exact sb1) (fun _ _ => rfl)) (by exact ItTo.lst)) (cap_of [6] (by kernel_rfl) (rfl : _ = [_])) (CsTo.to (l' := ((bl.getD o1 []).map fun m => (m, d1 + 1)).map prV) (CsTo.mp (f := fun d : Nat => V.int (d : Int)) (h := fun d : Nat => prV (d, d1 + 1)) (bl.getD o1 []) (fun k m => CiTo.el rfl rfl (BdTo.nm 1 .own (by first | rfl | kernel_rfl) (by kernel_rfl) (rfl : _ = [_, _])) (EvTo.tup (EvsTo.cons (fun _ => rfl) (EvTo.nm 1 rfl (by kernel_rfl)) (EvsTo.cons (fun _ => rfl) (EvTo.bin (f1 := false) (f2 := false) (EvTo.nm 0 rfl (by kernel_rfl)) EvTo.cInt (by first | assumption | exact OpTo.addI | exact OpTo.addS (by first | assumption | omega | rfl))) EvsTo.nil)) (Nat.le_of_ble_eq_true rfl)))) (by rw [List.map_map]; rfl)) (by rw [List.length_map, List.length_map]; omega) (by exact fun _ => flatVs_prV _)) (EvTo.nm 4 rfl (by kernel_rfl)) (by exact OpTo.addL (by rw [List.length_map, List.length_map, List.length_map]; omega) (fun _ => by rw [← List.map_append]; exact flatVs_prV _))) (by rw [List.map_append])) (by kernel_rfl) rfl (rfl : _ = [_, _, _, _, _, _, _])) ?_
        exact SsTo.dn (r := [_, _]) rfl
  intro n ds ps h
  refine SsTo.cons (b1 := plMk bs bl sv out []) (StTo.while (wh n ds ps h)) ?_
  exact SsTo.rt (RtTo.nm 3 rfl (by kernel_rfl))
theorem ok283 {c : Cx} (T : OfTab c tab3) (I : FnIn c.K 283 st283 .none .none) (hq : c.q = true) {al : Bool} : FnOk c 283 al F283 := by
  refine fnOk_of (na := 1) (kwn := []) (names := [PySem.Str.ofString "signs"]) I (by kernel_rfl) (by kernel_rfl) rfl ?_ ?_
  · exact fun name qual doc pm cdv ct an s => len10 fun a => BindsTo.of_eq rfl
  · intro args kws r h
    have T : OfTab (c.pin []) tab3 := T.pin
    obtain ⟨_, e_, a1_⟩ := on1_some h
    clear h; subst e_
    obtain ⟨e_, a2_⟩ := on0_some a1_
    clear a1_; subst e_
    obtain ⟨l, e_, a3_⟩ := onL_some a2_
    clear a2_; subst e_
    obtain ⟨bs, e0, a4_⟩ := Option.bind_eq_some_iff.mp a3_
    clear a3_
    have e0 := bitsV_of e0
    subst e0
    obtain ⟨ds, e2, a5_⟩ := Option.map_eq_some_iff.mp a4_
    clear a4_
    subst a5_
    obtain ⟨s, e1, e3⟩ := Option.bind_eq_some_iff.mp e2
    obtain ⟨⟨n0, z1, z2⟩, e3⟩ := ite_some e3
    have sb0 : SbTo (.lst (blV s.1)) (.int 0) (.lst (nV (s.1.getD 0 []))) := sb_bl (k := 0) (List.length_pos_iff.mpr n0) z1
    refine ⟨rfl, rfl, rets ?_⟩
    show SsTo (c.pin []) (scpOf st283) [(PySem.Str.ofString "signs", .lst (bs.map sgV), .frz)] (bodOf st283) _ _
    refine SsTo.cons (b1 := [_, _]) (StTo.put 1 (EvTo.list (EvsTo.cons (fun _ => rfl) (EvTo.list EvsTo.nil (Nat.le_of_ble_eq_true rfl)) EvsTo.nil) (Nat.le_of_ble_eq_true rfl)) (by kernel_rfl) rfl (rfl : _ = [_, _])) ?_
    refine SsTo.cons (b1 := [_, _, _]) (StTo.put 2 EvTo.cInt (by kernel_rfl) rfl (rfl : _ = [_, _, _])) ?_
    refine SsTo.cv (b1 := quMk bs ([[]], 0)) (by rfl) ?_
    refine SsTo.cons (b1 := (quMk bs s)) (StTo.for (FsTo.fz 0 rfl (by kernel_rfl) (by exact ItTo.lst)) (by kernel_rfl) ?_) ?_
    · refine (LpTo.fO (σ := List (List Nat) × Nat) (ι := Bool) (f := sgV) (mk := quMk bs) (g := qS) (I := fun _ _ => True) (fun s b r s' _ hs => ⟨?_, trivial⟩) bs ([[]], 0) s trivial e1).1
      obtain ⟨bl, sv⟩ := s
      cases b with
      | true =>
        obtain ⟨⟨h1, h2, h3⟩, hs⟩ := ite_some (show (if sv < bl.length ∧ bl.length ≤ 1000 ∧ (bl.getD sv []).length ≤ 1000 then some (bl.set sv (bl.getD sv [] ++ [bl.length]) ++ [[]], sv) else none) = some s' from hs)
        cases hs
        have hl : (blV bl).length = bl.length := List.length_map _
        have ex : blV (bl.set sv (bl.getD sv [] ++ [bl.length]) ++ [[]]) = (blV bl).set sv (.lst (nV (bl.getD sv []) ++ [.int (bl.length : Int)])) ++ [.lst []] := by
          unfold blV nV
          rw [List.map_append, List.map_set, List.map_append]; rfl
        have eg : (blV bl)[sv]? = some (.lst (nV (bl.getD sv []))) := by
          unfold blV
          rw [List.getElem?_map, List.getD_eq_getElem?_getD, List.getElem?_eq_getElem h1]; rfl
        unfold quMk
        dsimp only
        rw [ex]
        refine TnTo.mk [_, _, _, _] (BdTo.nm 3 .own (rfl) (by kernel_rfl) (rfl : _ = [_, _, _, _])) ?_
        refine SsTo.cons (b1 := [_, _, _, _]) (StTo.ifT (EtTo.cm (EvTo.nm 3 rfl (by kernel_rfl)) EvTo.cStr (by exact CmTo.eq (eqV_str opnS_ok opnS_ok)) (by decide +kernel) rfl) (by
            refine SsTo.cons (b1 := [_, _, _, _]) (StTo.app (fun _ => rfl) rfl (fun _ => rfl) (PlTo.sub (k := sv) (f2 := false) (PlTo.nm 1 rfl (by kernel_rfl) (rfl : _ = [_, _, _, _])) (EvTo.nm 2 rfl (by kernel_rfl)) (by exact fits_nat (by omega)) (by rw [hl]; exact seqIndex_at (by omega) (by omega)) (by exact eg) (fun _ _ => rfl)) (EvTo.to (v' := .int (bl.length : Int)) (EvTo.bi (f0 := false) (f1 := false) (EvTo.gl (gl_len T) (by kernel_rfl)) (EvsTo.cons (fun _ => rfl) (EvTo.nm 1 rfl (by kernel_rfl)) EvsTo.nil) (by exact BiTo.lenL (by rw [hl]; omega))) (by rw [hl])) (by unfold nV; rw [List.length_map]; omega)) ?_
            refine SsTo.cons (b1 := [_, _, _, _]) (StTo.app (fun _ => rfl) rfl (fun _ => rfl) (PlTo.nm 1 rfl (by kernel_rfl) (rfl : _ = [_, _, _, _])) (EvTo.list EvsTo.nil (Nat.le_of_ble_eq_true rfl)) (by rw [List.length_set, hl]; omega)) ?_
            exact SsTo.nil)) ?_
        exact SsTo.dn (r := [_]) rfl
      | false =>
        obtain ⟨h1, hs⟩ := ite_some (show (if sv ≤ 1000 then some (bl, sv + 1) else none) = some s' from hs)
        cases hs
        unfold quMk
        dsimp only
        rw [show ((sv + 1 : Nat) : Int) = (sv : Int) + 1 from Int.natCast_succ sv]
        refine TnTo.mk [_, _, _, _] (BdTo.nm 3 .own (rfl) (by kernel_rfl) (rfl : _ = [_, _, _, _])) ?_
        refine SsTo.cons (b1 := [_, _, _, _]) (StTo.ifF (EtTo.cm (EvTo.nm 3 rfl (by kernel_rfl)) EvTo.cStr (by exact CmTo.eq (eqV_str (sg_ok false) opnS_ok)) (by decide +kernel) rfl) (by
            refine SsTo.cons (b1 := [_, _, _, _]) (StTo.agm 2 EvTo.cInt rfl (by kernel_rfl) (by exact AgTo.addI) (rfl : _ = [_, _, _, _])) ?_
            exact SsTo.nil)) ?_
        exact SsTo.dn (r := [_]) rfl
    unfold quMk
    refine SsTo.cons (b1 := [_, _, _, _]) (StTo.put 3 (EvTo.list EvsTo.nil (Nat.le_of_ble_eq_true rfl)) (by kernel_rfl) rfl (rfl : _ = [_, _, _, _])) ?_
    refine SsTo.cons (b1 := [_, _, _, _, _]) (StTo.putC 4 (by kernel_rfl) (by kernel_rfl) (EiTo.val (fr := false) (fun _ _ => rfl) (EvTo.sub (f1 := false) (f2 := false) (EvTo.nm 1 rfl (by kernel_rfl)) EvTo.cInt (by exact sb0) (fun _ _ => rfl)) (by exact ItTo.lst)) (cap_of [] (by kernel_rfl) (rfl : _ = [])) (CsTo.to (l' := ((s.1.getD 0 []).map fun m => (m, 0)).map prV) (CsTo.mp (f := fun d : Nat => V.int (d : Int)) (h := fun d : Nat => prV (d, 0)) (s.1.getD 0 []) (fun k m => CiTo.el rfl rfl (BdTo.nm 0 .own (by first | rfl | kernel_rfl) (by kernel_rfl) (rfl : _ = [_])) (EvTo.tup (EvsTo.cons (fun _ => rfl) (EvTo.nm 0 rfl (by kernel_rfl)) (EvsTo.cons (fun _ => rfl) EvTo.cInt EvsTo.nil)) (Nat.le_of_ble_eq_true rfl)))) (by rw [List.map_map]; rfl)) (by rw [List.length_map, List.length_map]; omega) (by exact flatVs_prV _) (rfl : _ = [_, _, _, _, _])) ?_
    refine SsTo.cv (b1 := plMk bs s.1 s.2 [] ((s.1.getD 0 []).map fun m => (m, 0))) rfl ?_
    exact que_pile T hq _ _ _ _ _ e3

noncomputable def wvG (s : List Int × Int) (b : Bool) : List Int × Int :=
  if b then (s.1.set (s.1.length - 1) (s.1.getD (s.1.length - 1) 0 + 1), s.2)
  else if s.2 = 0 then (s.1 ++ [0], s.1.getD (s.1.length - 1) 0 - 1) else (s.1, s.2 - 1)
noncomputable def wvR (bs : List Bool) : List Int := (bs.foldl wvG ([0], 0)).1.dropLast
noncomputable def F290 : List V → List (PySem.Str × V) → Option V := fun a k => on1 a fun v => on0 k (onL v fun l => (bitsV l).bind fun bs => if bs.length ≤ 100 then some (.tup ((wvR bs).map .int)) else none)
theorem idx_last {n : Nat} (h : 0 < n) : seqIndex? (-1) n = some (n - 1) := by
  rw [show seqIndex? (-1) n = if (decide (0 ≤ -1 + (n : Int)) && decide (-1 + (n : Int) < n)) then some (-1 + (n : Int)).toNat else none from rfl]
  have : (-1 + (n : Int)).toNat = n - 1 := by omega
  have h1 : (0 : Int) ≤ -1 + n := by omega
  have h2 : -1 + (n : Int) < n := by omega
  simp [h1, h2, this]
theorem sb_last {cs : List Int} (h : cs ≠ []) (hz : cs.length ≤ 1000) : SbTo (.lst (cs.map .int)) (.int (-1)) (.int (cs.getD (cs.length - 1) 0)) := by
  have hl := List.length_pos_iff.mpr h
  refine SbTo.lst (k := cs.length - 1) rfl ?_ ?_
  · rw [List.length_map]
    exact idx_last hl
  · rw [List.getElem?_map, List.getD_eq_getElem?_getD, List.getElem?_eq_getElem (by omega)]; rfl
noncomputable def wvMk (bs : List Bool) (s : List Int × Int) : Loc := [(PySem.Str.ofString "signs", .lst (bs.map sgV), .frz), (PySem.Str.ofString "waves", .lst (s.1.map .int), .own), (PySem.Str.ofString "due", .int s.2, .own)]
theorem pick_last (cs : List Int) : pickV (cs.map V.int) none (some (-1)) = cs.dropLast.map V.int := by
  unfold pickV
  simp only [Option.elim, List.length_map, List.drop_zero]
  have : clipAt cs.length (-1) = cs.length - 1 := by
    unfold clipAt
    rw [if_pos (by decide)]
    omega
  rw [this, ← List.map_take, List.dropLast_eq_take, Nat.sub_zero]
theorem wv_len : ∀ (bs : List Bool) (s : List Int × Int), (bs.foldl wvG s).1.length ≤ s.1.length + bs.length
  | [], s => Nat.le_refl _
  | b :: r, s => by
    refine Nat.le_trans (wv_len r (wvG s b)) ?_
    have : (wvG s b).1.length ≤ s.1.length + 1 := by
      unfold wvG
      cases b
      · by_cases q : s.2 = 0
        · rw [if_neg (by decide), if_pos q]; show (s.1 ++ [0]).length ≤ _; rw [List.length_append]; exact Nat.le_refl _
        · rw [if_neg (by decide), if_neg q]; exact Nat.le_succ _
      · rw [if_pos rfl]; show (s.1.set _ _).length ≤ _; rw [List.length_set]; exact Nat.le_succ _
    rw [List.length_cons]; omega
theorem ok290 {c : Cx} (T : OfTab c tab3) (I : FnIn c.K 290 st290 .none .none) {al : Bool} : FnOk c 290 al F290 := by
  refine fnOk_of (na := 1) (kwn := []) (names := [PySem.Str.ofString "signs"]) I (by kernel_rfl) (by kernel_rfl) rfl ?_ ?_
  · exact fun name qual doc pm cdv ct an s => len10 fun a => BindsTo.of_eq rfl
  · intro args kws r h
    have T : OfTab (c.pin []) tab3 := T.pin
    obtain ⟨_, e_, a1_⟩ := on1_some h
    clear h; subst e_
    obtain ⟨e_, a2_⟩ := on0_some a1_
    clear a1_; subst e_
    obtain ⟨l, e_, a3_⟩ := onL_some a2_
    clear a2_; subst e_
    obtain ⟨bs, e0, a4_⟩ := Option.bind_eq_some_iff.mp a3_
    clear a3_
    have e0 := bitsV_of e0
    subst e0
    obtain ⟨hb, a5_⟩ := ite_some a4_
    clear a4_
    cases a5_
    have hz1 := wv_len bs ([0], 0)
    have hz1 : (bs.foldl wvG ([0], 0)).1.length ≤ 1 + bs.length := hz1
    have hz : (bs.foldl wvG ([0], 0)).1.length ≤ 1000000 := by omega
    have hz2 : (wvR bs).length ≤ 1000000 := by
      unfold wvR
      rw [List.length_dropLast]; omega
    refine ⟨rfl, rfl, rets ?_⟩
    show SsTo (c.pin []) (scpOf st290) [(PySem.Str.ofString "signs", .lst (bs.map sgV), .frz)] (bodOf st290) _ _
    refine SsTo.cons (b1 := [_, _]) (StTo.put 1 (EvTo.list (EvsTo.cons (fun _ => rfl) EvTo.cInt EvsTo.nil) (Nat.le_of_ble_eq_true rfl)) (by kernel_rfl) rfl (rfl : _ = [_, _])) ?_
    refine SsTo.cons (b1 := [_, _, _]) (StTo.put 2 EvTo.cInt (by kernel_rfl) rfl (rfl : _ = [_, _, _])) ?_
    refine SsTo.cv (b1 := wvMk bs ([0], 0)) (by rfl) ?_
    refine SsTo.cons (b1 := (wvMk bs (bs.foldl wvG ([0], 0)))) (StTo.for (FsTo.fz 0 rfl (by kernel_rfl) (by exact ItTo.lst)) (by kernel_rfl) ?_) ?_
    · refine (LpTo.fL (σ := List Int × Int) (ι := Bool) (f := sgV) (mk := wvMk bs) (g := wvG) (I := fun s r => s.1 ≠ [] ∧ s.1.length + r.length ≤ 101) (fun s b r hI => ?_) bs ([0], 0) ⟨by decide, by show 1 + bs.length ≤ 101; omega⟩).1
      obtain ⟨h1, h2⟩ := hI
      obtain ⟨cs, d⟩ := s
      dsimp only at h1 h2
      rw [List.length_cons] at h2
      have hl := List.length_pos_iff.mpr h1
      have sbl := sb_last h1 (by omega)
      cases b with
      | true =>
        refine ⟨?_, fun q => h1 ?_, ?_⟩
        rotate_left
        · have q : cs.set (cs.length - 1) (cs.getD (cs.length - 1) 0 + 1) = [] := q
          have := congrArg List.length q
          rw [List.length_set] at this
          exact List.eq_nil_of_length_eq_zero this
        · show (cs.set (cs.length - 1) (cs.getD (cs.length - 1) 0 + 1)).length + r.length ≤ 101
          rw [List.length_set]; omega
        show TnTo _ _ _ _ _ _ _ (wvMk bs (cs.set (cs.length - 1) (cs.getD (cs.length - 1) 0 + 1), d))
        have el : (cs.map V.int)[cs.length - 1]? = some (.int (cs.getD (cs.length - 1) 0)) := by
          rw [List.getElem?_map, List.getD_eq_getElem?_getD, List.getElem?_eq_getElem (by omega)]; rfl
        unfold wvMk
        dsimp only
        rw [List.map_set]
        refine TnTo.mk [_, _, _, _] (BdTo.nm 3 .own (rfl) (by kernel_rfl) (rfl : _ = [_, _, _, _])) ?_
        refine SsTo.cons (b1 := [_, _, _, _]) (StTo.ifT (EtTo.cm (EvTo.nm 3 rfl (by kernel_rfl)) EvTo.cStr (by exact CmTo.eq (eqV_str opnS_ok opnS_ok)) (by decide +kernel) rfl) (by
            refine SsTo.cons (b1 := [_, _, _, _]) (StTo.augI (f1 := false) (f2 := false) (PlTo.nm 1 rfl (by kernel_rfl) (rfl : _ = [_, _, _, _])) (EvTo.neg (f1 := false) EvTo.cInt) rfl (by rw [List.length_map]; exact idx_last hl) el EvTo.cInt AgTo.addI rfl (by rw [List.length_map]; omega)) ?_
            exact SsTo.nil)) ?_
        exact SsTo.dn (r := [_]) rfl
      | false =>
        by_cases q : d = 0
        · subst q
          refine ⟨?_, fun q => ?_, ?_⟩
          rotate_left
          · have q : cs ++ [0] = [] := q
            exact absurd (List.append_eq_nil_iff.mp q).2 (by decide)
          · show (cs ++ [0]).length + r.length ≤ 101
            rw [List.length_append, List.length_singleton]; omega
          show TnTo _ _ _ _ _ _ _ (wvMk bs (cs ++ [0], cs.getD (cs.length - 1) 0 - 1))
          unfold wvMk
          dsimp only
          rw [List.map_append]
          refine TnTo.mk [_, _, _, _] (BdTo.nm 3 .own (rfl) (by kernel_rfl) (rfl : _ = [_, _, _, _])) ?_
          refine SsTo.cons (b1 := [_, _, _, _]) (StTo.ifF (EtTo.cm (EvTo.nm 3 rfl (by kernel_rfl)) EvTo.cStr (by exact CmTo.eq (eqV_str (sg_ok false) opnS_ok)) (by decide +kernel) rfl) (by
              refine SsTo.cons (b1 := [_, _, _, _]) (StTo.ifT (EtTo.cm (EvTo.nm 2 rfl (by kernel_rfl)) EvTo.cInt (by first | assumption | exact CmTo.eqI | exact CmTo.eqS (by first | assumption | omega | rfl) (by first | assumption | omega | rfl)) (by decide) rfl) (by
                  refine SsTo.cons (b1 := [_, _, _, _]) (StTo.put 2 (EvTo.any rfl (EvTo.sub (f1 := false) (f2 := false) (EvTo.nm 1 rfl (by kernel_rfl)) (EvTo.neg (f1 := false) EvTo.cInt) (by exact sbl) (fun _ _ => rfl))) (by kernel_rfl) rfl (rfl : _ = [_, _, _, _])) ?_
                  refine SsTo.cons (b1 := [_, _, _, _]) (StTo.app (fun _ => rfl) rfl (fun _ => rfl) (PlTo.nm 1 rfl (by kernel_rfl) (rfl : _ = [_, _, _, _])) EvTo.cInt (by rw [List.length_map]; omega)) ?_
                  exact SsTo.nil)) ?_
              refine SsTo.cons (b1 := [_, _, _, _]) (StTo.agm 2 EvTo.cInt rfl (by kernel_rfl) (by exact AgTo.subI) (rfl : _ = [_, _, _, _])) ?_
              exact SsTo.nil)) ?_
          exact SsTo.dn (r := [_]) rfl
        · have q' : (d == 0) = false := by simpa using q
          refine ⟨?_, ?_, ?_⟩
          rotate_left
          · rw [show wvG (cs, d) false = (cs, d - 1) from if_neg q]; exact h1
          · rw [show wvG (cs, d) false = (cs, d - 1) from if_neg q]; dsimp only; omega
          rw [show wvG (cs, d) false = (cs, d - 1) from if_neg q]
          unfold wvMk
          dsimp only
          refine TnTo.mk [_, _, _, _] (BdTo.nm 3 .own (rfl) (by kernel_rfl) (rfl : _ = [_, _, _, _])) ?_
          refine SsTo.cons (b1 := [_, _, _, _]) (StTo.ifF (EtTo.cm (EvTo.nm 3 rfl (by kernel_rfl)) EvTo.cStr (by exact CmTo.eq (eqV_str (sg_ok false) opnS_ok)) (by decide +kernel) rfl) (by
              refine SsTo.cons (b1 := [_, _, _, _]) (StTo.ifF (EtTo.cm (EvTo.nm 2 rfl (by kernel_rfl)) EvTo.cInt (by first | assumption | exact CmTo.eqI | exact CmTo.eqS (by first | assumption | omega | rfl) (by first | assumption | omega | rfl)) (by exact q') rfl) (by
                  exact SsTo.nil)) ?_
              refine SsTo.cons (b1 := [_, _, _, _]) (StTo.agm 2 EvTo.cInt rfl (by kernel_rfl) (by exact AgTo.subI) (rfl : _ = [_, _, _, _])) ?_
              exact SsTo.nil)) ?_
          exact SsTo.dn (r := [_]) rfl
    unfold wvMk
    exact SsTo.rt (RtTo.fresh (EvTo.bi (f0 := false) (f1 := false) (EvTo.gl (gl_tuple T) (by kernel_rfl)) (EvsTo.cons (fun _ => rfl) (EvTo.to (v' := .lst ((wvR bs).map .int)) (EvTo.slice (f1 := false) (EvTo.nm 1 rfl (by kernel_rfl)) EoTo.none (EoTo.some (f1 := false) (EvTo.neg (f1 := false) EvTo.cInt)) (by exact SlTo.lst (by rw [List.length_map]; exact hz) (fun _ => by rw [pick_last]; exact flatVs_int _))) (by rw [pick_last]; rfl)) EvsTo.nil) (by exact BiTo.tuple (by rw [List.length_map]; exact hz2) (flatVs_int _))))

noncomputable abbrev frs (l : List Env) : List Addr := l.filterMap (·.frame)
noncomputable def FrOk (h : Heap) (l : List Env) : Prop := ∀ e ∈ l, e.scope.kind ≠ .module ∧ ∃ L o, e.frame = some L ∧ h.get? L = some o ∧ ∃ es n, o.data = .dict es n
theorem FrOk.dict {h : Heap} {l : List Env} (x : FrOk h l) {b : Addr} (m : b ∈ frs l) : ∃ o es n, h.get? b = some o ∧ o.data = .dict es n := by
  obtain ⟨e, he, hf⟩ := List.mem_filterMap.mp m
  obtain ⟨_, L, o, h1, h2, es, n, h3⟩ := x e he
  rw [hf] at h1; cases h1
  exact ⟨o, es, n, h2, h3⟩
theorem FrOk.keeps {h h' : Heap} {l : List Env} (x : FrOk h l) (k : ∀ b o, h.get? b = some o → b ∈ frs l → ∃ o', h'.get? b = some o' ∧ o'.data = o.data) : FrOk h' l := fun e m => by
  obtain ⟨a, L, o, h1, h2, es, n, h3⟩ := x e m
  obtain ⟨o', h4, h5⟩ := k L o h2 (List.mem_filterMap.mpr ⟨e, m, h1⟩)
  exact ⟨a, L, o', h1, h4, es, n, h5 ▸ h3⟩
theorem FrOk.fun {h : Heap} : ∀ {l : List Env}, FrOk h l → h.FunFrames ({} : Heap) l
  | [], _ => trivial
  | e :: r, x => by
    obtain ⟨a, L, o, h1, h2, es, n, h3⟩ := x e (.head _)
    exact ⟨a, ⟨L, o, h1, Heap.get?_none_of_le (Nat.zero_le _), h2, fun vs q => by rw [h3] at q; cases q⟩, FrOk.fun fun e m => x e (.tail _ m)⟩
noncomputable def ExcX (h : Heap) (e T : Addr) (fl : PySem.Value) : Prop := ∃ oe vs oT ts, h.get? e = some oe ∧ oe.cls = .type "ValueError" ∧ oe.data = .fields vs ∧ vs[1]? = some (.ref T) ∧ vs[2]? = some .none ∧ T ≠ e ∧ h.get? T = some oT ∧ oT.data = .fields ts ∧ ts[3]? = some fl
structure SlotX (S : List Addr) (e T : Addr) (h h' : Heap) : Prop where
  keep : ∀ b o, h.get? b = some o → b ∉ S → b ≠ e → b ≠ T → h'.get? b = some o
  slot : ∀ b o, h.get? b = some o → b ∈ S → ∃ sl, h'.get? b = some { o with slots := sl }
section
variable {M : Model} {A : Around} {E : PySem.Value → Shared → Prop} {s : Shared}
theorem tb_fields (a b c d e : PySem.Value) {pl : List PySem.Value} (hp : IsPlace pl) : (([a, b, c, d, e] ++ (if pl.isEmpty then List.replicate 6 PySem.Value.none else pl)).toArray)[3]? = some d := rfl
theorem entry_ok2 {env : Env} {outer : List Env} {L e T : Addr} {oe : Obj} {vs : Array PySem.Value} {head : PySem.Value} {b : Bool} (fr : A.frames = some (env :: outer)) (fo : FrOk s.heap (env :: outer)) (hf : env.frame = some L)
    (he : s.heap.get? e = some oe) (hc : oe.cls = .type "ValueError") (hd : oe.data = .fields vs) (h1 : 1 < vs.size) (h2 : vs[2]? = some .none) {Q : Unit → Shared → Prop}
    (h : ∀ h' T', s.heap.get? T' = none → ExcX h' e T' (rawInt L) → SlotX (frs (env :: outer)) e T s.heap h' → Q () { s with heap := h' }) :
    wpAny M A (do let a ← frameOf env; let pl ← entryPlaceOf L b; let t ← EntryCells.newEntry head a .none (rawInt L) .none pl; setField (.ref e) 1 t) Q E s := by
  refine wpAny_bind (wpAny_frameOf_fun fr fo.fun hf fun h₁ hs₁ => ?_)
  refine wpAny_bind (wpAny_entryPlaceOf fun pl hpl => ?_)
  have eS : e ∉ frs (env :: outer) := fun m => by
    obtain ⟨o, es, n, a1, a2⟩ := fo.dict m
    rw [he] at a1; cases a1
    rw [hd] at a2; cases a2
  unfold EntryCells.newEntry newFields
  refine wpAny_bind (wpAny_newObj_type ?_ (hpl.sizeOk5 _ _ _ _ _))
  have he₁ : h₁.get? e = some oe := (hs₁.2.1 e eS).trans he
  have he₂ := Heap.get?_push_of_some (h := h₁) { cls := .type "traceback", dict := none, data := .fields ([head, .ref L, .none, rawInt L, .none] ++ (if pl.isEmpty then List.replicate 6 PySem.Value.none else pl)).toArray } he₁
  refine wpAny_setField he₂ hd h1 ?_
  have hTe : e ≠ h₁.objs.size := Nat.ne_of_lt (Heap.lt_size he₁)
  have hd₃ := Obj.data_mapFields hd (·.setIfInBounds 1 (PySem.Value.ref h₁.objs.size))
  have other : ∀ b o, b ≠ e → h₁.get? b = some o → ((h₁.push { cls := .type "traceback", dict := none, data := .fields ([head, .ref L, .none, rawInt L, .none] ++ (if pl.isEmpty then List.replicate 6 PySem.Value.none else pl)).toArray }).update e (Obj.mapFields (·.setIfInBounds 1 (PySem.Value.ref h₁.objs.size)))).get? b = some o := fun b o n q => by
    rw [Heap.get?_update_other _ _ (Ne.symm n)]
    exact Heap.get?_push_of_some _ q
  refine h _ h₁.objs.size (Heap.get?_none_of_le (by rw [hs₁.1]; exact Nat.le_refl _)) ⟨_, _, ({ cls := .type "traceback", dict := none, data := .fields ([head, .ref L, .none, rawInt L, .none] ++ (if pl.isEmpty then List.replicate 6 PySem.Value.none else pl)).toArray } : Obj), _, Heap.get?_update_self _ he₂ (Obj.isFreed_of_fields hd₃), (Obj.cls_mapFields ..).trans hc, hd₃, ?_, ?_, Ne.symm hTe, ?_, rfl, tb_fields _ _ _ _ _ hpl⟩ ⟨fun b o q n n1 _ => ?_, fun b o q m => ?_⟩
  · simp [h1]
  · rw [Array.getElem?_setIfInBounds_ne (by decide)]; exact h2
  · rw [Heap.get?_update_other _ _ hTe]; exact Heap.get?_push_size h₁ rfl
  · exact other b o n1 ((hs₁.2.1 b n).trans q)
  · obtain ⟨sl, q'⟩ := hs₁.2.2 b o q
    exact ⟨sl, other b _ (fun k => eS (k ▸ m)) q'⟩
theorem flight_ok {e T : Addr} {fl : PySem.Value} (x : ExcX s.heap e T fl) {Q : Unit → Shared → Prop} (h : ∀ h', ExcX h' e T .none → (∀ b o, s.heap.get? b = some o → b ≠ T → h'.get? b = some o) → Q () { s with heap := h' }) : wpAny M A (setFlight (.ref e) none) Q E s := by
  obtain ⟨oe, vs, oT, ts, he, hc, hd, h1, h2, hTe, hT, hdT, h3⟩ := x
  unfold setFlight
  refine wpAny_bind (wpAny_field he hd h1 ?_)
  rw [if_pos (show (PySem.Value.ref T != PySem.Value.none) = true from by simp)]
  have hsz : 3 < ts.size := (Array.getElem?_eq_some_iff.mp h3).1
  have other : ∀ b o, s.heap.get? b = some o → b ≠ T → (s.heap.update T (Obj.mapFields (·.setIfInBounds 3 ((none : Option Addr).elim PySem.Value.none fun f => rawInt f)))).get? b = some o := fun b o q n => (Heap.get?_update_other _ _ (Ne.symm n)).trans q
  refine wpAny_setField hT hdT hsz (h _ ⟨oe, vs, _, _, other e oe he (Ne.symm hTe), hc, hd, h1, h2, hTe, Heap.get?_update_self _ hT (Obj.isFreed_of_fields (Obj.data_mapFields hdT _)), Obj.data_mapFields hdT _, ?_⟩ other)
  simp [hsz]
theorem note_ok {env : Env} {outer : List Env} {L e T : Addr} (fr : A.frames = some (env :: outer)) (fo : FrOk s.heap (env :: outer)) (hf : env.frame = some L) (x : ExcX s.heap e T .none) {Q : Unit → Shared → Prop}
    (h : ∀ h' T', T' = T ∨ s.heap.get? T' = none → ExcX h' e T' (rawInt L) → SlotX (frs (env :: outer)) e T s.heap h' → Q () { s with heap := h' }) : wpAny M A (noteFrame (.ref e) env) Q E s := by
  obtain ⟨oe, vs, oT, ts, he, hc, hd, h1, h2, hTe, hT, hdT, h3⟩ := x
  unfold noteFrame
  simp only [hf]
  refine wpAny_bind (wpAny_field he hd h1 ?_)
  rw [if_pos (show (PySem.Value.ref T != PySem.Value.none) = true from by simp)]
  refine wpAny_bind (wpAny_field hT hdT h3 ?_)
  rw [if_neg (show ¬ ((PySem.Value.none == rawInt L) = true) from by simp [rawInt])]
  have hsz : 3 < ts.size := (Array.getElem?_eq_some_iff.mp h3).1
  refine wpAny_bind (wpAny_setField hT hdT hsz ?_)
  have other : ∀ b o, s.heap.get? b = some o → b ≠ T → (s.heap.update T (Obj.mapFields (·.setIfInBounds 3 PySem.Value.none))).get? b = some o := fun b o q n => (Heap.get?_update_other _ _ (Ne.symm n)).trans q
  have TS : ∀ b ∈ frs (env :: outer), b ≠ T := fun b m q => by
    obtain ⟨o, es, n, a1, a2⟩ := fo.dict m
    rw [q, hT] at a1; cases a1
    rw [hdT] at a2; cases a2
  refine entry_ok2 (T := T) fr (fo.keeps fun b o q m => ⟨o, other b o q (TS b m), rfl⟩) hf (other e oe he (Ne.symm hTe)) hc hd (Array.getElem?_eq_some_iff.mp h1).1 h2 fun h' T' n x y => h h' T' ?_ x ⟨fun b o q n1 n2 n3 => y.keep b o (other b o q n3) n1 n2 n3, fun b o q m => y.slot b o (other b o q (TS b m)) m⟩
  cases q : s.heap.get? T' with
  | none => exact .inr rfl
  | some o =>
    by_cases k : T' = T
    · exact .inl k
    · have := other T' o q k
      rw [n] at this; cases this
theorem note_new {env : Env} {outer : List Env} {L e t : Addr} (fr : A.frames = some (env :: outer)) (fo : FrOk s.heap (env :: outer)) (hf : env.frame = some L) (he : s.heap.get? e = some { cls := .type "ValueError", data := .fields #[.ref t, .none, .none, .none, .bool false, .none] }) {Q : Unit → Shared → Prop}
    (h : ∀ h' T', s.heap.get? T' = none → ExcX h' e T' (rawInt L) → SlotX (frs (env :: outer)) e T' s.heap h' → Q () { s with heap := h' }) : wpAny M A (noteFrame (.ref e) env) Q E s := by
  unfold noteFrame
  simp only [hf]
  refine wpAny_bind (wpAny_field he rfl (x := .none) rfl ?_)
  rw [if_neg (by decide)]
  exact entry_ok2 (T := e) fr fo hf he rfl rfl (show 1 < 6 by decide) rfl fun h' T' n x y => h h' T' n x ⟨fun b o q n1 n2 _ => y.keep b o q n1 n2 n2, y.slot⟩
end
structure Fly (l : List Env) (s₀ s : Shared) (e : Addr) (fl : PySem.Value) : Prop where
  keep : ∀ b o, s₀.heap.get? b = some o → b ∉ frs l → s.heap.get? b = some o
  slot : ∀ b o, s₀.heap.get? b = some o → b ∈ frs l → ∃ sl, s.heap.get? b = some { o with slots := sl }
  os : s.os = s₀.os
  gens : ∀ (i : Nat) (g : GenState), s₀.gens[i]? = some g → s.gens[i]? = some g
  bare : AllBare s₀.gens → AllBare s.gens
  new : s₀.heap.get? e = none
  exc : ∃ T, s₀.heap.get? T = none ∧ ExcX s.heap e T fl
section
variable {M : Model} {A : Around} {E : PySem.Value → Shared → Prop} {s₀ s s1 : Shared}
theorem Fly.ext {l : List Env} {e : Addr} {fl : PySem.Value} (x : Ext s₀ s1) (f : Fly l s1 s e fl) : Fly l s₀ s e fl :=
  ⟨fun b o q n => f.keep b o (x.keep b o q) n, fun b o q m => f.slot b o (x.keep b o q) m, f.os.trans x.os, fun i g q => f.gens i g (x.gens i g q (by first | exact nn | nofun)), fun z => f.bare (x.bare z), back x f.new, let ⟨T, a, b⟩ := f.exc; ⟨T, back x a, b⟩⟩
theorem Fly.pop {env : Env} {l : List Env} {e L : Addr} {fl : PySem.Value} (hf : env.frame = some L) (n : s₀.heap.get? L = none) (f : Fly (env :: l) s₀ s e fl) : Fly l s₀ s e fl := by
  have h : frs (env :: l) = L :: frs l := by unfold frs; rw [List.filterMap_cons, hf]
  refine ⟨fun b o q k => f.keep b o q (by rw [h]; exact fun m => (List.mem_cons.mp m).elim (fun z => by rw [z, n] at q; cases q) k), fun b o q m => f.slot b o q (by rw [h]; exact .tail _ m), f.os, f.gens, f.bare, f.new, f.exc⟩
theorem FrOk.fly {l l' : List Env} {e : Addr} {fl : PySem.Value} (x : FrOk s₀.heap l') (f : Fly l s₀ s e fl) : FrOk s.heap l' := x.keeps fun b o q m => by
  by_cases k : b ∈ frs l
  · obtain ⟨sl, q'⟩ := f.slot b o q k
    exact ⟨_, q', rfl⟩
  · exact ⟨o, f.keep b o q k, rfl⟩
theorem Fly.turn {l : List Env} {e T T' : Addr} {fl fl' : PySem.Value} {h' : Heap} {tk : Nat} (f : Fly l s₀ s e fl) (n : s₀.heap.get? T = none) (n' : s₀.heap.get? T' = none) (x : ExcX h' e T' fl') (y : SlotX (frs l) e T s.heap h') : Fly l s₀ { s with heap := h', toks := tk } e fl' := by
  refine ⟨fun b o q k => y.keep b o (f.keep b o q k) k (fun z => by rw [z, f.new] at q; cases q) (fun z => by rw [z, n] at q; cases q), fun b o q m => ?_, f.os, f.gens, f.bare, f.new, T', n', x⟩
  obtain ⟨sl, q1⟩ := f.slot b o q m
  obtain ⟨sl', q2⟩ := y.slot b _ q1 m
  exact ⟨sl', q2⟩
theorem FrOk.slotX {l : List Env} {e T : Addr} {h h' : Heap} (x : FrOk h l) (y : SlotX (frs l) e T h h') : FrOk h' l := x.keeps fun b o q m => by
  obtain ⟨sl, q'⟩ := y.slot b o q m
  exact ⟨_, q', rfl⟩
theorem FrOk.offT {l : List Env} {h : Heap} {e T : Addr} {fl : PySem.Value} (x : FrOk h l) (k : ExcX h e T fl) : ∀ b ∈ frs l, b ≠ T := fun b m z => by
  obtain ⟨o', es, nn', a1, a2⟩ := x.dict m
  obtain ⟨_, _, oT, ts, _, _, _, _, _, _, hT, hdT, _⟩ := k
  rw [z, hT] at a1; cases a1
  rw [hdT] at a2; cases a2
theorem Fly.flight {l : List Env} {e T : Addr} {fl : PySem.Value} (f : Fly l s₀ s e fl) (n : s₀.heap.get? T = none) (fo : FrOk s.heap l) (x : ExcX s.heap e T fl) {Q : Unit → Shared → Prop} (h : ∀ h', Fly l s₀ { s with heap := h' } e .none → FrOk h' l → ExcX h' e T .none → (∀ b o, s.heap.get? b = some o → b ≠ T → h'.get? b = some o) → Q () { s with heap := h' }) : wpAny M A (setFlight (.ref e) none) Q E s :=
  flight_ok x fun h2 x2 k2 => by
    have y : SlotX (frs l) e T s.heap h2 := ⟨fun b o q _ _ k => k2 b o q k, fun b o q m => ⟨o.slots, k2 b o q (fo.offT x b m)⟩⟩
    exact h _ (f.turn (tk := s.toks) n n x2 y) (fo.slotX y) x2 k2
theorem Fly.note {env : Env} {l : List Env} {e L : Addr} (fr : A.frames = some (env :: l)) (fo : FrOk s.heap (env :: l)) (hf : env.frame = some L) (f : Fly (env :: l) s₀ s e .none) {Q : Unit → Shared → Prop} (h : ∀ h' T, s₀.heap.get? T = none → Fly (env :: l) s₀ { s with heap := h' } e (rawInt L) → FrOk h' (env :: l) → ExcX h' e T (rawInt L) → Q () { s with heap := h' }) : wpAny M A (noteFrame (.ref e) env) Q E s := by
  obtain ⟨T, n, x⟩ := f.exc
  refine note_ok fr fo hf x fun h' T' nT x' y => ?_
  have back' : ∀ {a}, s.heap.get? a = none → s₀.heap.get? a = none := fun {a} q => by
    cases k : s₀.heap.get? a with
    | none => rfl
    | some o =>
      by_cases m : a ∈ frs (env :: l)
      · obtain ⟨sl, z⟩ := f.slot a o k m; rw [q] at z; cases z
      · have z := f.keep a o k m; rw [q] at z; cases z
  have n' : s₀.heap.get? T' = none := nT.elim (fun z => z ▸ n) back'
  exact h h' T' n' (f.turn (tk := s.toks) n n' x' y) (fo.slotX y) x'
theorem Fly.leave {env : Env} {l : List Env} {e L : Addr} (fr : A.frames = some (env :: l)) (fo : FrOk s.heap (env :: l)) (hf : env.frame = some L) (f : Fly (env :: l) s₀ s e .none) {Q : Unit → Shared → Prop} (h : ∀ s', Fly (env :: l) s₀ s' e .none → Q () s') : wpAny M A (leaving env (.ref e)) Q E s := by
  unfold leaving
  refine wpAny_bind (f.note fr fo hf fun h' T n f' fo' x' => ?_)
  exact f'.flight (s := { s with heap := h' }) n fo' x' fun h2 f2 _ _ _ => h _ f2
theorem raw_leave {env : Env} {l : List Env} {e L t : Addr} (fr : A.frames = some (env :: l)) (fo : FrOk s.heap (env :: l)) (hf : env.frame = some L) (x : Ext s₀ s) (ne : s₀.heap.get? e = none) (he : s.heap.get? e = some { cls := .type "ValueError", data := .fields #[.ref t, .none, .none, .none, .bool false, .none] }) {Q : Unit → Shared → Prop} (h : ∀ s', Fly (env :: l) s₀ s' e .none → Q () s') : wpAny M A (leaving env (.ref e)) Q E s := by
  unfold leaving
  refine wpAny_bind (note_new fr fo hf he fun h' T' nT x' y => ?_)
  have f' : Fly (env :: l) s₀ { s with heap := h' } e (rawInt L) := ⟨fun b o q k => y.keep b o (x.keep b o q) k (fun z => by rw [z, ne] at q; cases q) (fun z => by rw [z, back x nT] at q; cases q), fun b o q m => y.slot b o (x.keep b o q) m, x.os, fun i g q => x.gens i g q (by first | exact nn | nofun), x.bare, ne, T', back x nT, x'⟩
  exact f'.flight (s := { s with heap := h' }) (back x nT) (fo.slotX y) x' fun h2 f2 _ _ _ => h _ f2
end

noncomputable def Raw (s₀ s : Shared) (e : Addr) : Prop := Ext s₀ s ∧ s₀.heap.get? e = none ∧ ∃ t, s.heap.get? e = some { cls := .type "ValueError", data := .fields #[.ref t, .none, .none, .none, .bool false, .none] }
structure FrT {c : Cx} {pe : PE} (t : At c pe) (l : List Env) : Prop where
  fr : t.A.frames = some (t.env :: l)
  ok : FrOk t.s.heap (t.env :: l)
theorem FrT.ext {c : Cx} {pe : PE} {t : At c pe} {l : List Env} (F : FrT t l) {s1 : Shared} (x : Ext t.s s1) : FrT (t.ext x) l := ⟨F.fr, F.ok.keeps fun b o q _ => ⟨o, x.keep b o q, rfl⟩⟩
theorem FrOk.cons {h : Heap} {l : List Env} {env : Env} {m : PySem.Str → Option PySem.Value} (x : FrOk h l) (hk : env.scope.kind = .function) (hf : env.frame = some env.locals) (n : h.Ns env.locals m) : FrOk h (env :: l) := fun e k => by
  rcases List.mem_cons.mp k with rfl | k
  · obtain ⟨o, es, ep, a, b, _⟩ := n
    exact ⟨by rw [hk]; decide, _, o, hf, a, es, ep, b⟩
  · exact x e k
structure FrS {c : Cx} {sc : Scope} {b : Loc} (t : AtS c sc b) (s₀ : Shared) (l : List Env) : Prop where
  fr : t.A.frames = some (t.env :: l)
  me : t.env.frame = some t.env.locals
  x : Ext s₀ t.s
  new : ∀ a ∈ t.WL ++ t.O, s₀.heap.get? a = none
  low : FrOk s₀.heap l
theorem FrS.ok {c : Cx} {sc : Scope} {b : Loc} {t : AtS c sc b} {s₀ : Shared} {l : List Env} (F : FrS t s₀ l) : FrOk t.s.heap (t.env :: l) := by
  obtain ⟨m, hm, _⟩ := t.X.ns
  exact (F.low.keeps fun b o q _ => ⟨o, F.x.keep b o q, rfl⟩).cons (by rw [t.X.sc]; exact t.X.kind) F.me hm
theorem FrS.toT {c : Cx} {sc : Scope} {b : Loc} {t : AtS c sc b} {s₀ : Shared} {l : List Env} (F : FrS t s₀ l) : FrT t.toAt l := ⟨F.fr, F.ok⟩
theorem FrS.exts {c : Cx} {sc : Scope} {b : Loc} {t : AtS c sc b} {s₀ : Shared} {l : List Env} (F : FrS t s₀ l) {s1 : Shared} (x : Ext t.s s1) : FrS (t.exts x) s₀ l := ⟨F.fr, F.me, F.x.ext x, F.new, F.low⟩
theorem FrS.next {c : Cx} {sc : Scope} {b b' : Loc} {t : AtS c sc b} {s₀ : Shared} {l : List Env} (F : FrS t s₀ l) {s' : Shared} {FP' : PySem.Str → List Addr} {O' : List Addr} (P : t.P b' s' FP' O') : FrS (t.next P) s₀ l :=
  ⟨F.fr, F.me, F.x.then P.stp F.new, fun a m => (List.mem_append.mp m).elim (fun k => F.new a (List.mem_append_left _ k)) fun k => (P.own a k).elim (fun k => F.new a (List.mem_append_right _ k)) (back F.x), F.low⟩
noncomputable def RzS (c : Cx) (sc : Scope) (b : Loc) (ss : List Stmt) : Prop := ∀ (t : AtS c sc b) (s₀ : Shared) (l : List Env), FrS t s₀ l → (∀ e s', (Fly (t.env :: l) s₀ s' e .none ∨ Raw s₀ s' e) → FrOk s'.heap (t.env :: l) → t.E (.ref e) s') → wpAny t.M t.A (execs ss t.env) (fun _ _ => False) t.E t.s
noncomputable def RzE (c : Cx) (pe : PE) (e : Expr) : Prop := ∀ (t : At c pe) (l : List Env), FrT t l → (∀ e s', Fly (t.env :: l) t.s s' e .none → t.E (.ref e) s') → wpAny t.M t.A (eval e t.env) (fun _ _ => False) t.E t.s
structure RzFn (c : Cx) (f : Addr) (R : List V → List (PySem.Str × V) → Prop) : Prop where
  keep : ∀ h, c.K.In h → ∃ k, (k = Keeper.frame ∨ k = Keeper.machine ∨ k = Keeper.boundFrame) ∧ Looks (model c.prog c.w) h (keeperOf (.ref f)) k
  call : ∀ args kws, R args kws → ∀ (A : Around) (E : PySem.Value → Shared → Prop) (s : Shared) (us ks : List PySem.Value) (fp g : List Addr) (l : List Env), Room c.q c.h₀ (c.R + 2) A → Low c.h₀ s → A.frames = some l → FrOk s.heap l →
    VRs s.heap us args fp → VRs s.heap ks (kws.map (·.2)) g → (∀ e s', Fly l s s' e .none → E (.ref e) s') → wpAny (model c.prog c.w) A (PySem.call (.ref f) us ((kws.map (·.1)).zip ks)) (fun _ _ => False) E s
section
variable {c : Cx} {sc : Scope} {b b1 : Loc} {ss body r' : List Stmt} {ts e o : Expr} {p pos cpos apos : Pos} {st : Stmt} {f : Addr} {dV kV : PySem.Value}
theorem rzFn_of {na : Nat} {names kwn : List PySem.Str} {R : List V → List (PySem.Str × V) → Prop} (I : FnIn c.K f st dV kV) (hsc : plainSc (scpOf st) = true) (ok : entOk (scpOf st) names = true) (hl : names.length = na + kwn.length)
    (hb : ∀ name qual doc pm cdv ct an (s : Shared) (us ks : List PySem.Value), us.length = na → ks.length = kwn.length → BindsTo s (fnOf name qual (prmOf st) (bodOf st) (scpOf st) dV kV doc pm an cdv ct) ⟨us, kwn.zip ks⟩ (names.zip (us ++ ks)))
    (hF : ∀ args kws, R args kws → args.length = na ∧ kws.map (·.1) = kwn ∧ RzS (c.pin []) (scpOf st) (entB names (args ++ kws.map (·.2))) (bodOf st)) : RzFn c f R := by
  refine ⟨fun h X => keeps_K I.kp h X, fun args kws e A E s us ks fp g l hr lo fr fo r1 r2 h => ?_⟩
  obtain ⟨e1, e2, q⟩ := hF _ _ e
  have l1 := r1.length
  have l2 : ks.length = kwn.length := by rw [r2.length, ← e2, List.length_map, List.length_map]
  rw [e2]
  obtain ⟨FP, N⟩ := entF_ok (h₀ := c.h₀) (sc := scpOf st) (xs := names) (VRs.append r2 r1) (by rw [hl, List.length_append, l1, l2, e1]) ok
  have kin : c.K.In s.heap := c.ok.base.kin.keeps lo
  obtain ⟨⟨name, qual, doc, pm, cdv, ct, oc, an, od, osl, i1, i3⟩, _⟩ := I
  simp only [plainSc, Bool.and_eq_true, Bool.not_eq_true', beq_iff_eq] at hsc
  obtain ⟨⟨i4, i5⟩, i6⟩ := hsc
  refine wpAny_call (codeAny_call_function (body := bodOf st) hr.depth (kin _ _ i1) rfl i5 i6 rfl (codeRec_of kin i3) (hb _ _ _ _ _ _ _ s us ks (l1.trans e1) l2 _ _ _ _ ?_))
  refine entry_okF i4 lo N fun env s2 WL X F hWL hloc x2 ff => ⟨(c.ok.base.lim.keeps lo).keeps x2.keep, codeAny_func ?_⟩
  have nl : s.heap.get? env.locals = none := hWL _ hloc.1
  have fr2 : (A.deeper env).frames = some (env :: l) := Around.frames_deeper fr
  refine wpAny_mono (q ⟨⟨A.deeper env, _, s2, env, FP, [], Room.deeper (hr.mono (Nat.le_succ _)), X⟩, WL, F⟩ s l ⟨fr2, ff, x2, fun a m => hWL a (by rwa [List.append_nil] at m), fo⟩ fun e' s3 k fo3 => ?_) (fun _ _ z => z.elim) fun _ _ z => z
  have fin : ∀ s4, Fly (env :: l) s s4 e' .none → E (.ref e') s4 := fun s4 fl => h e' s4 (fl.pop ff nl)
  rcases k with k | ⟨x, n, t, k⟩
  · exact k.leave fr2 fo3 ff fin
  · exact raw_leave fr2 fo3 ff x n k fin
theorem RzS.cons (h1 : StTo c sc b st .next b1) (h2 : RzS c sc b1 ss) : RzS c sc b (st :: ss) := fun t s₀ l F h => by
  refine wpAny_execs_cons (h1 t _ fun f s1 FP1 O1 P g => ?_)
  cases f <;> first | exact (g : False).elim | skip
  exact h2 (t.next P) s₀ l (F.next P) h
theorem RzS.ifT (h1 : EtTo c ⟨sc, b⟩ ts true) (h2 : RzS c sc b body) : RzS c sc b (.If ts body r' p :: ss) := fun t s₀ l F h => by
  refine wpAny_execs_cons (wpAny_If (h1 t.toAt _ fun s1 x1 => ?_))
  exact wpAny_mono (h2 (t.exts x1) s₀ l (F.exts x1) h) (fun _ _ z => z.elim) fun _ _ z => z
theorem RzS.raise (hq : c.q = true) {x : PySem.Str} {np : Pos} {v : V} {fr : Bool} (h0 : EvTo c ⟨sc, b⟩ (.Name x np) (.val (.type "ValueError")) false) (hs : ∀ env, starEach [e] env = [(false, eval e env)]) (h1 : EvTo c ⟨sc, b⟩ e v fr) : RzS c sc b (.Raise (some (.Call (.Name x np) [e] [] cpos)) none p :: ss) := fun t s₀ l F h => by
  refine wpAny_execs_cons (wpAny_Raise_call PySem.F.excCall_ValueError PySem.F.excRaise_ValueError (t.room.no hq) (by rw [hs]; rfl) (h0 t.toAt _ fun u s1 p1 => ?_))
  obtain ⟨f0, x1, r1, o1, _⟩ := p1
  refine VR.valE r1 fun _ => ⟨rfl, ?_⟩
  rw [hs]
  rw [← hs]
  obtain ⟨X, hX⟩ : ∃ X, backTo cpos (starEach [e] t.env) = [(false, X)] := by rw [hs]; exact ⟨_, rfl⟩
  have q := (EvsTo.cons hs h1 .nil).2 (t.toAt.ext x1) cpos
  rw [show (t.toAt.ext x1).env = t.env from rfl, hX] at q
  rw [hX]
  refine evalArgs_plain (q _ fun us s2 p2 => ?_)
  obtain ⟨f2, x2, r2, o2, _⟩ := p2
  have x12 := x1.ext x2
  have l2 := r2.length
  refine ⟨rfl, by rw [l2, sizeLine_eq]; exact (by decide : 1 ≤ 16777216), fun h' e' m => ?_⟩
  obtain ⟨tt, ht, _, _⟩ := m.there
  have x3 : Ext t.s { s2 with heap := h' } := x12.ext (.of_heap (tk := s2.toks) m.keeps)
  exact h e' _ (.inr ⟨F.x.ext x3, back (F.x.ext x12) m.new, tt, ht⟩) (F.ok.keeps fun b o q _ => ⟨o, x3.keep b o q, rfl⟩)
theorem RzS.asg {x : PySem.Str} (h1 : RzE c ⟨sc, b⟩ e) (hc : isComp e = false) : RzS c sc b (.Assign [.Name x p] e pos :: ss) := fun t s₀ l F h => by
  refine wpAny_execs_cons (wpAny_Assign_Name (wpAny_mono (h1 t.toAt l F.toT fun e' s' f => h e' s' (.inl (f.ext F.x)) (F.ok.fly f)) (fun _ _ z => z.elim) fun _ _ z => z) (swaps_no hc _ _))
theorem RzE.meth {c' : Cx} {pe : PE} {name : PySem.Str} {args : List Expr} {kws : List Keyword} {v0 : V} {vs : List V} {ks : List (PySem.Str × V)} {f0 f1 : Bool} {R : List V → List (PySem.Str × V) → Prop} (hb : ∀ env, attributeBase o name env (eval o env) = eval o env) (hn : (decide (args.length + kws.length < 20) && (apos.endLine == cpos.line)) = true) (h0 : EvTo c pe o v0 f0) (em : c.Γ.meth v0 name = some (.ref f)) (h1 : EvsTo c pe args vs f1) (h2 : EvkTo c pe kws ks)
    (rz : RzFn c' f R) (ep : c'.prog = c.prog) (ew : c'.w = c.w) (eK : c'.K = c.K) (eh : c'.h₀ = c.h₀) (eq : c'.q = c.q) (eR : c'.R + 2 ≤ c.R) (e : R (v0 :: vs) ks) : RzE c pe (.Call (.Attribute o name apos) args kws cpos) := fun t l F h => by
  rw [Bool.and_eq_true] at hn
  rw [arm_eval_Call, hb]
  refine wpAny_bind (h0 t _ fun u s1 p1 => wpAny_bind (wpAny_standAt ?_))
  obtain ⟨f0, x1, r1, o1, _⟩ := p1
  have hform : methodCallForm (args.length + kws.length) (backTo cpos (starEach args t.env)) (backToKw cpos (keywordEach kws t.env)) = true := by
    have kl := (h2.1 t.env cpos).2
    have hn := of_decide_eq_true hn.1
    unfold methodCallForm
    rw [kl, star_plain h1.1.1]
    simp only [Bool.and_true, Bool.and_eq_true, decide_eq_true_eq]
    refine ⟨?_, by split <;> omega⟩
    rw [List.all_eq_true]
    intro x hx
    unfold backTo at hx
    simp only [List.map_map, List.mem_map] at hx
    obtain ⟨y, _, rfl⟩ := hx
    simp
  have hpos : methodCallPos true o t.env apos cpos = pure cpos := by unfold methodCallPos; rw [hn.2]; rfl
  unfold methodCall
  rw [hform]
  refine wpAny_bind (wpAny_holding ((c.ok.meth _ _ _ em).2 t.A t.E s1 u f0 _ _ t.room (t.X.ext x1).low r1 fun s2 x2 => ?_))
  refine wpAny_bind (wpAny_of_eq hpos ?_)
  have x12 := x1.ext x2
  have kp : ∀ h, c.K.In h → ∃ k, (k = Keeper.frame ∨ k = Keeper.machine ∨ k = Keeper.boundFrame) ∧ Looks t.M h (keeperOf (.ref f)) k := by
    have := rz.keep
    rwa [ep, ew, eK] at this
  refine call_ok (t.ext x12) kp h1 h2 cpos fun us zs s3 fp g x3 ra rk so _ => ?_
  have x13 := x12.ext x3
  have F3 := F.ext x13
  have := rz.call _ _ e t.A t.E s3 (u :: us) zs (f0 ++ fp) g (t.env :: l) (by rw [eq, eh]; exact t.room.mono eR) (by rw [eh]; exact (t.X.ext x13).low) F3.fr F3.ok (.cons (r1.ext (x2.ext x3)) ra) rk fun e' s' fl => h e' s' (fl.ext x13)
  rw [ep, ew] at this
  exact wpAny_mono this (fun _ _ z => z.elim) fun _ _ z => z
end

noncomputable def SlotS (S : List Addr) (s s' : Shared) : Prop := ∀ b ∈ S, ∀ o, s.heap.get? b = some o → ∃ sl, s'.heap.get? b = some { o with slots := sl }
theorem SlotS.ext {S : List Addr} {s s' s'' : Shared} (x : SlotS S s s') (y : Ext s' s'') : SlotS S s s'' := fun b m o e => let ⟨sl, q⟩ := x b m o e; ⟨sl, y.keep _ _ q⟩
theorem SlotS.trans {S : List Addr} {s s' s'' : Shared} (x : SlotS S s s') (y : SlotS S s' s'') : SlotS S s s'' := fun b m o e => let ⟨_, q⟩ := x b m o e; let ⟨sl, q'⟩ := y b m _ q; ⟨sl, q'⟩
theorem SlotS.sub {S S' : List Addr} {s s' : Shared} (x : SlotS S s s') (h : ∀ a ∈ S', a ∈ S) : SlotS S' s s' := fun b m o e => x b (h b m) o e
theorem SlotS.of {S W : List Addr} {s s' : Shared} (x : Stp W [] s s') (h : ∀ a ∈ S, a ∉ W) : SlotS S s s' := fun b m o e => ⟨o.slots, x.heap b o e (.inr (h b m))⟩
theorem SlotS.back {S : List Addr} {s s0 s' : Shared} (y : Ext s s0) (x : SlotS S s0 s') : SlotS S s s' := fun b m o e => x b m o (y.keep _ _ e)
theorem EnvR.turnX {Pin : List Addr} {h₀ : Heap} {env : Env} {pe : PE} {FP : PySem.Str → List Addr} {O S : List Addr} {s s' : Shared} (X : EnvR Pin h₀ env pe FP O s.heap) (t : Stp S [] s s') (sl : SlotS S s s') (hd : ∀ b ∈ S, ∃ o es n, s.heap.get? b = some o ∧ o.data = .dict es n) (h0 : ∀ b ∈ S, h₀.get? b = none) (sep : ∀ x y, pe.b.lookup x = some y → ∀ a ∈ FP x, a ∉ S) : EnvR Pin h₀ env pe FP O s'.heap := by
  have ns : ∀ {m}, s.heap.Ns env.locals m → s'.heap.Ns env.locals m := fun {m} n => by
    obtain ⟨o, es, ep, a, b, r⟩ := n
    by_cases k : env.locals ∈ S
    · obtain ⟨sl, q⟩ := sl _ k o a
      exact ⟨_, es, ep, q, b, r⟩
    · exact ⟨o, es, ep, t.heap _ _ a (.inr k), b, r⟩
  have vr : ∀ {x y v}, pe.b.lookup x = some y → VR s.heap v y.1 (FP x) → VR s'.heap v y.1 (FP x) := fun e r => r.stp t (sep _ _ e)
  refine ⟨X.sc, X.kind, X.glo, X.blt, fun a o e => t.heap a o (X.low a o e) (.inr fun m => by rw [h0 a m] at e; cases e), X.above, ?_, fun x c e => ?_, X.kinds, X.apartC, X.off, X.own, X.frz, X.apart, X.newO, fun q a ha => ?_⟩
  · obtain ⟨m, a, b⟩ := X.ns
    exact ⟨m, ns a, fun x y e q => let ⟨v, c, d⟩ := b x y e q; ⟨v, c, vr e d⟩⟩
  · obtain ⟨a, w, ⟨o, b1, b2⟩, d⟩ := X.cells x c e
    refine ⟨a, w, ⟨o, t.heap _ _ b1 (.inr fun m => ?_), b2⟩, fun y e q => let ⟨v, f, g⟩ := d y e q; ⟨v, f, vr e g⟩⟩
    obtain ⟨o', es, n, k1, k2⟩ := hd c m
    rw [b1] at k1; cases k1
    rw [b2] at k2; cases k2
  · obtain ⟨m, a1, b⟩ := X.pin q a ha
    exact ⟨m, ns a1, b⟩
structure Fx {c : Cx} {sc : Scope} {b : Loc} (t : AtS c sc b) (l : List Env) : Prop where
  fr : t.A.frames = some (t.env :: l)
  me : t.env.frame = some t.env.locals
  loc : t.env.locals ∈ t.WL
  ok : FrOk t.s.heap l
  low : ∀ a ∈ frs l, c.h₀.get? a = none
  off : ∀ a ∈ frs l, a ∉ t.WL ∧ a ∉ t.O
  sep : ∀ x y, b.lookup x = some y → ∀ a ∈ t.FP x, a ∉ frs l
section
variable {c : Cx} {sc : Scope} {b b1 b' : Loc} {t : AtS c sc b} {l : List Env}
theorem frs_cons {env : Env} {l : List Env} (h : env.frame = some env.locals) : frs (env :: l) = env.locals :: frs l := by unfold frs; rw [List.filterMap_cons, h]
theorem Fx.all (F : Fx t l) : FrOk t.s.heap (t.env :: l) := by
  obtain ⟨m, hm, _⟩ := t.X.ns
  exact F.ok.cons (by rw [t.X.sc]; exact t.X.kind) F.me hm
theorem Fx.ex (F : Fx t l) {a : Addr} (m : a ∈ frs l) : ∃ o, t.s.heap.get? a = some o := let ⟨o, _, _, e, _⟩ := F.ok.dict m; ⟨o, e⟩
theorem Fx.next (F : Fx t l) {s' : Shared} {FP' : PySem.Str → List Addr} {O' : List Addr} (P : t.P b' s' FP' O') : Fx (t.next P) l := by
  have st : ∀ a ∈ frs l, a ∉ t.WL ++ t.O := fun a m k => (List.mem_append.mp k).elim (F.off a m).1 (F.off a m).2
  have nn' : ∀ a ∈ frs l, t.s.heap.get? a ≠ none := fun a m k => let ⟨o, e⟩ := F.ex m; by rw [k] at e; cases e
  exact ⟨F.fr, F.me, F.loc, F.ok.keeps fun a o q m => ⟨o, P.stp.heap a o q (.inr (st a m)), rfl⟩, F.low, fun a m => ⟨(F.off a m).1, fun k => (P.own a k).elim (F.off a m).2 (nn' a m)⟩, fun x y e a m k => (P.src x y e a m).elim (nn' a k) fun ⟨x', y', e', m'⟩ => F.sep x' y' e' a m' k⟩
theorem Fx.exts (F : Fx t l) {s1 : Shared} (x : Ext t.s s1) : Fx (t.exts x) l := ⟨F.fr, F.me, F.loc, F.ok.keeps fun a o q m => ⟨o, x.keep a o q, rfl⟩, F.low, F.off, F.sep⟩
theorem Fx.envX (F : Fx t l) {s' : Shared} (st : Stp (frs (t.env :: l)) [] t.s s') (sl : SlotS (frs (t.env :: l)) t.s s') : EnvR c.Pin c.h₀ t.env ⟨sc, b⟩ t.FP t.O s'.heap :=
  t.X.turnX st sl (fun b m => F.all.dict m) (fun b m => by
    rw [frs_cons F.me] at m
    exact (List.mem_cons.mp m).elim (fun z => z ▸ t.X.above) (F.low b)) fun x y e a m k => by
    rw [frs_cons F.me] at k
    exact (List.mem_cons.mp k).elim (t.X.off x y e a m) (F.sep x y e a m)
noncomputable abbrev Fx.go (F : Fx t l) {s' : Shared} (st : Stp (frs (t.env :: l)) [] t.s s') (sl : SlotS (frs (t.env :: l)) t.s s') : AtS c sc b := ⟨⟨t.A, t.E, s', t.env, t.FP, t.O, t.room, F.envX st sl⟩, t.WL, t.F⟩
theorem Fx.gone (F : Fx t l) {s' : Shared} (st : Stp (frs (t.env :: l)) [] t.s s') (sl : SlotS (frs (t.env :: l)) t.s s') : Fx (F.go st sl) l :=
  ⟨F.fr, F.me, F.loc, F.ok.keeps fun a o q m => let ⟨s, e⟩ := sl a (by rw [frs_cons F.me]; exact .tail _ m) o q; ⟨_, e, rfl⟩, F.low, F.off, F.sep⟩
end
structure FnX (q : Bool) (prog : Program) (w : World) (K : Frag) (h₀ : Heap) (R : Nat) (f : Addr) (F : List V → Option V) : Prop where
  keep : ∀ h, K.In h → ∃ k, (k = Keeper.frame ∨ k = Keeper.machine ∨ k = Keeper.boundFrame) ∧ Looks (model prog w) h (keeperOf (.ref f)) k
  call : ∀ args r, F args = some r → ∀ (A : Around) (E : PySem.Value → Shared → Prop) (s : Shared) (us : List PySem.Value) (fp : List Addr) (l : List Env) (Q : PySem.Value → Shared → Prop), Room q h₀ R A → Low h₀ s → A.frames = some l → FrOk s.heap l → (∀ a ∈ frs l, h₀.get? a = none) →
    VRs s.heap us args fp → (∀ a ∈ fp, a ∉ frs l) → (∀ u g s', Stp (frs l) [] s s' → SlotS (frs l) s s' → VR s'.heap u r g → g.Nodup → (∀ a ∈ g, s.heap.get? a = none) → Q u s') → wpAny (model prog w) A (PySem.call (.ref f) us []) Q E s
noncomputable def SsX (c : Cx) (sc : Scope) (b : Loc) (ss : List Stmt) (v : V) : Prop := ∀ (t : AtS c sc b) (l : List Env), Fx t l → ∀ (Q : Flow → Shared → Prop), (∀ u g s', Stp (t.WL ++ t.O ++ frs l) [] t.s s' → SlotS (frs l) t.s s' → VR s'.heap u v g → g.Nodup → (∀ a ∈ g, a ∈ t.O ∨ t.s.heap.get? a = none) → Q (.ret u) s') → wpAny t.M t.A (execs ss t.env) Q t.E t.s
noncomputable def EvX (c : Cx) (sc : Scope) (b : Loc) (e : Expr) (v : V) : Prop := ∀ (t : AtS c sc b) (l : List Env), Fx t l → ∀ (Q : PySem.Value → Shared → Prop), (∀ u g s', Stp (frs (t.env :: l)) [] t.s s' → SlotS (frs (t.env :: l)) t.s s' → VR s'.heap u v g → Q u s') → wpAny t.M t.A (eval e t.env) Q t.E t.s
section
variable {c : Cx} {sc : Scope} {b b1 b' : Loc} {ss suite : List Stmt} {st : Stmt} {e r l : Expr} {v v1 v2 a : V} {p q np cpos : Pos} {x : PySem.Str} {args : List Expr} {vs : List V} {f : Addr} {f0 f1 : Bool}
theorem SsX.of {fl : Fl} (h : SsTo c sc b ss (.ret v) b') : SsX c sc b ss v := fun t l F Q k => h t _ fun fw s' FP' O' P g => by
  cases fw <;> first | exact (g : False).elim | skip
  obtain ⟨fp, r, nd, m⟩ := (g : ∃ fp, _)
  exact k _ fp s' (P.stp.mono (fun a m => List.mem_append_left _ m) (by first | exact nn | nofun)) (.of P.stp fun a m z => (List.mem_append.mp z).elim (F.off a m).1 (F.off a m).2) r nd fun a z => (m a z).elim (fun z => P.own a z) .inr
theorem SsX.cons (h1 : StTo c sc b st .next b1) (h2 : SsX c sc b1 ss v) : SsX c sc b (st :: ss) v := fun t l F Q k => by
  refine wpAny_execs_cons (h1 t _ fun f s1 FP1 O1 P g => ?_)
  cases f <;> first | exact (g : False).elim | skip
  have so : ∀ a ∈ frs l, a ∉ t.WL ++ t.O := fun a m z => (List.mem_append.mp z).elim (F.off a m).1 (F.off a m).2
  refine h2 (t.next P) l (F.next P) Q fun u g s' s1' sl r nd m => k u g s' ?_ ?_ r nd fun a z => (m a z).elim (fun z => P.own a z) fun z => .inr (newBack P.dom z)
  · refine (P.stp.mono (fun a m => List.mem_append_left _ m) (by first | exact nn | nofun)).trans s1' (fun a m => ?_) (by first | exact nn | nofun)
    rcases List.mem_append.mp m with m | m
    · rcases List.mem_append.mp m with m | m
      · exact .inl (List.mem_append_left _ (List.mem_append_left _ m))
      · exact (P.own a m).imp (fun m => List.mem_append_left _ (List.mem_append_right _ m)) id
    · exact .inl (List.mem_append_right _ m)
  · exact (SlotS.of P.stp so).trans sl
end

section
variable {c : Cx} {sc : Scope} {b b1 b' : Loc} {ss suite : List Stmt} {st : Stmt} {e r l : Expr} {v v1 v2 a w : V} {p q np cpos pos : Pos} {x : PySem.Str} {args : List Expr} {vs : List V} {f : Addr} {f0 f1 y : Bool} {op : CmpOp}
theorem EvX.call {R : Nat} {F : List V → Option V} (h0 : EvTo c ⟨sc, b⟩ (.Name x q) (.val (.ref f)) f0) (h1 : EvsTo c ⟨sc, b⟩ args vs f1) (fx : FnX c.q c.prog c.w c.K c.h₀ R f F) (hR : R ≤ c.R) (hF : F vs = some v) : EvX c sc b (.Call (.Name x q) args [] p) v := fun t l F Q k => by
  refine wpAny_bind (h0 t.toAt _ fun u s1 p1 => ?_)
  obtain ⟨f0, x1, r1, o1, _⟩ := p1
  refine VR.valE r1 fun _ => ?_
  refine call_ok (t.toAt.ext x1) fx.keep h1 .nil p fun us zs s2 fp g x2 ra rk so _ => ?_
  obtain ⟨rfl, rfl⟩ := rk.nilE
  have x12 := x1.ext x2
  have F2 := (F.exts x12).all
  refine fx.call _ _ hF t.A t.E s2 us fp (t.env :: l) _ (t.room.mono hR) (t.X.ext x12).low F.fr F2 (fun a m => ?_) ra (fun a m z => ?_) fun u g s' st sl r nd nw => k u g s' ((x12.mono (W' := frs (t.env :: l)) (G' := []) (by first | exact nn | nofun) (by first | exact nn | nofun)).trans st (fun _ m => .inl m) (by first | exact nn | nofun)) (sl.back x12) r
  · rw [frs_cons F.me] at m
    exact (List.mem_cons.mp m).elim (fun z => z ▸ t.X.above) (F.low a)
  · have s := so a (by rw [List.append_nil]; exact m)
    have s : Src t.s b t.FP a := s.elim (fun n => .inl (back x1 n)) .inr
    rw [frs_cons F.me] at z
    rcases s with n | ⟨y, z', e', m'⟩
    · rcases List.mem_cons.mp z with z | z
      · obtain ⟨o, h⟩ := t.X.loc_dom
        rw [z, h] at n; cases n
      · obtain ⟨o, h⟩ := F.ex z
        rw [h] at n; cases n
    · exact (List.mem_cons.mp z).elim (t.X.off y z' e' a m') (F.sep y z' e' a m')
theorem EvX.cmp (h1 : EvX c sc b l v1) (h2 : EvTo c ⟨sc, b⟩ r v2 f1) (hc : CmTo op v1 v2 y) (hm : lastMarks [op] [r] = false) : EvX c sc b (.Compare l [op] [r] p) (.bool y) := fun t l F Q k => by
  rw [arm_eval_Compare]
  refine wpAny_bind (h1 t l F _ fun u g s1 st sl r1 => ?_)
  rw [marked_one hm]
  refine chain_last (h2 (F.go st sl).toAt _ fun z s2 p2 => ?_)
  obtain ⟨g, x2, r2, o2, _⟩ := p2
  exact hc.go t.room (r1.ext x2) r2 fun s3 x3 => k _ [] s3 ((st.ext x2).ext x3) ((sl.ext x2).ext x3) (.bool _)
theorem EvX.and (h1 : EvX c sc b l (.bool true)) (h2 : EvX c sc b e v) : EvX c sc b (.BoolOp .And [l, e] p) v := fun t lf F Q k => by
  refine BoolOp_and (h1 t lf F _ fun u g s1 st sl r1 => ?_)
  refine TrTo.bool.go r1 fun s2 x2 => ?_
  rw [if_pos rfl]
  refine BoolOp_one (h2 ((F.go st sl).exts x2) lf ((F.gone st sl).exts x2) _ fun z g2 s3 st2 sl2 r3 => k z g2 s3 ?_ ((sl.ext x2).trans sl2) r3)
  exact (st.ext x2).trans st2 (fun a m => .inl m) (by first | exact nn | nofun)
theorem SsX.put (ox : ownName sc x = true) (h1 : EvX c sc b e v) (hf : flatV v = true) (hc : isComp e = false) (eb : setL b x v .own = b1) (h2 : SsX c sc b1 ss w) : SsX c sc b (.Assign [.Name x p] e pos :: ss) w := fun t l F Q k => by
  subst eb
  refine wpAny_execs_cons (wpAny_Assign_Name (h1 t l F _ fun u g s1 st sl r => ?_) (swaps_no hc _ _))
  have := flat_nil r hf
  subst this
  refine assign1_ok (F.envX st sl) (.refl _ _ _) r (by first | exact nn | nofun) (.inr ⟨rfl, .nil, by first | exact nn | nofun⟩) t.F (t.F.bnd x ox) fun s2 P _ => ?_
  have P : (F.go st sl).P (setL b x v .own) s2 (setFP t.FP x []) (grow t.O [] .own) := P
  have W1 : ∀ a ∈ frs (t.env :: l), a ∈ t.WL ++ t.O ++ frs l := fun a m => by
    rw [frs_cons F.me] at m
    exact (List.mem_cons.mp m).elim (fun z => List.mem_append_left _ (List.mem_append_left _ (z ▸ F.loc))) fun z => List.mem_append_right _ z
  have so : ∀ a ∈ frs l, a ∉ t.WL ++ t.O := fun a m z => (List.mem_append.mp z).elim (F.off a m).1 (F.off a m).2
  have oz : ∀ a, a ∈ grow t.O [] .own → a ∈ t.O := fun a m => by rwa [show grow t.O [] .own = t.O from List.append_nil _] at m
  refine h2 ((F.go st sl).next P) l ((F.gone st sl).next P) Q fun u g s3 st3 sl3 r nd m => k u g s3 ?_ ?_ r nd fun a z => ?_
  · refine ((st.mono W1 (by first | exact nn | nofun)).trans (P.stp.mono (fun a m => List.mem_append_left (frs l) m) (by first | exact nn | nofun)) (fun a m => .inl m) (by first | exact nn | nofun)).trans st3 (fun a m => .inl ?_) (by first | exact nn | nofun)
    exact (List.mem_append.mp m).elim (fun m => (List.mem_append.mp m).elim (fun m => List.mem_append_left _ (List.mem_append_left _ m)) fun m => List.mem_append_left _ (List.mem_append_right _ (oz a m))) fun m => List.mem_append_right _ m
  · exact ((sl.sub fun a m => by rw [frs_cons F.me]; exact .tail _ m).trans (.of P.stp so)).trans sl3
  · rcases m a z with z | z
    · exact .inl (oz a z)
    · have z1 : s1.heap.get? a = none := newBack P.dom z
      refine .inr ?_
      cases q : t.s.heap.get? a with
      | none => rfl
      | some o =>
        by_cases m : a ∈ frs (t.env :: l)
        · obtain ⟨sl', e'⟩ := sl a m o q
          rw [z1] at e'; cases e'
        · have := st.heap a o q (.inr m)
          rw [z1] at this; cases this
theorem SsX.ret (h1 : EvX c sc b e v) (hf : flatV v = true) : SsX c sc b (.Return (some e) p :: ss) v := fun t l F Q k => by
  refine wpAny_execs_cons (wpAny_Return_some (h1 t l F _ fun u g s1 st sl r => ?_))
  have := flat_nil r hf
  subst this
  exact k u [] s1 (st.mono (fun a m => by
    rw [frs_cons F.me] at m
    exact (List.mem_cons.mp m).elim (fun z => List.mem_append_left _ (List.mem_append_left _ (z ▸ F.loc))) fun z => List.mem_append_right _ z) (by first | exact nn | nofun)) (sl.sub fun a m => by rw [frs_cons F.me]; exact .tail _ m) r .nil (by first | exact nn | nofun)
end

section
variable {l : List Env} {s₀ s s' : Shared} {e : Addr} {fl : PySem.Value}
theorem Fly.stp (f : Fly l s₀ s e fl) (fo : FrOk s₀.heap l) : Stp (frs l) [] s₀ s := ⟨fun a o q k => f.keep a o q fun m => by
  rcases k with k | k
  · obtain ⟨o', es, n, a1, a2⟩ := fo.dict m
    rw [q] at a1; cases a1
    rw [fixed_dict a2] at k; cases k
  · exact k m, f.os, fun i g q _ => f.gens i g q, f.bare⟩
theorem Fly.slotS (f : Fly l s₀ s e fl) : SlotS (frs l) s₀ s := fun b m o q => f.slot b o q m
theorem Fly.backN (f : Fly l s₀ s e fl) {a : Addr} (q : s.heap.get? a = none) : s₀.heap.get? a = none := by
  cases k : s₀.heap.get? a with
  | none => rfl
  | some o =>
    by_cases m : a ∈ frs l
    · obtain ⟨sl, z⟩ := f.slot a o k m; rw [q] at z; cases z
    · have z := f.keep a o k m; rw [q] at z; cases z
theorem ExcX.ext {T : Addr} (x : ExcX s.heap e T fl) (y : Ext s s') : ExcX s'.heap e T fl := let ⟨oe, vs, oT, ts, a, b, c, d, f, g, h, i⟩ := x; ⟨oe, vs, oT, ts, y.keep _ _ a, b, c, d, f, g, y.keep _ _ h, i⟩
theorem Fly.extR (f : Fly l s₀ s e fl) (y : Ext s s') : Fly l s₀ s' e fl := ⟨fun b o q n => y.keep b o (f.keep b o q n), fun b o q m => let ⟨sl, z⟩ := f.slot b o q m; ⟨sl, y.keep _ _ z⟩, y.os.trans f.os, fun i g q => y.gens i g (f.gens i g q) (by first | exact nn | nofun), fun z => y.bare (f.bare z), f.new, let ⟨T, a, b⟩ := f.exc; ⟨T, a, b.ext y⟩⟩
end
theorem EnvR.rebase {Pin : List Addr} {h₀ h₁ h : Heap} {env : Env} {pe : PE} {FP : PySem.Str → List Addr} {O O' : List Addr} (X : EnvR Pin h₀ env pe FP O h) (low : ∀ a o, h₁.get? a = some o → h.get? a = some o) (hn : ∀ a o, h.get? a = some o → h₀.get? a = none → h₁.get? a = none ∨ ∀ c, o.data ≠ .cell c) (above : h₁.get? env.locals = none) (hO : ∀ a ∈ O', a ∈ O ∧ h₁.get? a = none) (own : ∀ x v, pe.b.lookup x = some (v, .own) → ∀ a ∈ FP x, a ∈ O') : EnvR Pin h₁ env pe FP O' h where
  sc := X.sc
  kind := X.kind
  glo := X.glo
  blt := X.blt
  low := low
  above := above
  ns := X.ns
  cells := fun x c e => by
    obtain ⟨a, w, ⟨o, b1, b2⟩, d⟩ := X.cells x c e
    exact ⟨(hn c o b1 a).elim id fun z => absurd b2 (z _), w, ⟨o, b1, b2⟩, d⟩
  kinds := X.kinds
  apartC := X.apartC
  off := X.off
  own := fun x v e => ⟨(X.own x v e).1, own x v e⟩
  frz := fun x v e a m k => X.frz x v e a m (hO a k).1
  apart := X.apart
  newO := fun a m => ⟨(hO a m).2, (X.newO a (hO a m).1).2⟩
  pin := X.pin
theorem hide_big {h : Heap} {L : List Addr} {a : Addr} (q : h.objs.size ≤ a) : (hideAll h L).get? a = none := Heap.get?_none_of_le (by rw [hideAll_size]; exact q)
section
variable {c : Cx} {sc : Scope} {b b' : Loc} {ss suite : List Stmt} {s0 : Stmt} {e : Expr} {v : V} {p1 p2 np pos : Pos} {x : PySem.Str}
theorem SsX.try (h1 : RzE c ⟨sc, b⟩ e) (hc : isComp e = false)
    (h2 : ∀ h₁ : Heap, (∀ a o, c.h₀.get? a = some o → h₁.get? a = some o) → ∃ c' : Cx, c'.prog = c.prog ∧ c'.w = c.w ∧ c'.h₀ = h₁ ∧ c'.Pin = c.Pin ∧ c'.q = false ∧ c'.R ≤ c.R ∧ c'.Γ.glob x = some (.type "ValueError") ∧ SsTo c' sc b (s0 :: suite) (.ret v) b')
    (hx : notDbg x = true) (eq : (sc.names.lookup x == some .globalImplicit) = true) :
    SsX c sc b (.Try [.Expr e p1] [.ExceptHandler (some (.Name x np)) none (s0 :: suite) p2] [] [] pos :: ss) v := fun t l F Q k => by
  refine wpAny_execs_cons (wpAny_Try_except (wpAny_execs_cons ?_))
  have key : ∀ (E' : PySem.Value → Shared → Prop) (Q' : Flow → Shared → Prop), (∀ ea s4, Fly (t.env :: l) t.s s4 ea .none → E' (.ref ea) s4) → wpAny t.M t.A (exec (.Expr e p1) t.env) Q' E' t.s := fun E' Q' hE =>
    wpAny_Expr_any (wpAny_mono (h1 ⟨t.A, E', t.s, t.env, t.FP, t.O, t.room, t.X⟩ l ⟨F.fr, F.all⟩ hE) (fun _ _ z => z.elim) fun _ _ z => z) (notInteractive t.X) (by cases e <;> first | rfl | cases hc)
  refine key _ _ fun ea s4 f => ?_
  refine f.note F.fr (F.all.fly f) F.me fun h' T n f' fo' x' => ?_
  refine f'.flight (s := { s4 with heap := h' }) n fo' x' fun h5 f5 fo5 x5 _ => ?_
  generalize hs5 : ({ s4 with heap := h5 } : Shared) = s5 at f5 ⊢
  have h5e : h5 = s5.heap := by rw [← hs5]
  subst h5e
  have newL : ∀ a ∈ frs (t.env :: l), c.h₀.get? a = none := fun a m => by
    rw [frs_cons F.me] at m
    exact (List.mem_cons.mp m).elim (fun z => z ▸ t.X.above) (F.low a)
  have low5 : ∀ a o, c.h₀.get? a = some o → s5.heap.get? a = some o := fun a o q => f5.keep a o (t.X.low a o q) fun m => by rw [newL a m] at q; cases q
  let L : List Addr := (List.range s5.heap.objs.size).filter fun a => (c.h₀.get? a).isNone && !(a == ea)
  have inL : ∀ a, a ∈ L ↔ a < s5.heap.objs.size ∧ c.h₀.get? a = none ∧ a ≠ ea := fun a => by
    show a ∈ List.filter _ _ ↔ _
    simp [List.mem_filter]
  have hi : ∀ a o, c.h₀.get? a = some o → (hideAll s5.heap L).get? a = some o := fun a o q => hideAll_get L (low5 a o q) fun m => by rw [((inL a).mp m).2.1] at q; cases q
  have none1 : ∀ a, c.h₀.get? a = none → a ≠ ea → (hideAll s5.heap L).get? a = none := fun a q ne => by
    by_cases z : a < s5.heap.objs.size
    · exact hideAll_none L ((inL a).mpr ⟨z, q, ne⟩)
    · exact hide_big (Nat.le_of_not_lt z)
  obtain ⟨c', g1, g2, g3, g4, g5, g6, g7, g8⟩ := h2 (hideAll s5.heap L) hi
  have neOld : ∀ a o, t.s.heap.get? a = some o → a ≠ ea := fun a o q z => by rw [z, f5.new] at q; cases q
  have Tn : c.h₀.get? T = none := by
    cases q : c.h₀.get? T with
    | none => rfl
    | some o => have := t.X.low T o q; rw [n] at this; cases this
  have Te : T ≠ ea := let ⟨_, _, _, _, _, _, _, _, _, z, _⟩ := x5; z
  have e1 : (hideAll s5.heap L).get? ea = s5.heap.get? ea ∧ ExcAt (hideAll s5.heap L) ea := by
    obtain ⟨oe, vs, oT, ts, a1, a2, a3, a4, a5, _⟩ := x5
    have q := hideAll_get L a1 fun m => ((inL ea).mp m).2.2 rfl
    exact ⟨q.trans a1.symm, oe, vs, q, a3, a5⟩
  have XX : ∀ s6 : Shared, Fly (t.env :: l) t.s s6 ea .none → (∀ a o, s5.heap.get? a = some o → a ≠ T → s6.heap.get? a = some o) → EnvR c'.Pin c'.h₀ t.env ⟨sc, b⟩ t.FP (t.O.filter fun a => (t.s.heap.get? a).isSome) s6.heap := fun s6 f6 kp => by
    have X6 := F.envX (f6.stp F.all) f6.slotS
    rw [g3, g4]
    refine X6.rebase (fun a o q => kp a o (of_hideAll L q) fun z => by rw [z, none1 T Tn Te] at q; cases q) (fun a o q q0 => ?_) (none1 _ t.X.above fun z => ?_) (fun a m => ?_) fun x w e' a m => ?_
    · by_cases z : a = ea
      · refine .inr fun cc k => ?_
        obtain ⟨T6, _, oe, vs, oT, ts, a1, a2, a3, _⟩ := f6.exc
        rw [z, a1] at q; cases q
        rw [a3] at k; cases k
      · exact .inl (none1 a q0 z)
    · obtain ⟨o, q⟩ := t.X.loc_dom
      exact neOld _ o q z
    · obtain ⟨m1, m2⟩ := List.mem_filter.mp m
      obtain ⟨o, q⟩ := Option.isSome_iff_exists.mp m2
      exact ⟨m1, none1 a (t.X.newO a m1).1 (neOld a o q)⟩
    · refine List.mem_filter.mpr ⟨(t.X.own x w e').2 a m, ?_⟩
      obtain ⟨o, q, _⟩ := t.X.fpd e' m
      rw [q]; rfl
  have rm : Room c'.q c'.h₀ c'.R (t.A.mark (some (.ref ea))) := by
    have r := t.room.mono g6
    rw [g3, g5]
    exact ⟨⟨fun z => (by cases z), .inr ⟨ea, rfl, e1.2⟩⟩, r.dp, r.un⟩
  refine wpAny_handleBy_builtin (X := "ValueError") (T := "ValueError") (b := true) PySem.F.isExc_ValueError PySem.F.notTuple_ValueError (by rw [isSubtype_type]; kernel_rfl) ?_
  have nm : EvTo c' ⟨sc, b⟩ (.Name x np) (.val (.type "ValueError")) false := .glob g7 hx eq
  have nm := nm ⟨t.A.mark (some (.ref ea)), notedBy (model c.prog c.w) (t.A.mark (some (.ref ea))) t.env (cameBackBy (model c.prog c.w) t.A t.env t.E), s5, t.env, t.FP, _, rm, XX s5 f5 fun a o q _ => q⟩
  rw [show At.M _ = model c.prog c.w from by show model c'.prog c'.w = _; rw [g1, g2]] at nm
  refine nm _ fun u s6 pp => ?_
  obtain ⟨fp0, y6, r0, _, _⟩ := pp
  refine VR.valE r0 fun _ => ⟨rfl, ?_, ?_⟩
  · obtain ⟨oe, vs, oT, ts, a1, a2, _⟩ := x5.ext y6
    exact ⟨oe, a1, a2⟩
  · have f6 := f5.extR y6
    refine f6.flight n (F.all.fly f6) (x5.ext y6) fun h7 f7 fo7 x7 k7 => ?_
    have sw := g8 ⟨⟨t.A.mark (some (.ref ea)), notedBy (model c.prog c.w) (t.A.mark (some (.ref ea))) t.env (cameBackBy (model c.prog c.w) t.A t.env t.E), { s6 with heap := h7 }, t.env, t.FP, _, rm, XX _ f7 fun a o q z => k7 a o (y6.keep a o q) z⟩, t.WL, t.F⟩
    rw [show At.M _ = model c.prog c.w from by show model c'.prog c'.w = _; rw [g1, g2]] at sw
    refine sw _ fun fw s8 FP8 O8 P g => ?_
    cases fw <;> first | exact (g : False).elim | skip
    rename_i u8
    obtain ⟨fp, r, nd, m⟩ := (g : ∃ fp, _)
    have so : ∀ a ∈ frs l, a ∉ t.WL ++ t.O.filter fun a => (t.s.heap.get? a).isSome := fun a m z => (List.mem_append.mp z).elim (F.off a m).1 fun z => (F.off a m).2 (List.mem_filter.mp z).1
    refine k u8 fp s8 ?_ ((f7.slotS.sub fun a m => by rw [frs_cons F.me]; exact .tail _ m).trans (.of P.stp so)) r nd fun a z => ?_
    · refine ((f7.stp F.all).mono (fun a m => ?_) (by first | exact nn | nofun)).trans P.stp (fun a m => .inl ?_) (by first | exact nn | nofun)
      · rw [frs_cons F.me] at m
        exact (List.mem_cons.mp m).elim (fun z => List.mem_append_left _ (List.mem_append_left _ (z ▸ F.loc))) fun z => List.mem_append_right _ z
      · exact List.mem_append_left _ ((List.mem_append.mp m).elim (fun m => List.mem_append_left _ m) fun m => List.mem_append_right _ (List.mem_filter.mp m).1)
    · rcases m a z with z | z
      · exact (P.own a z).imp (fun z => (List.mem_filter.mp z).1) f7.backN
      · exact .inr (f7.backN z)
end

theorem entX_ok {h₀ : Heap} {s : Shared} {sc : Scope} {xs : List PySem.Str} {us : List PySem.Value} {vs : List V} {fp : List Addr} (r : VRs s.heap us vs fp) (hl : xs.length = us.length) (ok : entOk sc xs = true) : ∃ FP, Ent h₀ sc (xs.zip us) (entB xs vs) FP [] [] s ∧ ∀ x y, (entB xs vs).lookup x = some y → ∀ a ∈ FP x, a ∈ fp := by
  obtain ⟨nd, hk⟩ := entOk_of ok
  obtain ⟨FP, hFP⟩ := entB_ok r hl nd
  refine ⟨FP, ⟨by rw [zip_names hl]; exact nd, fun x u m => hk x (List.of_mem_zip m).1, fun x y e => (hFP x y e).1, fun x v e => ?_, fun x v e a m k => (by cases k), fun x v x' v' _ e e' a m => ?_, by first | exact nn | nofun, by first | exact nn | nofun⟩, fun x y e => (hFP x y e).2.1⟩
  · rw [(hFP x _ e).2.2 rfl]; exact ⟨.nil, by first | exact nn | nofun⟩
  · rw [(hFP x _ e).2.2 rfl] at m; cases m
theorem FnX.mono {q : Bool} {prog : Program} {w : World} {K : Frag} {h₀ : Heap} {R R' : Nat} {f : Addr} {F : List V → Option V} (x : FnX q prog w K h₀ R f F) (h : R ≤ R') : FnX q prog w K h₀ R' f F := ⟨x.keep, fun args r e A E s us fp l Q hr => x.call args r e A E s us fp l Q (hr.mono h)⟩
theorem fnX_of {c : Cx} {f : Addr} {st : Stmt} {dV kV : PySem.Value} {names : List PySem.Str} {F : List V → Option V} (I : FnIn c.K f st dV kV) (hsc : plainSc (scpOf st) = true) (ok : entOk (scpOf st) names = true)
    (hb : ∀ name qual doc pm cdv ct an (s : Shared) (us : List PySem.Value), us.length = names.length → BindsTo s (fnOf name qual (prmOf st) (bodOf st) (scpOf st) dV kV doc pm an cdv ct) ⟨us, []⟩ (names.zip us))
    (hF : ∀ args r, F args = some r → args.length = names.length ∧ SsX (c.pin []) (scpOf st) (entB names args) (bodOf st) r) : FnX c.q c.prog c.w c.K c.h₀ (c.R + 2) f F := by
  refine ⟨fun h X => keeps_K I.kp h X, fun args r e A E s us fp l Q hr lo fr fo fl0 r1 sp h => ?_⟩
  obtain ⟨e1, q⟩ := hF _ _ e
  have l1 := r1.length
  obtain ⟨FP, N, sub⟩ := entX_ok (h₀ := c.h₀) (sc := scpOf st) (xs := names) r1 (by rw [l1, e1]) ok
  have kin : c.K.In s.heap := c.ok.base.kin.keeps lo
  obtain ⟨⟨name, qual, doc, pm, cdv, ct, oc, an, od, osl, i1, i3⟩, _⟩ := I
  simp only [plainSc, Bool.and_eq_true, Bool.not_eq_true', beq_iff_eq] at hsc
  obtain ⟨⟨i4, i5⟩, i6⟩ := hsc
  refine wpAny_call (codeAny_call_function (body := bodOf st) hr.depth (kin _ _ i1) rfl i5 i6 rfl (codeRec_of kin i3) (hb _ _ _ _ _ _ _ s us (l1.trans e1) _ _ _ _ ?_))
  refine entry_okF i4 lo N fun env s2 WL X F0 hWL hloc x2 ff => ⟨(c.ok.base.lim.keeps lo).keeps x2.keep, codeAny_func ?_⟩
  have ex : ∀ a ∈ frs l, s.heap.get? a ≠ none := fun a m k => by
    obtain ⟨o, _, _, z, _⟩ := fo.dict m
    rw [k] at z; cases z
  refine q ⟨⟨A.deeper env, _, s2, env, FP, [], Room.deeper (hr.mono (Nat.le_succ _)), X⟩, WL, F0⟩ l ⟨Around.frames_deeper fr, ff, hloc.1, fo.keeps fun b o q _ => ⟨o, x2.keep b o q, rfl⟩, fl0, fun a m => ⟨fun k => ex a m (hWL a k), by first | exact nn | nofun⟩, fun x y e a m k => sp a (sub x y e a m) k⟩ _ fun u g s' st sl r nd m => ?_
  refine h u g s' ((x2.mono (by first | exact nn | nofun) (by first | exact nn | nofun)).trans st (fun a m => ?_) (by first | exact nn | nofun)) (sl.back x2) r nd fun a z => (m a z).elim (by first | exact fun z => absurd z List.not_mem_nil | nofun) (back x2)
  rcases List.mem_append.mp m with m | m
  · rw [List.append_nil] at m
    exact .inr (hWL a m)
  · exact .inl m

noncomputable def metM (m : Sre.M) : Bool := match (m.runFor 4).outcome with
  | some .matched => true
  | _ => false
noncomputable def metStr (code : Array Nat) (x : PySem.Str) : Bool := decide (x.cps.size ≤ 1000000) && metM (Sre.forSearch code x.cps (Int.toNat 0) 0 x.cps.size false)
theorem noBool_match : typeLookup (.type "re.Match") "__bool__" = pure none := by rw [typeLookup_type, builtinLookup_eq_fast]; kernel_rfl
theorem noLen_match : typeLookup (.type "re.Match") "__len__" = pure none := by rw [typeLookup_type, builtinLookup_eq_fast]; kernel_rfl
section
variable {prog : Program} {w : World} {K : Frag} {A : Around} {E : PySem.Value → Shared → Prop} {s : Shared}
theorem run_met {m : Sre.M} (h : metM m = true) {Q : Option Sre.M → Shared → Prop} (hQ : ∀ m', Q (some m') s) : wpAny (model prog w) A (Builtin.Re.reRunToEnd m) Q E s := by
  have ho : (m.runFor Builtin.Re.reTurnSteps).outcome = some .matched := by
    unfold metM at h
    show (m.runFor 4).outcome = _
    cases q : (m.runFor 4).outcome with
    | none => rw [q] at h; cases h
    | some o => rw [q] at h; cases o <;> first | rfl | cases h
  have hd : ∀ n, Builtin.Re.reDrive (n + 1) m = pure (m.runFor Builtin.Re.reTurnSteps) := fun n => by
    unfold Builtin.Re.reDrive
    dsimp only
    rw [ho]; rfl
  unfold Builtin.Re.reRunToEnd
  rw [show (2 : Nat) ^ 64 = (2 ^ 64 - 1) + 1 by decide, hd]
  refine wpAny_bind (wpAny_pure (wpAny_bind ?_))
  generalize m.runFor Builtin.Re.reTurnSteps = m' at ho ⊢
  refine rules_ok (p := fun i => m'.seen.has i) (f := fun i => Sre.names.getD i "") _ ?_
  rw [ho]
  exact wpAny_pure (hQ _)
theorem truthy_match {a : Addr} {o : Obj} (ho : s.heap.get? a = some o) (hc : o.cls = .type "re.Match") {Q : Bool → Shared → Prop} (h : Q true s) : wpAny (model prog w) A (truthy (.ref a)) Q E s := by
  have hT : s.TypeIs (.ref a) "re.Match" := ⟨o, ho, hc⟩
  unfold truthy
  first
    | refine wpAny_bind (wpAny_callSpecial?_none (name := Str.ofString "__bool__") hT noBool_match ?_)
    | refine wpAny_bind (wpAny_pure (wpAny_bind (wpAny_callSpecial?_none (name := Str.ofString "__bool__") hT noBool_match ?_)))
  first
    | refine wpAny_bind (wpAny_specialOf (name := Str.ofString "__len__") hT noLen_match ?_)
    | refine wpAny_bind (wpAny_pure (wpAny_bind (wpAny_specialOf (name := Str.ofString "__len__") hT noLen_match ?_)))
  exact wpAny_pure h
theorem search_met {p : Addr} {code : Array Nat} {x : PySem.Str} {t : Tok} {Q : PySem.Value → Shared → Prop} (X : K.In s.heap) (hp : PatAt K p code) (hx : metStr code x = true) (h : ∀ a s' o, Ext s s' → s'.heap.get? a = some o → o.cls = .type "re.Match" → Q (.ref a) s') :
    wpAny (model prog w) A (PySem.call (.builtin "re.Pattern.search") [.ref p, .str x t]) Q E s := by
  cases hp with
  | @mk fs _ c items _ _ _ k2 k6 ho g6 g5 g2 hc hco =>
    subst hco
    obtain ⟨hz, hm⟩ := Bool.and_eq_true_iff.mp hx
    have hz := of_decide_eq_true hz
    have e := X _ _ ho
    have ec := X _ _ hc
    refine wpAny_call_entry slot_search ⟨_, e, rfl⟩ entry_search ?_ (args_search _ _)
    unfold Builtin.«re.Pattern.search» Builtin.Re.reTarget
    have hn : Builtin.Re.reNamed "re.Pattern.search" "search" ["string", "pos", "endpos"] 1 [.str x t] [] = pure [some (.str x t), none, none] := by rfl
    refine wpAny_bind ?_
    dsimp only
    rw [hn]
    refine wpAny_bind (wpAny_pure ?_)
    dsimp only
    refine wpAny_bind (wpAny_pure ?_)
    refine wpAny_bind (wpAny_pure ?_)
    refine wpAny_bind (wpAny_fieldsOf e rfl ?_)
    rw [show Builtin.Re.reTextOf (.str x t) = pure (x.cps, 0) from rfl]
    refine wpAny_bind (wpAny_pure ?_)
    dsimp only
    rw [g6, g5, g2]
    show wpAny (model prog w) A.in1 (pure PUnit.unit >>= fun _ => Builtin.Re.reRawItems (.ref c) >>= fun l => pure ({ pattern := .ref p, string := .str x t, code := l.map fun x => x.toNat, text := x.cps, kind := 0, groups := Int.toNat 0, pos := min (Int.toNat 0) x.cps.size, lim := min ((2 : Int) ^ 63 - 1).toNat x.cps.size } : Builtin.Re.ReTarget)) _ E s
    refine wpAny_bind (wpAny_pure ?_)
    refine wpAny_bind (wpAny_bind (wpAny_seqItems ec rfl (wpAny_pure ?_)))
    refine wpAny_pure ?_
    dsimp only [Option.getD]
    have z1 : min (Int.toNat 0) x.cps.size = 0 := Nat.zero_min _
    have z2 : min ((2 : Int) ^ 63 - 1).toNat x.cps.size = x.cps.size := Nat.min_eq_right (Nat.le_trans hz (by decide))
    rw [z1, z2]
    unfold Builtin.Re.reAnswer
    refine wpAny_bind (run_met hm fun m' => ?_)
    unfold Builtin.Re.reNewMatch newTuple newFields
    refine wpAny_bind ?_
    refine wpAny_bind (wpAny_newObj_type ?_ (show 2 ≤ sizeLine by rw [sizeLine_eq]; decide))
    refine wpAny_newObj_type ?_ (by size_fits)
    refine wpAny_pure ⟨_, rfl, h _ _ _ (.of_heap (tk := s.toks) fun a o q => Heap.get?_push_of_some _ (Heap.get?_push_of_some _ q)) (Heap.get?_push_size _ rfl) rfl⟩
theorem EtTo.search {c : Cx} {pe : PE} {o : Expr} {f0 f1 : Bool} {args : List Expr} {x : PySem.Str} {d : Addr} {code : Array Nat} {apos cpos : Pos} (hb : ∀ env, attributeBase o ("search" : PySem.Str) env (eval o env) = eval o env) (hn : decide (args.length < 20) = true) (hl : (apos.endLine == cpos.line) = true) (h0 : EvTo c pe o (.val (.ref d)) f0) (hp : PatAt c.K d code) (hx : metStr code x = true) (h1 : EvsTo c pe args [.str x] f1) (hi : ∀ (env : Env) (m : Sem PySem.Value), isTrue (.Call (.Attribute o ("search" : PySem.Str) apos) args [] cpos) env m = (do let v ← m; standAt (Expr.pos (.Call (.Attribute o ("search" : PySem.Str) apos) args [] cpos)); holding [v] (truthy v))) : EtTo c pe (.Call (.Attribute o ("search" : PySem.Str) apos) args [] cpos) true := fun t Q h => by
  rw [hi]
  refine wpAny_bind (meth_ok hb hn hl h1.1.1 fun pl => h0 t _ fun u s1 p1 => ?_)
  obtain ⟨f0, x1, r1, o1, _⟩ := p1
  refine VR.valE r1 fun _ => search_meth (c.ok.base.kin.keeps (t.X.ext x1).low) hp (call_ok (us₀ := [.ref d]) (t.ext x1) (fun h _ => keep_builtin _ _ h) h1 .nil cpos fun us zs s2 fp g x2 ra rk so _ => ?_)
  obtain ⟨rfl, rfl⟩ := rk.nilE
  refine VRs.consE ra fun u us g g' ra rb => ?_
  obtain ⟨rfl, rfl⟩ := rb.nilE
  refine VR.strE ra fun tk => ?_
  exact search_met (c.ok.base.kin.keeps (t.X.ext (x1.ext x2)).low) hp hx fun a s3 o x3 e hc => wpAny_bind (wpAny_standAt (wpAny_holding (truthy_match e hc (h _ ((x1.ext x2).ext x3)))))
end

noncomputable def badS : PySem.Str := PySem.Str.ofString "a\t"
noncomputable def R83 (args : List V) (kws : List (PySem.Str × V)) : Prop := ∃ v, args = [v, .str badS] ∧ kws = [(PySem.Str.ofString "name", .bool true)]
structure PatMet (K : Frag) (a : Addr) : Prop where
  ok : ∃ c, PatAt K a c ∧ metStr c badS = true
theorem rz83 {c : Cx} (T : OfTab c tab3) (hq : c.q = true) (I : FnIn c.K 83 st170 .none .none) (P1 : PatMet c.K 48) : RzFn c 83 R83 := by
  refine rzFn_of (na := 2) (kwn := [PySem.Str.ofString "name"]) (names := [PySem.Str.ofString "self", PySem.Str.ofString "value", PySem.Str.ofString "name"]) I (by kernel_rfl) (by kernel_rfl) rfl ?_ ?_
  · exact fun name qual doc pm cdv ct an s => len21 fun a b u => BindsTo.of_eq rfl
  · rintro args kws ⟨v, rfl, rfl⟩
    have T : OfTab (c.pin []) tab3 := T.pin
    obtain ⟨c1, p1, m1⟩ := P1.ok
    refine ⟨rfl, rfl, ?_⟩
    show RzS (c.pin []) (scpOf st170) [(PySem.Str.ofString "self", v, if flatV v then .own else .frz), (PySem.Str.ofString "value", .str badS, .own), (PySem.Str.ofString "name", .bool true, .own)] (bodOf st170)
    refine RzS.ifT (EtTo.cm (EvTo.bi (f0 := false) (f1 := false) (EvTo.gl (gl_type T) (by kernel_rfl)) (EvsTo.cons (fun _ => rfl) (EvTo.nm 1 rfl (by kernel_rfl)) EvsTo.nil) (by first | exact BiTo.typeS | exact BiTo.typeL)) (EvTo.gl (gl_str T) (by kernel_rfl)) (by first | assumption | exact CmTo.is (by first | exact IsTo.bool | exact IsTo.type | exact IsTo.noneN | exact IsTo.strN | exact IsTo.intN | exact IsTo.lstN)) (by first | rfl | assumption | (simp; done) | (simp; omega)) rfl) ?_
    refine RzS.cons (b1 := [_, _, _, _]) (StTo.put 3 (EvTo.ifT (EtTo.vl (EvTo.nm 2 rfl (by kernel_rfl)) (by first | exact TrTo.bool | exact TrTo.int | exact TrTo.none) (by first | rfl | assumption | (simp; done) | (simp; omega)) (fun _ _ => rfl)) (EvTo.gl (gl_name_disallowed_re T) (by kernel_rfl))) (by kernel_rfl) rfl (rfl : _ = [_, _, _, _])) ?_
    exact RzS.ifT (EtTo.search (f0 := false) (f1 := false) (fun _ => rfl) rfl rfl (EvTo.nm 3 rfl (by kernel_rfl)) p1 m1 (EvsTo.cons (fun _ => rfl) (EvTo.nm 1 rfl (by kernel_rfl)) EvsTo.nil) (fun _ _ => rfl)) (RzS.raise (by exact hq) (EvTo.gl (gl_ValueError T) (by kernel_rfl)) (fun _ => rfl) (fr := false) EvTo.cStr)
noncomputable def R121 (args : List V) (kws : List (PySem.Str × V)) : Prop := ∃ hs, args = [hdV hs, .str badS] ∧ kws = []
theorem rz121 {c c' : Cx} (T : OfTab c tab3) (I : FnIn c.K 121 st208 .none .none) (rz : RzFn c' 83 R83) (e1 : c'.prog = c.prog) (e2 : c'.w = c.w) (e3 : c'.K = c.K) (e4 : c'.h₀ = c.h₀) (e5 : c'.q = c.q) (eR : c'.R + 2 ≤ c.R) : RzFn c 121 R121 := by
  refine rzFn_of (na := 2) (kwn := []) (names := [PySem.Str.ofString "self", PySem.Str.ofString "name"]) I (by kernel_rfl) (by kernel_rfl) rfl ?_ ?_
  · exact fun name qual doc pm cdv ct an s => len20 fun a b => BindsTo.of_eq rfl
  · rintro args kws ⟨hs, rfl, rfl⟩
    have T : OfTab (c.pin []) tab3 := T.pin
    refine ⟨rfl, rfl, ?_⟩
    show RzS (c.pin []) (scpOf st208) [(PySem.Str.ofString "self", hdV hs, .frz), (PySem.Str.ofString "name", .str badS, .own)] (bodOf st208)
    exact RzS.asg (RzE.meth (f0 := false) (f1 := false) (fun _ => rfl) rfl (EvTo.nm 0 rfl (by kernel_rfl)) (mt_aHD_convert_string_type T rfl) (EvsTo.cons (fun _ => rfl) (EvTo.to (v' := .str badS) (EvTo.sm (fun _ => rfl) rfl (EvTo.nm 1 rfl (by kernel_rfl)) SmTo.lower EvsTo.nil (by exact BiTo.lower (by decide +kernel))) (by exact congrArg V.str (by decide +kernel))) EvsTo.nil) (EvkTo.cons (f1 := false) EvTo.cBool EvkTo.nil) rz e1 e2 e3 e4 e5 eR ⟨_, rfl, rfl⟩) rfl

noncomputable def aS : PySem.Str := PySem.Str.ofString "a"
noncomputable def bS : PySem.Str := PySem.Str.ofString "A"
noncomputable def nilS : PySem.Str := PySem.Str.ofString ""
noncomputable def nmA (d : Nat) : PySem.Str := Txt.mul aS ((d : Int) + 1)
noncomputable def nmB (d : Nat) : PySem.Str := Txt.mul bS ((d : Int) + 2)
noncomputable def dressQ : List PySem.Str := [nilS, PySem.Str.ofString "\\)", PySem.Str.ofString "\"(\"", PySem.Str.ofString "\\\\"]
noncomputable abbrev HS := List (PySem.Str × PySem.Str)
noncomputable def txStep (ds : List Nat) (dr : List PySem.Str) (hs : HS) (k : Nat) : HS := hs ++ [(nmA (ds.getD k 0), dr.getD k nilS ++ opnS)] ++ [(nmB (ds.getD k 0), clsS)]
noncomputable def hsOf (ds : List Nat) (dr : List PySem.Str) : HS := (List.range 6).foldl (txStep ds dr) []
noncomputable def nmQ (k : Nat) : PySem.Str := Txt.slice (Txt.mul (PySem.Str.ofString "Aa") 4) none (some ((k : Int) + 1))
noncomputable def rowQ (hs : HS) (x : PySem.Str) : List PySem.Str := (hs.filter fun p => Txt.lower p.1 == Txt.lower x).map (·.2)
noncomputable def rdOf (hs : HS) : PySem.Str := Txt.join nilS ((List.range 7).map fun k => Txt.join nilS (rowQ hs (nmQ k)))
noncomputable def txtOf (ds : List Nat) (dr : List PySem.Str) : PySem.Str := rdOf (hsOf ds dr)
noncomputable def lowN : List PySem.Str := (List.range 7).map nmA
noncomputable def HsOk (hs : HS) : Prop := ∀ p ∈ hs, Txt.lower p.1 ∈ lowN ∧ p.1.cps.size ≤ 1000 ∧ p.2.length ≤ 4
theorem lowN_ok : ∀ x ∈ lowN, prt x = true ∧ x ≠ Txt.lower (PySem.Str.ofString "h") ∧ x ≠ Txt.lower (Txt.mul aS 8) := by decide +kernel
theorem nmA_ok : ∀ d, d < 6 → prt (nmA d) = true ∧ Txt.lower (nmA d) ∈ lowN ∧ (nmA d).cps.size ≤ 1000 := by decide +kernel
theorem nmB_ok : ∀ d, d < 6 → prt (nmB d) = true ∧ Txt.lower (nmB d) ∈ lowN ∧ (nmB d).cps.size ≤ 1000 := by decide +kernel
theorem nmQ_ok : ∀ k, k < 7 → (nmQ k).cps.size ≤ 1000 ∧ prt (Txt.lower (nmQ k)) = true := by decide +kernel
theorem dress_ok : ∀ x ∈ dressQ, prt (x ++ opnS) = true ∧ JoinOk (PySem.Str.ofString "; ") [x ++ opnS] = true ∧ Txt.join (PySem.Str.ofString "; ") [x ++ opnS] = x ++ opnS ∧ (x ++ opnS).length ≤ 4 ∧ x.length ≤ 10 := by decide +kernel
theorem cls_ok2 : prt clsS = true ∧ JoinOk (PySem.Str.ofString "; ") [clsS] = true ∧ Txt.join (PySem.Str.ofString "; ") [clsS] = clsS ∧ clsS.length ≤ 4 := by decide +kernel
theorem F268_q {hs : HS} {k x : PySem.Str} (hz : hs.length ≤ 900) (h1 : prt k = true) (h2 : prt x = true) (h3 : JoinOk (PySem.Str.ofString "; ") [x] = true) (h4 : Txt.join (PySem.Str.ofString "; ") [x] = x) : F268 (hdV hs) [.str k, .str x] = some (hdV (hs ++ [(k, x)])) := by
  show (hdOf (hdV hs)).bind _ = _
  rw [hdOf_hdV, Option.bind_some, if_pos ⟨h1, h2, hz, h3, h4⟩]
theorem F208_q {hs : HS} (H : HsOk hs) (hz : hs.length ≤ 900) {x : PySem.Str} (h1 : x.cps.size ≤ 1000) (h2 : prt (Txt.lower x) = true) : F208 [hdV hs, .str x] [] = some (.lst ((rowQ hs x).map V.str)) := by
  show (hdOf (hdV hs)).bind _ = _
  have hc : hs.all (fun p => prt (Txt.lower p.1) && decide (p.1.cps.size ≤ 1000)) = true := List.all_eq_true.mpr fun p m => by
    have := H p m
    rw [Bool.and_eq_true]
    exact ⟨(lowN_ok _ this.1).1, decide_eq_true this.2.1⟩
  rw [hdOf_hdV, Option.bind_some, if_pos ⟨h1, h2, hz, hc⟩]
  unfold rowQ
  rw [List.map_map]; rfl
theorem rowQ_nil {hs : HS} (H : HsOk hs) {x : PySem.Str} (h : ∀ y ∈ lowN, y ≠ Txt.lower x) : rowQ hs x = [] := by
  unfold rowQ
  rw [List.filter_eq_nil_iff.mpr fun p m q => h _ (H p m).1 (beq_iff_eq.mp q)]; rfl
theorem rowQ_len {hs : HS} (H : HsOk hs) (x : PySem.Str) : (rowQ hs x).length ≤ hs.length ∧ ∀ y ∈ rowQ hs x, y.length ≤ 4 := by
  unfold rowQ
  refine ⟨by rw [List.length_map]; exact List.length_filter_le _ _, fun y m => ?_⟩
  obtain ⟨p, mp, e⟩ := List.mem_map.mp m
  rw [← e]
  exact (H p (List.mem_filter.mp mp).1).2.2
theorem sum_le {l : List Nat} {k : Nat} (h : ∀ x ∈ l, x ≤ k) : l.sum ≤ l.length * k := by
  induction l with
  | nil => exact Nat.zero_le _
  | cons x r ih =>
    rw [List.sum_cons, List.length_cons, Nat.succ_mul]
    have := h x (.head _)
    have := ih fun y m => h y (.tail _ m)
    omega
theorem join_codes : ∀ ts : List PySem.Str, (Txt.join (PySem.Str.ofString "") ts).cps.toList = ts.flatMap fun t => t.cps.toList := by
  intro ts
  show (Builtin.Str.glued (PySem.Str.ofString "") ts).cps.toList = _
  rw [StrLaws.glued_eq_join]
  have e0 : PySem.Str.ofString "" = ⟨#[]⟩ := by decide +kernel
  rw [e0]
  induction ts with
  | nil => rfl
  | cons t r ih =>
    cases r with
    | nil => simp [PySem.Str.join]
    | cons u r =>
      show ((t.cps ++ #[]) ++ (PySem.Str.join ⟨#[]⟩ (u :: r)).cps).toList = _
      rw [Array.toList_append, ih]
      simp
theorem joinN {ts : List PySem.Str} {k n : Nat} (h : ∀ x ∈ ts, x.length ≤ k) (hn : ts.length ≤ n) (hz : n * k ≤ 100000) : JoinOk nilS ts = true ∧ (Txt.join nilS ts).length ≤ n * k := by
  have e0 : nilS.length = 0 := by decide +kernel
  have s1 : (ts.map (·.length)).sum ≤ ts.length * k := by
    have := sum_le (l := ts.map (·.length)) (k := k) fun x m => by
      obtain ⟨y, my, e⟩ := List.mem_map.mp m
      rw [← e]
      exact h y my
    rwa [List.length_map] at this
  have s2 : ts.length * k ≤ n * k := Nat.mul_le_mul_right k hn
  refine ⟨joinOk_of ?_, ?_⟩
  · rw [e0]; omega
  · have : (Txt.join nilS ts).length = (ts.map (·.length)).sum := by
      show (Txt.join nilS ts).cps.size = _
      rw [← Array.length_toList, show nilS = PySem.Str.ofString "" from rfl, join_codes, List.length_flatMap]
      congr 1
    omega
theorem row_join {hs : HS} (H : HsOk hs) (hz : hs.length ≤ 12) (x : PySem.Str) : JoinOk nilS (rowQ hs x) = true ∧ (Txt.join nilS (rowQ hs x)).length ≤ 48 := by
  obtain ⟨h1, h2⟩ := rowQ_len H x
  exact joinN (n := 12) (k := 4) h2 (Nat.le_trans h1 hz) (by decide)
theorem rd_join {hs : HS} (H : HsOk hs) (hz : hs.length ≤ 12) : JoinOk nilS ((List.range 7).map fun k => Txt.join nilS (rowQ hs (nmQ k))) = true := by
  refine (joinN (n := 7) (k := 48) (fun x m => ?_) (by rw [List.length_map, List.length_range]; exact Nat.le_refl _) (by decide)).1
  obtain ⟨k, _, e⟩ := List.mem_map.mp m
  rw [← e]
  exact (row_join H hz _).2
theorem sb_nV {ds : List Nat} {k : Nat} (h : k < ds.length) (hz : ds.length ≤ 1000) : SbTo (.lst (nV ds)) (.int (k : Int)) (.int ((ds.getD k 0 : Nat) : Int)) := by
  refine SbTo.lst (k := k) (fits_nat (by omega)) (by unfold nV; rw [List.length_map]; exact seqIndex_at (by omega) (by omega)) ?_
  unfold nV
  rw [List.getElem?_map, List.getD_eq_getElem?_getD, List.getElem?_eq_getElem h]; rfl
theorem sb_strs {ss : List PySem.Str} {k : Nat} (h : k < ss.length) (hz : ss.length ≤ 1000) : SbTo (.lst (ss.map .str)) (.int (k : Int)) (.str (ss.getD k nilS)) := by
  exact SbTo.lst (k := k) (fits_nat (by omega)) (by rw [List.length_map]; exact seqIndex_at (by omega) (by omega)) (by simp [List.getD, h])
theorem itR (n : Nat) (h : fits (n : Int) = true) {q : Bool} : ItTo q (.rng 0 (n : Int)) ((List.range n).map fun (i : Nat) => V.int (i : Int)) := by
  have := ItTo.rng (q := q) (x := 0) (y := (n : Int)) rfl h
  rwa [Int.sub_zero, Int.toNat_natCast, show (fun i : Nat => V.int (0 + (i : Int))) = fun i : Nat => V.int (i : Int) from funext fun i => by rw [Int.zero_add]] at this
theorem flatVs_strs : ∀ l : List PySem.Str, flatVs (l.map V.str) = true
  | [] => rfl
  | _ :: r => flatVs_strs r
noncomputable def txMk (ds : List Nat) (dr : List PySem.Str) (hs : HS) : Loc := [(PySem.Str.ofString "depths", .lst (nV ds), .frz), (PySem.Str.ofString "dress", .lst (dr.map .str), .frz), (PySem.Str.ofString "table", hdV hs, .own)]
noncomputable def txOk (ds : List Nat) (dr : List PySem.Str) : Prop := ds.length = 6 ∧ dr.length = 6 ∧ (∀ d ∈ ds, d < 6) ∧ ∀ x ∈ dr, x ∈ dressQ
theorem tx_inv {ds : List Nat} {dr : List PySem.Str} (ok : txOk ds dr) {hs : HS} {k : Nat} (hk : k < 6) (H : HsOk hs) : HsOk (txStep ds dr hs k) ∧ (txStep ds dr hs k).length = hs.length + 2 ∧ ds.getD k 0 < 6 ∧ dr.getD k nilS ∈ dressQ := by
  obtain ⟨o1, o2, o3, o4⟩ := ok
  have d1 : ds.getD k 0 < 6 := by
    rw [List.getD_eq_getElem?_getD, List.getElem?_eq_getElem (by omega)]
    exact o3 _ (List.getElem_mem _)
  have d2 : dr.getD k nilS ∈ dressQ := by
    rw [List.getD_eq_getElem?_getD, List.getElem?_eq_getElem (by omega)]
    exact o4 _ (List.getElem_mem _)
  refine ⟨fun p m => ?_, ?_, d1, d2⟩
  · rcases List.mem_append.mp m with m | m
    · rcases List.mem_append.mp m with m | m
      · exact H p m
      · rw [List.mem_singleton.mp m]
        exact ⟨(nmA_ok _ d1).2.1, (nmA_ok _ d1).2.2, (dress_ok _ d2).2.2.2.1⟩
    · rw [List.mem_singleton.mp m]
      exact ⟨(nmB_ok _ d1).2.1, (nmB_ok _ d1).2.2, cls_ok2.2.2.2⟩
  · unfold txStep
    rw [List.length_append, List.length_append]; rfl
open Classical in
noncomputable def F278 : List V → Option V := fun a => on2 a fun v w => onL v fun l => onL w fun l' => (intsV l).bind fun is => (strsV l').bind fun dr => if txOk (is.map Int.toNat) dr ∧ (∀ i ∈ is, 0 ≤ i) then some (.str (txtOf (is.map Int.toNat) dr)) else none
noncomputable def hdB : Stmt → List Stmt
  | .Try _ (.ExceptHandler _ _ b _ :: _) _ _ _ => b
  | _ => []
theorem txt_suite {c : Cx} (T : OfTab c tab3) (e121 : ∀ vs ks, c.Γ.fn (.ref 121) vs ks = F208 vs ks) {ds : List Nat} {dr : List PySem.Str} {hs : HS} (H : HsOk hs) (hz : hs.length ≤ 12) : SsTo c (scpOf st278) (txMk ds dr hs) (hdB (nthS 2 (bodOf st278))) (.ret (.str (rdOf hs))) [] := by
  have q1 : c.Γ.fn (.ref 121) [hdV hs, .str (PySem.Str.ofString "h")] [] = some (.lst []) := by
    rw [e121, F208_q H (by omega) (by decide +kernel) (by decide +kernel), rowQ_nil H fun y m => (lowN_ok y m).2.1]; rfl
  have q2 : c.Γ.fn (.ref 121) [hdV hs, .str (Txt.mul (PySem.Str.ofString "a") 8)] [] = some (.lst []) := by
    rw [e121, F208_q H (by omega) (by decide +kernel) (by decide +kernel), rowQ_nil H (x := Txt.mul (PySem.Str.ofString "a") 8) fun y m => (lowN_ok y m).2.2]; rfl
  refine SsTo.stop (StTo.ifT (EtTo.cm2 (f0 := false) (f1 := false) (f2 := false) (x := true) (y := true) (EvTo.mt (fun _ => rfl) rfl (EvTo.nm 2 rfl (by kernel_rfl)) (by exact mt_aHD_get_all T rfl) (EvsTo.cons (fun _ => rfl) EvTo.cStr EvsTo.nil) EvkTo.nil (by exact q1)) (EvTo.mt (fun _ => rfl) rfl (EvTo.nm 2 rfl (by kernel_rfl)) (by exact mt_aHD_get_all T rfl) (EvsTo.cons (fun _ => rfl) (EvTo.bin (f1 := false) (f2 := false) EvTo.cStr EvTo.cInt (by exact OpTo.mulS (by decide +kernel) (by decide) (by decide))) EvsTo.nil) EvkTo.nil (by exact q2)) (CmTo.eq rfl) (fun _ => (EvTo.list EvsTo.nil (Nat.le_of_ble_eq_true rfl))) (fun _ => CmTo.eq rfl) rfl) (by
    exact SsTo.rt (RtTo.fresh (EvTo.sm (fun _ => rfl) rfl EvTo.cStr SmTo.join (EvsTo.cons (fun _ => rfl) (EvTo.lc (by kernel_rfl) (EiTo.val (fr := false) (fun _ _ => rfl) (EvTo.bi (f0 := false) (f1 := false) (EvTo.gl (gl_range T) (by kernel_rfl)) (EvsTo.cons (fun _ => rfl) EvTo.cInt EvsTo.nil) (by first | exact BiTo.range1 | exact BiTo.range2)) (by exact itR 7 rfl)) (cap_of [2] (by kernel_rfl) (rfl : _ = [_])) (CsTo.to (l' := ((List.range 7).map fun k => Txt.join nilS (rowQ hs (nmQ k))).map V.str) (CsTo.mp (f := fun i : Nat => V.int (i : Int)) (h := fun k : Nat => V.str (Txt.join nilS (rowQ hs (nmQ k)))) (List.range 7) (fun k m => by
            have hk := List.mem_range.mp m
            exact CiTo.el rfl rfl (BdTo.nm 1 .own (by first | rfl | kernel_rfl) (by kernel_rfl) (rfl : _ = [_, _])) (EvTo.sm (fun _ => rfl) rfl EvTo.cStr SmTo.join (EvsTo.cons (fun _ => rfl) (EvTo.mt (fun _ => rfl) rfl (EvTo.nm 0 rfl (by kernel_rfl)) (by exact mt_aHD_get_all T rfl) (EvsTo.cons (fun _ => rfl) (EvTo.slice (f1 := false) (EvTo.bin (f1 := false) (f2 := false) EvTo.cStr EvTo.cInt (by exact OpTo.mulS (by decide +kernel) (by decide) (by decide))) EoTo.none (EoTo.some (f1 := false) (EvTo.bin (f1 := false) (f2 := false) (EvTo.nm 1 rfl (by kernel_rfl)) EvTo.cInt (by first | assumption | exact OpTo.addI | exact OpTo.addS (by first | assumption | omega | rfl)))) (by exact SlTo.str (by rw [sizeLine_eq]; decide +kernel))) EvsTo.nil) EvkTo.nil (by exact (e121 _ _).trans (F208_q H (by omega) (nmQ_ok k hk).1 (nmQ_ok k hk).2))) EvsTo.nil) (by exact BiTo.join (row_join H hz _).1)))) (by rw [List.map_map]; rfl)) (by rw [List.length_map, List.length_map, List.length_range]; decide) (by intro q; cases q)) EvsTo.nil) (by exact BiTo.join (rd_join H hz)))))) rfl
theorem entB_two (ds : List Nat) (dr : List PySem.Str) : entB [PySem.Str.ofString "depths", PySem.Str.ofString "dress"] [.lst (nV ds), .lst (dr.map .str)] = [(PySem.Str.ofString "depths", .lst (nV ds), .frz), (PySem.Str.ofString "dress", .lst (dr.map .str), .frz)] := rfl
theorem SsX.cv {c : Cx} {sc : Scope} {b b1 : Loc} {ss : List Stmt} {v : V} (e : b = b1) (h : SsX c sc b1 ss v) : SsX c sc b ss v := e ▸ h
theorem nV_int {is : List Int} (h : ∀ i ∈ is, 0 ≤ i) : is.map V.int = nV (is.map Int.toNat) := by
  unfold nV
  rw [List.map_map]
  exact List.map_congr_left fun i m => congrArg V.int (Int.toNat_of_nonneg (h i m)).symm
theorem hs_fin {ds : List Nat} {dr : List PySem.Str} (ok : txOk ds dr) : HsOk (hsOf ds dr) ∧ (hsOf ds dr).length ≤ 12 := by
  have : ∀ (l : List Nat) (hs : HS), (∀ k ∈ l, k < 6) → HsOk hs → HsOk (l.foldl (txStep ds dr) hs) ∧ (l.foldl (txStep ds dr) hs).length = hs.length + 2 * l.length := fun l => by
    induction l with
    | nil => exact fun hs _ H => ⟨H, rfl⟩
    | cons k r ih =>
      intro hs hl H
      obtain ⟨i1, i2, _⟩ := tx_inv ok (hl k (.head _)) H
      obtain ⟨a, b⟩ := ih _ (fun j m => hl j (.tail _ m)) i1
      exact ⟨a, b.trans (by rw [i2, List.length_cons]; omega)⟩
  obtain ⟨a, b⟩ := this (List.range 6) [] (fun k m => List.mem_range.mp m) nn
  exact ⟨a, by rw [show (hsOf ds dr).length = _ from b]; decide⟩
open Classical in
theorem F278_some {args : List V} {r : V} (h : F278 args = some r) : ∃ ds dr, args = [.lst (nV ds), .lst (dr.map .str)] ∧ txOk ds dr ∧ r = .str (txtOf ds dr) := by
  obtain ⟨v, _, e, h⟩ := on2_some h
  subst e
  obtain ⟨l, e, h⟩ := onL_some h
  subst e
  obtain ⟨l', e, h⟩ := onL_some h
  subst e
  obtain ⟨is, e1, h⟩ := Option.bind_eq_some_iff.mp h
  obtain ⟨dr, e2, h⟩ := Option.bind_eq_some_iff.mp h
  obtain ⟨⟨ok, nn0⟩, h⟩ := ite_some h
  cases h
  exact ⟨is.map Int.toNat, dr, by rw [intsV_of e1, strsV_of e2, nV_int nn0], ok, rfl⟩
open Classical in
theorem F278_ok {ds : List Nat} {dr : List PySem.Str} (ok : txOk ds dr) : F278 [.lst (nV ds), .lst (dr.map .str)] = some (.str (txtOf ds dr)) := by
  have e : nV ds = (ds.map fun (d : Nat) => (d : Int)).map V.int := by unfold nV; rw [List.map_map]; rfl
  have e2 : (ds.map fun (d : Nat) => (d : Int)).map Int.toNat = ds := by rw [List.map_map]; exact (List.map_congr_left fun d _ => Int.toNat_natCast d).trans (List.map_id _)
  show (intsV (nV ds)).bind _ = _
  rw [e, intsV_map, Option.bind_some, strsV_map, Option.bind_some, e2, if_pos ⟨ok, fun i m => by
    obtain ⟨d, _, rfl⟩ := List.mem_map.mp m
    exact Int.natCast_nonneg d⟩]
theorem ok278 {c c2 : Cx} (T : OfTab c tab3) (I : FnIn c.K 278 st278 .none .none) (e271 : ∀ vs ks, c.Γ.fn (.ref aHD) vs ks = F271 vs ks) (f179 : c.Γ.eff aHD (PySem.Str.ofString "add_header") = some (.ref 179)) (e179 : ∀ y vs, c.Γ.efn (.ref 179) y vs = F268 y vs)
    (rz : RzFn c2 121 R121) (r1 : c2.prog = c.prog) (r2 : c2.w = c.w) (r3 : c2.K = c.K) (r4 : c2.h₀ = c.h₀) (r5 : c2.q = c.q) (r6 : c2.R + 2 ≤ c.R)
    (I83 : FnIn c.K 83 st170 .none .none) (P1 : PatOk c.K 48) (P2 : PatOk c.K 53) (I121 : FnIn c.K 121 st208 .none .none) (tk : tab3.Ok c.K) {mg mb : PySem.Str → Option PySem.Value} (ng : c.h₀.Ns mainGlobals mg) (nb : c.h₀.Ns builtinsNs mb) (hb : ∀ x : PySem.Str, x ≠ "__name__" → mb x = bootBuiltins x) (hR : 5 ≤ c.R) : FnX c.q c.prog c.w c.K c.h₀ (c.R + 2) 278 F278 := by
  refine fnX_of (names := [PySem.Str.ofString "depths", PySem.Str.ofString "dress"]) I (by kernel_rfl) (by kernel_rfl) ?_ ?_
  · intro name qual doc pm cdv ct an s us h
    obtain ⟨a, b, e⟩ := len2_ex h
    subst e
    exact BindsTo.of_eq rfl
  · intro args r h
    obtain ⟨ds, dr, e1, ok, e2⟩ := F278_some h
    subst e1; subst e2
    have T : OfTab (c.pin []) tab3 := T.pin
    refine ⟨rfl, ?_⟩
    refine SsX.cv (b1 := [(PySem.Str.ofString "depths", .lst (nV ds), .frz), (PySem.Str.ofString "dress", .lst (dr.map .str), .frz)]) (entB_two ds dr) ?_
    refine SsX.cons (b1 := [_, _, _]) (StTo.put 2 (EvTo.callA (f0 := false) (EvTo.gl (gl_Headers T) (by kernel_rfl)) (EvsTo.cons (fun _ => rfl) (EvTo.list EvsTo.nil (Nat.le_of_ble_eq_true rfl)) EvsTo.nil) (by exact (e271 _ _).trans rfl)) (by kernel_rfl) rfl (rfl : _ = [_, _, _])) ?_
    refine SsX.cv (b1 := txMk ds dr []) (by rfl) ?_
    refine SsX.cons (b1 := (txMk ds dr (hsOf ds dr))) (StTo.for (FsTo.new (fun _ _ => rfl) (EvTo.bi (f0 := false) (f1 := false) (EvTo.gl (gl_range T) (by kernel_rfl)) (EvsTo.cons (fun _ => rfl) EvTo.cInt EvsTo.nil) (by first | exact BiTo.range1 | exact BiTo.range2)) (by exact itR 6 rfl)) (by kernel_rfl) ?_) ?_
    · refine (LpTo.fL (σ := HS) (ι := Nat) (f := fun i : Nat => V.int (i : Int)) (mk := txMk ds dr) (g := txStep ds dr) (I := fun hs r => HsOk hs ∧ hs.length + 2 * r.length ≤ 12 ∧ ∀ k ∈ r, k < 6) (fun hs k r hI => ?_) (List.range 6) [] ⟨nn, by decide, fun k m => List.mem_range.mp m⟩).1
      obtain ⟨j1, j2, j3⟩ := hI
      rw [List.length_cons] at j2
      have hk := j3 k (.head _)
      obtain ⟨i1, i2, i3, i5⟩ := tx_inv ok hk j1
      have i4 := dress_ok _ i5
      have i6 := i4.2.2.2.2
      refine ⟨?_, i1, by rw [i2]; omega, fun k m => j3 k (.tail _ m)⟩
      have sbd : SbTo (.lst (nV ds)) (.int (k : Int)) (.int ((ds.getD k 0 : Nat) : Int)) := sb_nV (by rw [ok.1]; exact hk) (by rw [ok.1]; decide)
      have sbr : SbTo (.lst (dr.map .str)) (.int (k : Int)) (.str (dr.getD k nilS)) := sb_strs (by rw [ok.2.1]; exact hk) (by rw [ok.2.1]; decide)
      unfold txStep
      refine TnTo.mk [_, _, _, _] (BdTo.nm 3 .own (by first | rfl | kernel_rfl) (by kernel_rfl) (rfl : _ = [_, _, _, _])) ?_
      refine SsTo.cons (b1 := [_, _, _, _]) (StTo.eff (fr := false) (fun _ => rfl) rfl rfl (PlTo.nm 2 rfl (by kernel_rfl) (rfl : _ = [_, _, _, _])) (by kernel_rfl) f179 (EvsTo.cons (fun _ => rfl) (EvTo.bin (f1 := false) (f2 := false) EvTo.cStr (EvTo.bin (f1 := false) (f2 := false) (EvTo.sub (f1 := false) (f2 := false) (EvTo.nm 0 rfl (by kernel_rfl)) (EvTo.nm 3 rfl (by kernel_rfl)) (by exact sbd) (fun _ _ => rfl)) EvTo.cInt (by first | assumption | exact OpTo.addI | exact OpTo.addS (by first | assumption | omega | rfl))) (by exact OpTo.mulS (by decide +kernel) (by omega) (by omega))) (EvsTo.cons (fun _ => rfl) (EvTo.bin (f1 := false) (f2 := false) (EvTo.sub (f1 := false) (f2 := false) (EvTo.nm 1 rfl (by kernel_rfl)) (EvTo.nm 3 rfl (by kernel_rfl)) (by exact sbr) (fun _ _ => rfl)) EvTo.cStr (by exact OpTo.addS (by rw [show (PySem.Str.ofString "(").length = 1 by decide +kernel]; omega))) EvsTo.nil)) rfl (by exact (e179 _ _).trans (F268_q (by omega) (nmA_ok _ i3).1 i4.1 i4.2.1 i4.2.2.1))) ?_
      refine SsTo.cons (b1 := [_, _, _, _]) (StTo.eff (fr := false) (fun _ => rfl) rfl rfl (PlTo.nm 2 rfl (by kernel_rfl) (rfl : _ = [_, _, _, _])) (by kernel_rfl) f179 (EvsTo.cons (fun _ => rfl) (EvTo.bin (f1 := false) (f2 := false) EvTo.cStr (EvTo.bin (f1 := false) (f2 := false) (EvTo.sub (f1 := false) (f2 := false) (EvTo.nm 0 rfl (by kernel_rfl)) (EvTo.nm 3 rfl (by kernel_rfl)) (by exact sbd) (fun _ _ => rfl)) EvTo.cInt (by first | assumption | exact OpTo.addI | exact OpTo.addS (by first | assumption | omega | rfl))) (by exact OpTo.mulS (by decide +kernel) (by omega) (by omega))) (EvsTo.cons (fun _ => rfl) EvTo.cStr EvsTo.nil)) rfl (by exact (e179 _ _).trans (F268_q (by rw [List.length_append]; show hs.length + 1 ≤ 900; omega) (nmB_ok _ i3).1 cls_ok2.1 cls_ok2.2.1 cls_ok2.2.2.1))) ?_
      exact SsTo.dn (r := [_]) rfl
    obtain ⟨H, hz⟩ := hs_fin ok
    refine SsX.try (b' := []) (x := PySem.Str.ofString "ValueError") (RzE.meth (c := c.pin []) (f0 := false) (f1 := false) (fun _ => rfl) rfl (EvTo.nm 2 rfl (by kernel_rfl)) (mt_aHD_get_all T rfl) (EvsTo.cons (fun _ => rfl) EvTo.cStr EvsTo.nil) EvkTo.nil rz r1 r2 r3 r4 r5 r6 ⟨_, rfl, rfl⟩) rfl (fun h₁ hh => ?_) (by kernel_rfl) (by kernel_rfl)
    let c0 : Cx := { prog := c.prog, w := c.w, K := c.K, Γ := tab3.glo, h₀ := h₁, R := 1, Pin := [], q := false, ok := Tab.gloS tk (c.ok.base.kin.keeps hh) (c.ok.base.lim.keeps hh) (ng.keeps hh) (nb.keeps hh) hb }
    have T0 : OfTab c0 tab3 := ⟨rfl, rfl, rfl, rfl, rfl⟩
    let c1 := c0.addFn 83 F170 (ok170 T0 I83 P1 P2)
    have T1 : OfTab c1 tab3 := ⟨rfl, rfl, rfl, rfl, rfl⟩
    let c3 := c1.addFn 121 F208 (ok208 T1 I121 (fun _ _ => by kernel_rfl))
    have T3 : OfTab c3 tab3 := ⟨rfl, rfl, rfl, rfl, rfl⟩
    exact ⟨c3, rfl, rfl, rfl, rfl, rfl, hR, gl_ValueError T3, txt_suite T3 (fun _ _ => by kernel_rfl) H hz⟩

noncomputable def isBr (x : PySem.Str) : Bool := (opnS == x) || ((clsS == x) || false)
theorem inV_br {x : PySem.Str} (h : PyData.strOk x = true) : inV (.str x) [.str opnS, .str clsS] = some (isBr x) := by
  show (if PyData.canLayAll0 [.str opnS, .str clsS] = true ∧ (PyData.str x).canLay0 = true ∧ PyData.depthAll [.str opnS, .str clsS] ≤ 60 then some ([PyData.str opnS, .str clsS].any fun y => PyData.eqv y (.str x)) else none) = _
  rw [if_pos ⟨by decide +kernel, h, by decide⟩]; rfl
theorem cnt_sg {b : Bool} {l : List Bool} : (do
    let d ← dataV (sgV b)
    let ds ← dataVs (l.map sgV)
    if PyData.canLayAll0 ds = true ∧ d.canLay0 = true ∧ PyData.depthAll ds ≤ 60 then some (ds.countP fun z => PyData.eqv z d) else none) = some (l.count b) := by
  rw [dataVs_map (D := fun b => .str (sg b)) (fun _ => rfl)]
  show (if PyData.canLayAll0 (l.map fun b => PyData.str (sg b)) = true ∧ (PyData.str (sg b)).canLay0 = true ∧ PyData.depthAll (l.map fun b => PyData.str (sg b)) ≤ 60 then some ((l.map fun b => PyData.str (sg b)).countP fun y => PyData.eqv y (.str (sg b))) else none) = _
  rw [if_pos ⟨lay_map fun b _ => sg_ok b, sg_ok b, depth_map fun _ _ => Nat.zero_le _⟩, List.countP_map, List.count_eq_countP]
  congr 1
  congr 1
  funext d
  exact sg_beq d b
theorem inV_01 (d : Int) : inV (.int d) [.int 0, .int 1] = some ((0 == d) || ((1 == d) || false)) := rfl
noncomputable abbrev yl (x : PySem.Str) : List (Int × PySem.Str) := escQ false x.cps.toList.zipIdx
noncomputable def runN (h : Nat) : PySem.Str := Txt.mul (PySem.Str.ofString " ") (h : Int) ++ PySem.Str.ofString "\t"
noncomputable def ldT (hs : List Nat) : PySem.Str := Txt.join nilS (hs.map runN)
noncomputable def ldV (hs : List Nat) : V := wsV (ldT hs) (wsRun (ldT hs))
noncomputable def prB (ds : List Nat) (k j : Nat) : Bool := (0 == ((ds.getD j 0 : Int) - (ds.getD k 0 : Int))) || ((1 == ((ds.getD j 0 : Int) - (ds.getD k 0 : Int))) || false)
noncomputable def prL (ds : List Nat) : List Int := (List.range 6).flatMap fun k => ((List.range k).filter fun j => prB ds k j).map fun _ => 1
noncomputable def hgt (bs : List Bool) (k : Nat) : Int := ((bs.take k).count true : Int) - ((bs.take k).count false : Int)
structure Good (ds : List Nat) (dr : List PySem.Str) (bs : List Bool) (hts : List Nat) : Prop where
  lb : bs.length ≤ 100
  z : (txtOf ds dr).length ≤ 1000
  c1 : F125q [.str (txtOf ds dr)] [] = some (.bool true)
  c2 : F125q [.str (txtOf ds dr ++ PySem.Str.ofString ")(()")] [] = some (.bool false)
  st : ∃ x, F118q [.str (txtOf ds dr)] [] = some (.str x) ∧ F111 [.str x] = some ((yl x).map tpV) ∧ (yl x).length ≤ 1000 ∧ (∀ p ∈ yl x, PyData.strOk p.2 = true) ∧ ((yl x).filter fun p => isBr p.2).map (·.2) = bs.map sg
  lh : hts.length ≤ 100
  h9 : ∀ h ∈ hts, h ≤ 9
  d9 : ∀ h ∈ ds, h ≤ 9
  hg : ((List.range bs.length).filter fun k => bs.getD k false).map (hgt bs) = hts.map fun (h : Nat) => (h : Int)
  ld : F100 [.str (ldT ds)] [] = some (ldV ds)
  lt : F100 [.str (ldT hts)] [] = some (ldV hts)
  nm : eqV (.tup [.tup ((wsRun (ldT ds)).count.map .int), .int (wsRun (ldT ds)).b]) (.tup [.tup ((wvR bs).map .int), .int 0]) = some true
  i1 : F69 [ldV hts, .int 1] [] = some (.int (6 + ((prL ds).length : Int)))
  i2 : F69 [ldV hts, .int 2] [] = some (.int (hts.map fun (h : Nat) => 2 + (h : Int).fdiv 2 * 2).sum)
  q : quR bs = some ds
theorem run_len : ∀ h : Nat, h < 10 → (Txt.mul (PySem.Str.ofString " ") (h : Int)).length + (PySem.Str.ofString "\t").length ≤ 1000000 ∧ (runN h).length ≤ 10 := by decide +kernel
theorem ld_join {hs : List Nat} (h : ∀ x ∈ hs, x ≤ 9) (hz : hs.length ≤ 100) : JoinOk nilS (hs.map runN) = true := by
  refine (joinN (n := 100) (k := 10) (fun x m => ?_) (by rw [List.length_map]; exact hz) (by decide)).1
  obtain ⟨k, mk, e⟩ := List.mem_map.mp m
  rw [← e]
  exact (run_len k (Nat.lt_succ_of_le (h k mk))).2
theorem sb_sg {bs : List Bool} {k : Nat} (h : k < bs.length) (hz : bs.length ≤ 1000) : SbTo (.lst (bs.map sgV)) (.int (k : Int)) (.str (sg (bs.getD k false))) := by
  refine SbTo.lst (k := k) (fits_nat (by omega)) (by rw [List.length_map]; exact seqIndex_at (by omega) (by omega)) ?_
  rw [List.getElem?_map, List.getD_eq_getElem?_getD, List.getElem?_eq_getElem h]; rfl
theorem pick_sg (bs : List Bool) (k : Nat) (h : k ≤ bs.length) : pickV (bs.map sgV) none (some (k : Int)) = (bs.take k).map sgV := by
  unfold pickV
  simp only [Option.elim, List.length_map, List.drop_zero]
  rw [clip_nat _ _ h, Nat.sub_zero, List.map_take]
theorem getV {bs : List Bool} {hts : List Nat} (h : ((List.range bs.length).filter fun k => bs.getD k false).map (hgt bs) = hts.map fun (h : Nat) => (h : Int)) : ((List.range bs.length).filter fun k => bs.getD k false).map (fun k => V.int (hgt bs k)) = nV hts := by
  have := congrArg (List.map V.int) h
  rw [List.map_map, List.map_map] at this
  exact this
theorem eqv_self (b : Bool) : (sg b == opnS) = b := by cases b <;> decide +kernel
theorem prL_len (ds : List Nat) : (prL ds).length ≤ 100 := by
  unfold prL
  rw [List.length_flatMap]
  have : ∀ l : List Nat, (∀ k ∈ l, k < 6) → (l.map fun k => (((List.range k).filter fun j => prB ds k j).map fun _ => (1 : Int)).length).sum ≤ 6 * l.length := fun l => by
    induction l with
    | nil => exact fun _ => Nat.le_refl _
    | cons i r ih =>
      intro hl
      rw [List.map_cons, List.sum_cons, List.length_cons, List.length_map]
      have h1 := List.length_filter_le (fun j => prB ds i j) (List.range i)
      rw [List.length_range] at h1
      have h2 := hl i (.head _)
      have h3 := ih fun k m => hl k (.tail _ m)
      omega
  exact Nat.le_trans (this _ fun k m => List.mem_range.mp m) (by decide)
noncomputable def whMk (ds : List Nat) (dr : List PySem.Str) : Loc := [(PySem.Str.ofString "depths", .lst (nV ds), .frz), (PySem.Str.ofString "dress", .lst (dr.map .str), .frz), (PySem.Str.ofString "text", .str (txtOf ds dr), .own)]
noncomputable def wh3 (ds : List Nat) (dr : List PySem.Str) (bs : List Bool) (hts : List Nat) : Loc := [(PySem.Str.ofString "depths", .lst (nV ds), .frz), (PySem.Str.ofString "dress", .lst (dr.map .str), .frz), (PySem.Str.ofString "text", .str (txtOf ds dr), .own)]
noncomputable def wh4 (ds : List Nat) (dr : List PySem.Str) (bs : List Bool) (hts : List Nat) : Loc := [(PySem.Str.ofString "depths", .lst (nV ds), .frz), (PySem.Str.ofString "dress", .lst (dr.map .str), .frz), (PySem.Str.ofString "text", .str (txtOf ds dr), .own), (PySem.Str.ofString "signs", .lst (bs.map sgV), .own)]
noncomputable def wh5 (ds : List Nat) (dr : List PySem.Str) (bs : List Bool) (hts : List Nat) : Loc := [(PySem.Str.ofString "depths", .lst (nV ds), .frz), (PySem.Str.ofString "dress", .lst (dr.map .str), .frz), (PySem.Str.ofString "text", .str (txtOf ds dr), .own), (PySem.Str.ofString "signs", .lst (bs.map sgV), .own), (PySem.Str.ofString "lead", ldV ds, .own)]
noncomputable def wh6 (ds : List Nat) (dr : List PySem.Str) (bs : List Bool) (hts : List Nat) : Loc := [(PySem.Str.ofString "depths", .lst (nV ds), .frz), (PySem.Str.ofString "dress", .lst (dr.map .str), .frz), (PySem.Str.ofString "text", .str (txtOf ds dr), .own), (PySem.Str.ofString "signs", .lst (bs.map sgV), .own), (PySem.Str.ofString "lead", ldV ds, .own), (PySem.Str.ofString "opened", .lst (nV hts), .own)]
noncomputable def wh7 (ds : List Nat) (dr : List PySem.Str) (bs : List Bool) (hts : List Nat) : Loc := [(PySem.Str.ofString "depths", .lst (nV ds), .frz), (PySem.Str.ofString "dress", .lst (dr.map .str), .frz), (PySem.Str.ofString "text", .str (txtOf ds dr), .own), (PySem.Str.ofString "signs", .lst (bs.map sgV), .own), (PySem.Str.ofString "lead", ldV ds, .own), (PySem.Str.ofString "opened", .lst (nV hts), .own), (PySem.Str.ofString "broad", ldV hts, .own)]
noncomputable def wh8 (ds : List Nat) (dr : List PySem.Str) (bs : List Bool) (hts : List Nat) : Loc := [(PySem.Str.ofString "depths", .lst (nV ds), .frz), (PySem.Str.ofString "dress", .lst (dr.map .str), .frz), (PySem.Str.ofString "text", .str (txtOf ds dr), .own), (PySem.Str.ofString "signs", .lst (bs.map sgV), .own), (PySem.Str.ofString "lead", ldV ds, .own), (PySem.Str.ofString "opened", .lst (nV hts), .own), (PySem.Str.ofString "broad", ldV hts, .own), (PySem.Str.ofString "pairs", .lst ((prL ds).map .int), .own)]
theorem who1 {c : Cx} (T : OfTab (c.pin []) tab3) (hq : c.q = true) (e207 : ∀ vs ks, c.Γ.fn (.ref 207) vs ks = F125q vs ks) {ds : List Nat} {dr : List PySem.Str} {bs : List Bool} {hts : List Nat} (ok : txOk ds dr) (G : Good ds dr bs hts) (h : SsTo (c.pin []) (scpOf st295) (wh3 ds dr bs hts) ((bodOf st295).drop 2) (.ret (.lst (bs.map sgV))) []) : SsTo (c.pin []) (scpOf st295) (wh3 ds dr bs hts) ((bodOf st295).drop 1) (.ret (.lst (bs.map sgV))) [] := by
  have hb := G.lb
  refine SsTo.cons (b1 := [_, _, _]) (StTo.ifF (EtTo.bool (EaTo.orF (EtTo.cm (EvTo.call (f0 := false) (f1 := false) (EvTo.gl (gl_check_parenthesis T) (by kernel_rfl)) (EvsTo.cons (fun _ => rfl) (EvTo.nm 2 rfl (by kernel_rfl)) EvsTo.nil) EvkTo.nil (by exact (e207 _ _).trans G.c1) (T.aln (by kernel_rfl))) EvTo.cBool (by first | assumption | exact CmTo.isNot (by first | exact IsTo.bool | exact IsTo.type | exact IsTo.noneN | exact IsTo.strN | exact IsTo.intN | exact IsTo.lstN)) (by rfl) rfl) (EaTo.orF (EtTo.cm (EvTo.call (f0 := false) (f1 := false) (EvTo.gl (gl_check_parenthesis T) (by kernel_rfl)) (EvsTo.cons (fun _ => rfl) (EvTo.bin (f1 := false) (f2 := false) (EvTo.nm 2 rfl (by kernel_rfl)) EvTo.cStr (by exact OpTo.addS (by rw [show (PySem.Str.ofString ")(()").length = 4 by decide +kernel]; have := G.z; omega))) EvsTo.nil) EvkTo.nil (by exact (e207 _ _).trans G.c2) (T.aln (by kernel_rfl))) EvTo.cBool (by first | assumption | exact CmTo.isNot (by first | exact IsTo.bool | exact IsTo.type | exact IsTo.noneN | exact IsTo.strN | exact IsTo.intN | exact IsTo.lstN)) (by rfl) rfl) EaTo.nil))) (by
      exact SsTo.nil)) ?_
  exact SsTo.cv (b1 := (wh3 ds dr bs hts)) rfl h
theorem who2 {c : Cx} (T : OfTab (c.pin []) tab3) (hq : c.q = true) (e200 : ∀ vs ks, c.Γ.fn (.ref 200) vs ks = F118q vs ks) (e193 : ∀ vs, c.Γ.gen (.ref 193) vs = F111 vs) {ds : List Nat} {dr : List PySem.Str} {bs : List Bool} {hts : List Nat} (ok : txOk ds dr) (G : Good ds dr bs hts) (h : SsTo (c.pin []) (scpOf st295) (wh4 ds dr bs hts) ((bodOf st295).drop 3) (.ret (.lst (bs.map sgV))) []) : SsTo (c.pin []) (scpOf st295) (wh3 ds dr bs hts) ((bodOf st295).drop 2) (.ret (.lst (bs.map sgV))) [] := by
  have hb := G.lb
  obtain ⟨x, s1, s2, s3, s4, s5⟩ := G.st
  refine SsTo.cons (b1 := [_, _, _, _]) (StTo.putC 3 (by kernel_rfl) (by kernel_rfl) (EiTo.gen (f0 := false) (f1 := false) (EvTo.gl (gl_iter_escaped_chars T) (by kernel_rfl)) (EvsTo.cons (fun _ => rfl) (EvTo.call (f0 := false) (f1 := false) (EvTo.gl (gl_strip_quoted_realnames T) (by kernel_rfl)) (EvsTo.cons (fun _ => rfl) (EvTo.nm 2 rfl (by kernel_rfl)) EvsTo.nil) EvkTo.nil (by exact (e200 _ _).trans s1) (T.aln (by kernel_rfl))) EvsTo.nil) (by exact (e193 _).trans s2)) (cap_of [] (by kernel_rfl) (rfl : _ = [])) (CsTo.to (l' := bs.map sgV) (CsTo.ft (f := tpV) (h := fun p : Int × PySem.Str => V.str p.2) (p := fun p : Int × PySem.Str => isBr p.2) (yl x) (fun p m => by
          have hp := s4 p m
          cases n1 : isBr p.2
          · exact CiTo.out rfl (BdTo.pr (by exact hq) 0 1 .own .own (by first | rfl | kernel_rfl) (by first | rfl | kernel_rfl) (by kernel_rfl) (rfl : _ = [_]) (by kernel_rfl) (rfl : _ = [_, _])) (EtTo.cm (EvTo.nm 1 rfl (by kernel_rfl)) (EvTo.tup (EvsTo.cons (fun _ => rfl) EvTo.cStr (EvsTo.cons (fun _ => rfl) EvTo.cStr EvsTo.nil)) (Nat.le_of_ble_eq_true rfl)) (by exact CmTo.inT (inV_br hp)) (by exact n1) rfl)
          · exact CiTo.in rfl rfl (BdTo.pr (by exact hq) 0 1 .own .own (by first | rfl | kernel_rfl) (by first | rfl | kernel_rfl) (by kernel_rfl) (rfl : _ = [_]) (by kernel_rfl) (rfl : _ = [_, _])) (EtTo.cm (EvTo.nm 1 rfl (by kernel_rfl)) (EvTo.tup (EvsTo.cons (fun _ => rfl) EvTo.cStr (EvsTo.cons (fun _ => rfl) EvTo.cStr EvsTo.nil)) (Nat.le_of_ble_eq_true rfl)) (by exact CmTo.inT (inV_br hp)) (by exact n1) rfl) (EvTo.nm 1 rfl (by kernel_rfl)))) (by have := congrArg (List.map V.str) s5; rw [List.map_map, List.map_map] at this; exact this)) (by rw [List.length_map]; have := G.lb; omega) (by exact flatVs_sgV _) (rfl : _ = [_, _, _, _])) ?_
  exact SsTo.cv (b1 := (wh4 ds dr bs hts)) rfl h
theorem who3 {c : Cx} (T : OfTab (c.pin []) tab3) (hq : c.q = true) (e100 : ∀ vs ks, c.Γ.fn (.ref aWS) vs ks = F100 vs ks) {ds : List Nat} {dr : List PySem.Str} {bs : List Bool} {hts : List Nat} (ok : txOk ds dr) (G : Good ds dr bs hts) (h : SsTo (c.pin []) (scpOf st295) (wh5 ds dr bs hts) ((bodOf st295).drop 4) (.ret (.lst (bs.map sgV))) []) : SsTo (c.pin []) (scpOf st295) (wh4 ds dr bs hts) ((bodOf st295).drop 3) (.ret (.lst (bs.map sgV))) [] := by
  have hb := G.lb
  refine SsTo.cons (b1 := [_, _, _, _, _]) (StTo.put 4 (EvTo.call (f0 := false) (f1 := false) (EvTo.gl (gl_Whitespace T) (by kernel_rfl)) (EvsTo.cons (fun _ => rfl) (EvTo.sm (fun _ => rfl) rfl EvTo.cStr SmTo.join (EvsTo.cons (fun _ => rfl) (EvTo.lc (by kernel_rfl) (EiTo.val (fr := false) (fun _ _ => rfl) (EvTo.nm 0 rfl (by kernel_rfl)) (by exact ItTo.lst)) (cap_of [] (by kernel_rfl) (rfl : _ = [])) (CsTo.to (l' := (ds.map runN).map V.str) (CsTo.mp (f := fun d : Nat => V.int (d : Int)) (h := fun d : Nat => V.str (runN d)) ds (fun k m => CiTo.el rfl rfl (BdTo.nm 0 .own (by first | rfl | kernel_rfl) (by kernel_rfl) (rfl : _ = [_])) (EvTo.bin (f1 := false) (f2 := false) (EvTo.bin (f1 := false) (f2 := false) EvTo.cStr (EvTo.nm 0 rfl (by kernel_rfl)) (by exact OpTo.mulS (by decide +kernel) (by have := G.d9 k m; omega) (by omega))) EvTo.cStr (by exact OpTo.addS (run_len k (Nat.lt_succ_of_le (G.d9 k m))).1)))) (by rw [List.map_map]; rfl)) (by rw [List.length_map, List.length_map, ok.1]; decide) (by intro q; cases q)) EvsTo.nil) (by exact BiTo.join (ld_join G.d9 (by rw [ok.1]; decide)))) EvsTo.nil) EvkTo.nil (by exact (e100 _ _).trans G.ld) (T.aln (by kernel_rfl))) (by kernel_rfl) rfl (rfl : _ = [_, _, _, _, _])) ?_
  exact SsTo.cv (b1 := (wh5 ds dr bs hts)) rfl h
theorem who4 {c : Cx} (T : OfTab (c.pin []) tab3) (hq : c.q = true)  {ds : List Nat} {dr : List PySem.Str} {bs : List Bool} {hts : List Nat} (ok : txOk ds dr) (G : Good ds dr bs hts) (h : SsTo (c.pin []) (scpOf st295) (wh6 ds dr bs hts) ((bodOf st295).drop 5) (.ret (.lst (bs.map sgV))) []) : SsTo (c.pin []) (scpOf st295) (wh5 ds dr bs hts) ((bodOf st295).drop 4) (.ret (.lst (bs.map sgV))) [] := by
  have hb := G.lb
  refine SsTo.cons (b1 := [_, _, _, _, _, _]) (StTo.putC 5 (by kernel_rfl) (by kernel_rfl) (EiTo.val (fr := false) (fun _ _ => rfl) (EvTo.bi (f0 := false) (f1 := false) (EvTo.gl (gl_range T) (by kernel_rfl)) (EvsTo.cons (fun _ => rfl) (EvTo.to (v' := .int (bs.length : Int)) (EvTo.bi (f0 := false) (f1 := false) (EvTo.gl (gl_len T) (by kernel_rfl)) (EvsTo.cons (fun _ => rfl) (EvTo.nm 3 rfl (by kernel_rfl)) EvsTo.nil) (by exact BiTo.lenL (by rw [List.length_map]; omega))) (by rw [List.length_map])) EvsTo.nil) (by first | exact BiTo.range1 | exact BiTo.range2)) (by exact itR _ (fits_nat (by omega)))) (cap_of [3] (by kernel_rfl) (rfl : _ = [_])) (CsTo.to (l' := nV hts) (CsTo.ft (f := fun i : Nat => V.int (i : Int)) (h := fun k => V.int (hgt bs k)) (p := fun k => bs.getD k false) (List.range bs.length) (fun k m => by
          have hk := List.mem_range.mp m
          cases n1 : bs.getD k false
          · exact CiTo.out rfl (BdTo.nm 1 .own (by first | rfl | kernel_rfl) (by kernel_rfl) (rfl : _ = [_, _])) (EtTo.cm (EvTo.sub (f1 := false) (f2 := false) (EvTo.nm 0 rfl (by kernel_rfl)) (EvTo.nm 1 rfl (by kernel_rfl)) (by exact sb_sg hk (by omega)) (fun _ _ => rfl)) EvTo.cStr (by exact CmTo.eq (eqV_str (sg_ok _) opnS_ok)) (by exact (eqv_self _).trans n1) rfl)
          · exact CiTo.in rfl rfl (BdTo.nm 1 .own (by first | rfl | kernel_rfl) (by kernel_rfl) (rfl : _ = [_, _])) (EtTo.cm (EvTo.sub (f1 := false) (f2 := false) (EvTo.nm 0 rfl (by kernel_rfl)) (EvTo.nm 1 rfl (by kernel_rfl)) (by exact sb_sg hk (by omega)) (fun _ _ => rfl)) EvTo.cStr (by exact CmTo.eq (eqV_str (sg_ok _) opnS_ok)) (by exact (eqv_self _).trans n1) rfl) (EvTo.bin (f1 := false) (f2 := false) (EvTo.cnt (f0 := false) (f1 := false) (n := (bs.take k).count true) (y := sgV true) rfl (fun _ => rfl) (EvTo.to (v' := .lst ((bs.take k).map sgV)) (EvTo.slice (f1 := false) (EvTo.nm 0 rfl (by kernel_rfl)) EoTo.none (EoTo.some (f1 := false) (EvTo.nm 1 rfl (by kernel_rfl))) (by exact SlTo.lst (by rw [List.length_map]; omega) (by intro q; cases q))) (by exact congrArg V.lst (pick_sg bs k (by omega)))) (fun _ => rfl) EvTo.cStr cnt_sg) (EvTo.cnt (f0 := false) (f1 := false) (n := (bs.take k).count false) (y := sgV false) rfl (fun _ => rfl) (EvTo.to (v' := .lst ((bs.take k).map sgV)) (EvTo.slice (f1 := false) (EvTo.nm 0 rfl (by kernel_rfl)) EoTo.none (EoTo.some (f1 := false) (EvTo.nm 1 rfl (by kernel_rfl))) (by exact SlTo.lst (by rw [List.length_map]; omega) (by intro q; cases q))) (by exact congrArg V.lst (pick_sg bs k (by omega)))) (fun _ => rfl) EvTo.cStr cnt_sg) (by first | assumption | exact OpTo.subI)))) (getV G.hg)) (by unfold nV; rw [List.length_map]; have := G.lh; omega) (by exact flatVs_nV _) (rfl : _ = [_, _, _, _, _, _])) ?_
  exact SsTo.cv (b1 := (wh6 ds dr bs hts)) rfl h
theorem who5 {c : Cx} (T : OfTab (c.pin []) tab3) (hq : c.q = true) (e100 : ∀ vs ks, c.Γ.fn (.ref aWS) vs ks = F100 vs ks) {ds : List Nat} {dr : List PySem.Str} {bs : List Bool} {hts : List Nat} (ok : txOk ds dr) (G : Good ds dr bs hts) (h : SsTo (c.pin []) (scpOf st295) (wh7 ds dr bs hts) ((bodOf st295).drop 6) (.ret (.lst (bs.map sgV))) []) : SsTo (c.pin []) (scpOf st295) (wh6 ds dr bs hts) ((bodOf st295).drop 5) (.ret (.lst (bs.map sgV))) [] := by
  have hb := G.lb
  refine SsTo.cons (b1 := [_, _, _, _, _, _, _]) (StTo.put 6 (EvTo.call (f0 := false) (f1 := false) (EvTo.gl (gl_Whitespace T) (by kernel_rfl)) (EvsTo.cons (fun _ => rfl) (EvTo.sm (fun _ => rfl) rfl EvTo.cStr SmTo.join (EvsTo.cons (fun _ => rfl) (EvTo.lc (by kernel_rfl) (EiTo.val (fr := false) (fun _ _ => rfl) (EvTo.nm 5 rfl (by kernel_rfl)) (by exact ItTo.lst)) (cap_of [] (by kernel_rfl) (rfl : _ = [])) (CsTo.to (l' := (hts.map runN).map V.str) (CsTo.mp (f := fun d : Nat => V.int (d : Int)) (h := fun d : Nat => V.str (runN d)) hts (fun k m => CiTo.el rfl rfl (BdTo.nm 0 .own (by first | rfl | kernel_rfl) (by kernel_rfl) (rfl : _ = [_])) (EvTo.bin (f1 := false) (f2 := false) (EvTo.bin (f1 := false) (f2 := false) EvTo.cStr (EvTo.nm 0 rfl (by kernel_rfl)) (by exact OpTo.mulS (by decide +kernel) (by have := G.h9 k m; omega) (by omega))) EvTo.cStr (by exact OpTo.addS (run_len k (Nat.lt_succ_of_le (G.h9 k m))).1)))) (by rw [List.map_map]; rfl)) (by rw [List.length_map, List.length_map]; have := G.lh; omega) (by intro q; cases q)) EvsTo.nil) (by exact BiTo.join (ld_join G.h9 G.lh))) EvsTo.nil) EvkTo.nil (by exact (e100 _ _).trans G.lt) (T.aln (by kernel_rfl))) (by kernel_rfl) rfl (rfl : _ = [_, _, _, _, _, _, _])) ?_
  exact SsTo.cv (b1 := (wh7 ds dr bs hts)) rfl h
theorem who6 {c : Cx} (T : OfTab (c.pin []) tab3) (hq : c.q = true)  {ds : List Nat} {dr : List PySem.Str} {bs : List Bool} {hts : List Nat} (ok : txOk ds dr) (G : Good ds dr bs hts) (h : SsTo (c.pin []) (scpOf st295) (wh8 ds dr bs hts) ((bodOf st295).drop 7) (.ret (.lst (bs.map sgV))) []) : SsTo (c.pin []) (scpOf st295) (wh7 ds dr bs hts) ((bodOf st295).drop 6) (.ret (.lst (bs.map sgV))) [] := by
  have hb := G.lb
  refine SsTo.cons (b1 := [_, _, _, _, _, _, _, _]) (StTo.putC 7 (by kernel_rfl) (by kernel_rfl) (EiTo.val (fr := false) (fun _ _ => rfl) (EvTo.bi (f0 := false) (f1 := false) (EvTo.gl (gl_range T) (by kernel_rfl)) (EvsTo.cons (fun _ => rfl) EvTo.cInt EvsTo.nil) (by first | exact BiTo.range1 | exact BiTo.range2)) (by exact itR 6 rfl)) (cap_of [0] (by kernel_rfl) (rfl : _ = [_])) (CsTo.to (l' := (prL ds).map V.int) (CsTo.fM (f := fun i : Nat => V.int (i : Int)) (k := fun k : Nat => ((List.range k).filter fun j => prB ds k j).map fun _ => V.int 1) (List.range 6) (fun k m => by
          have hk := List.mem_range.mp m
          exact CiTo.more rfl (BdTo.nm 1 .own (by first | rfl | kernel_rfl) (by kernel_rfl) (rfl : _ = [_, _])) (EiTo.val (fr := false) (fun _ _ => rfl) (EvTo.bi (f0 := false) (f1 := false) (EvTo.gl (gl_range T) (by kernel_rfl)) (EvsTo.cons (fun _ => rfl) (EvTo.nm 1 rfl (by kernel_rfl)) EvsTo.nil) (by first | exact BiTo.range1 | exact BiTo.range2)) (by exact itR k (fits_nat (by omega)))) (by kernel_rfl) (CsTo.ft (f := fun i : Nat => V.int (i : Int)) (h := fun _ => V.int 1) (p := fun j => prB ds k j) (List.range k) (fun j m => by
            have hj := List.mem_range.mp m
            cases n1 : prB ds k j
            · exact CiTo.out rfl (BdTo.nm 2 .own (by first | rfl | kernel_rfl) (by kernel_rfl) (rfl : _ = [_, _, _])) (EtTo.cm (EvTo.bin (f1 := false) (f2 := false) (EvTo.sub (f1 := false) (f2 := false) (EvTo.nm 0 rfl (by kernel_rfl)) (EvTo.nm 2 rfl (by kernel_rfl)) (by exact sb_nV (by rw [ok.1]; omega) (by rw [ok.1]; decide)) (fun _ _ => rfl)) (EvTo.sub (f1 := false) (f2 := false) (EvTo.nm 0 rfl (by kernel_rfl)) (EvTo.nm 1 rfl (by kernel_rfl)) (by exact sb_nV (by rw [ok.1]; omega) (by rw [ok.1]; decide)) (fun _ _ => rfl)) (by first | assumption | exact OpTo.subI)) (EvTo.tup (EvsTo.cons (fun _ => rfl) EvTo.cInt (EvsTo.cons (fun _ => rfl) EvTo.cInt EvsTo.nil)) (Nat.le_of_ble_eq_true rfl)) (by exact CmTo.inT (inV_01 _)) (by exact n1) rfl)
            · exact CiTo.in rfl rfl (BdTo.nm 2 .own (by first | rfl | kernel_rfl) (by kernel_rfl) (rfl : _ = [_, _, _])) (EtTo.cm (EvTo.bin (f1 := false) (f2 := false) (EvTo.sub (f1 := false) (f2 := false) (EvTo.nm 0 rfl (by kernel_rfl)) (EvTo.nm 2 rfl (by kernel_rfl)) (by exact sb_nV (by rw [ok.1]; omega) (by rw [ok.1]; decide)) (fun _ _ => rfl)) (EvTo.sub (f1 := false) (f2 := false) (EvTo.nm 0 rfl (by kernel_rfl)) (EvTo.nm 1 rfl (by kernel_rfl)) (by exact sb_nV (by rw [ok.1]; omega) (by rw [ok.1]; decide)) (fun _ _ => rfl)) (by first | assumption | exact OpTo.subI)) (EvTo.tup (EvsTo.cons (fun _ => rfl) EvTo.cInt (EvsTo.cons (fun _ => rfl) EvTo.cInt EvsTo.nil)) (Nat.le_of_ble_eq_true rfl)) (by exact CmTo.inT (inV_01 _)) (by exact n1) rfl) EvTo.cInt)))) (by unfold prL; rw [List.map_flatMap]; congr 1; funext k; rw [List.map_map]; rfl)) (by rw [List.length_map]; exact Nat.le_trans (prL_len ds) (by decide)) (by exact flatVs_int _) (rfl : _ = [_, _, _, _, _, _, _, _])) ?_
  exact SsTo.cv (b1 := (wh8 ds dr bs hts)) rfl h
theorem who7 {c : Cx} (T : OfTab (c.pin []) tab3) (hq : c.q = true) (e238 : ∀ vs ks, c.Γ.fn (.ref 238) vs ks = F69 vs ks) (e290 : ∀ vs ks, c.Γ.fn (.ref 290) vs ks = F290 vs ks) {ds : List Nat} {dr : List PySem.Str} {bs : List Bool} {hts : List Nat} (ok : txOk ds dr) (G : Good ds dr bs hts) (h : SsTo (c.pin []) (scpOf st295) (wh8 ds dr bs hts) ((bodOf st295).drop 8) (.ret (.lst (bs.map sgV))) []) : SsTo (c.pin []) (scpOf st295) (wh8 ds dr bs hts) ((bodOf st295).drop 7) (.ret (.lst (bs.map sgV))) [] := by
  have hb := G.lb
  have w1 : F290 [.lst (bs.map sgV)] [] = some (.tup ((wvR bs).map .int)) := by
    show (bitsV _).bind _ = _
    rw [bitsV_map, Option.bind_some, if_pos hb]
  refine SsTo.cons (b1 := [_, _, _, _, _, _, _, _]) (StTo.ifF (EtTo.bool (EaTo.orF (EtTo.cm (EvTo.fl 3 (fun _ => rfl) (EvTo.nm 4 rfl (by kernel_rfl)) (fl_aWS_norm T) (by rfl) (by kernel_rfl)) (EvTo.tup (EvsTo.cons (fun _ => rfl) (EvTo.call (f0 := false) (f1 := false) (EvTo.gl (gl_law_waves T) (by kernel_rfl)) (EvsTo.cons (fun _ => rfl) (EvTo.nm 3 rfl (by kernel_rfl)) EvsTo.nil) EvkTo.nil (by exact (e290 _ _).trans w1) (T.aln (by kernel_rfl))) (EvsTo.cons (fun _ => rfl) EvTo.cInt EvsTo.nil)) (Nat.le_of_ble_eq_true rfl)) (by exact CmTo.ne G.nm) (by rfl) rfl) (EaTo.orF (EtTo.cm (EvTo.mt (fun _ => rfl) rfl (EvTo.nm 6 rfl (by kernel_rfl)) (by exact mt_aWS_indent_level T rfl) (EvsTo.cons (fun _ => rfl) EvTo.cInt EvsTo.nil) EvkTo.nil (by exact (e238 _ _).trans G.i1)) (EvTo.bin (f1 := false) (f2 := false) EvTo.cInt (EvTo.to (v' := .int ((prL ds).length : Int)) (EvTo.bi (f0 := false) (f1 := false) (EvTo.gl (gl_len T) (by kernel_rfl)) (EvsTo.cons (fun _ => rfl) (EvTo.nm 7 rfl (by kernel_rfl)) EvsTo.nil) (by exact BiTo.lenL (by rw [List.length_map]; exact Nat.le_trans (prL_len ds) (by decide)))) (by rw [List.length_map])) (by first | assumption | exact OpTo.addI | exact OpTo.addS (by first | assumption | omega | rfl))) (by first | assumption | exact CmTo.neI) (by simp) rfl) EaTo.nil))) (by
      exact SsTo.nil)) ?_
  exact SsTo.cv (b1 := (wh8 ds dr bs hts)) rfl h
theorem who8 {c : Cx} (T : OfTab (c.pin []) tab3) (hq : c.q = true) (e238 : ∀ vs ks, c.Γ.fn (.ref 238) vs ks = F69 vs ks) {ds : List Nat} {dr : List PySem.Str} {bs : List Bool} {hts : List Nat} (ok : txOk ds dr) (G : Good ds dr bs hts) (h : SsTo (c.pin []) (scpOf st295) (wh8 ds dr bs hts) ((bodOf st295).drop 9) (.ret (.lst (bs.map sgV))) []) : SsTo (c.pin []) (scpOf st295) (wh8 ds dr bs hts) ((bodOf st295).drop 8) (.ret (.lst (bs.map sgV))) [] := by
  have hb := G.lb
  have ht2 : ∀ k ∈ hts, fits ((k : Int).fdiv 2) = true := fun k m => by
    have := G.h9 k m
    rw [show ((k : Int).fdiv 2) = ((k / 2 : Nat) : Int) by rw [Int.fdiv_eq_ediv_of_nonneg _ (by decide)]; rfl]
    exact fits_nat (by omega)
  refine SsTo.cons (b1 := [_, _, _, _, _, _, _, _]) (StTo.ifF (EtTo.cm (EvTo.mt (fun _ => rfl) rfl (EvTo.nm 6 rfl (by kernel_rfl)) (by exact mt_aWS_indent_level T rfl) (EvsTo.cons (fun _ => rfl) EvTo.cInt EvsTo.nil) EvkTo.nil (by exact (e238 _ _).trans G.i2)) (EvTo.bi (f0 := false) (f1 := false) (EvTo.gl (gl_sum T) (by kernel_rfl)) (EvsTo.cons (fun _ => rfl) (EvTo.lc (by kernel_rfl) (EiTo.val (fr := false) (fun _ _ => rfl) (EvTo.nm 5 rfl (by kernel_rfl)) (by exact ItTo.lst)) (cap_of [] (by kernel_rfl) (rfl : _ = [])) (CsTo.to (l' := (hts.map fun (h : Nat) => 2 + (h : Int).fdiv 2 * 2).map V.int) (CsTo.mp (f := fun d : Nat => V.int (d : Int)) (h := fun d : Nat => V.int (2 + (d : Int).fdiv 2 * 2)) hts (fun k m => CiTo.el rfl rfl (BdTo.nm 0 .own (by first | rfl | kernel_rfl) (by kernel_rfl) (rfl : _ = [_])) (EvTo.bin (f1 := false) (f2 := false) EvTo.cInt (EvTo.bin (f1 := false) (f2 := false) (EvTo.bin (f1 := false) (f2 := false) (EvTo.nm 0 rfl (by kernel_rfl)) EvTo.cInt (by exact OpTo.divI rfl)) EvTo.cInt (by exact OpTo.mulI (ht2 k m))) (by first | assumption | exact OpTo.addI | exact OpTo.addS (by first | assumption | omega | rfl))))) (by rw [List.map_map]; rfl)) (by rw [List.length_map, List.length_map]; have := G.lh; omega) (by intro q; cases q)) EvsTo.nil) (by exact BiTo.sum (by exact hq))) (by first | assumption | exact CmTo.neI) (by simp) rfl) (by
      exact SsTo.nil)) ?_
  exact SsTo.cv (b1 := (wh8 ds dr bs hts)) rfl h
theorem who9 {c : Cx} (T : OfTab (c.pin []) tab3) (hq : c.q = true) (e283 : ∀ vs ks, c.Γ.fn (.ref 283) vs ks = F283 vs ks) {ds : List Nat} {dr : List PySem.Str} {bs : List Bool} {hts : List Nat} (ok : txOk ds dr) (G : Good ds dr bs hts) : SsTo (c.pin []) (scpOf st295) (wh8 ds dr bs hts) ((bodOf st295).drop 9) (.ret (.lst (bs.map sgV))) [] := by
  have hb := G.lb
  have q1 : F283 [.lst (bs.map sgV)] [] = some (.lst (nV ds)) := by
    show (bitsV _).bind _ = _
    rw [bitsV_map, Option.bind_some, G.q]; rfl
  exact SsTo.rt (RtTo.ifT (EtTo.cm (EvTo.call (f0 := false) (f1 := false) (EvTo.gl (gl_law_queue T) (by kernel_rfl)) (EvsTo.cons (fun _ => rfl) (EvTo.nm 3 rfl (by kernel_rfl)) EvsTo.nil) EvkTo.nil (by exact (e283 _ _).trans q1) (T.aln (by kernel_rfl))) (EvTo.nm 0 rfl (by kernel_rfl)) (by exact CmTo.eq (eqV_nats ds ds)) (by exact beq_self_eq_true _) rfl) (RtTo.nm 3 rfl (by kernel_rfl)))
theorem whole_rest {c : Cx} (T : OfTab (c.pin []) tab3) (hq : c.q = true) (e207 : ∀ vs ks, c.Γ.fn (.ref 207) vs ks = F125q vs ks) (e200 : ∀ vs ks, c.Γ.fn (.ref 200) vs ks = F118q vs ks) (e193 : ∀ vs, c.Γ.gen (.ref 193) vs = F111 vs) (e100 : ∀ vs ks, c.Γ.fn (.ref aWS) vs ks = F100 vs ks) (e238 : ∀ vs ks, c.Γ.fn (.ref 238) vs ks = F69 vs ks) (e283 : ∀ vs ks, c.Γ.fn (.ref 283) vs ks = F283 vs ks) (e290 : ∀ vs ks, c.Γ.fn (.ref 290) vs ks = F290 vs ks) {ds : List Nat} {dr : List PySem.Str} {bs : List Bool} {hts : List Nat} (ok : txOk ds dr) (G : Good ds dr bs hts) : SsTo (c.pin []) (scpOf st295) (whMk ds dr) ((bodOf st295).drop 1) (.ret (.lst (bs.map sgV))) [] :=
  (who1 T hq e207 ok G (who2 T hq e200 e193 ok G (who3 T hq e100 ok G (who4 T hq  ok G (who5 T hq e100 ok G (who6 T hq  ok G (who7 T hq e238 e290 ok G (who8 T hq e238 ok G (who9 T hq e283 ok G)))))))))
open Classical in
noncomputable def F295 (sol : List Nat → List Bool × List Nat) : List V → Option V := fun a => on2 a fun v w => onL v fun l => onL w fun l' => (intsV l).bind fun is => (strsV l').bind fun dr => if (txOk (is.map Int.toNat) dr ∧ Good (is.map Int.toNat) dr (sol (is.map Int.toNat)).1 (sol (is.map Int.toNat)).2) ∧ (∀ i ∈ is, 0 ≤ i) then some (.lst ((sol (is.map Int.toNat)).1.map sgV)) else none
open Classical in
theorem F295_some {sol : List Nat → List Bool × List Nat} {args : List V} {r : V} (h : F295 sol args = some r) : ∃ ds dr, args = [.lst (nV ds), .lst (dr.map .str)] ∧ txOk ds dr ∧ Good ds dr (sol ds).1 (sol ds).2 ∧ r = .lst ((sol ds).1.map sgV) := by
  obtain ⟨v, _, e, h⟩ := on2_some h
  subst e
  obtain ⟨l, e, h⟩ := onL_some h
  subst e
  obtain ⟨l', e, h⟩ := onL_some h
  subst e
  obtain ⟨is, e1, h⟩ := Option.bind_eq_some_iff.mp h
  obtain ⟨dr, e2, h⟩ := Option.bind_eq_some_iff.mp h
  obtain ⟨⟨⟨ok, g⟩, nn0⟩, h⟩ := ite_some h
  cases h
  exact ⟨is.map Int.toNat, dr, by rw [intsV_of e1, strsV_of e2, nV_int nn0], ok, g, rfl⟩
open Classical in
theorem F295_ok {sol : List Nat → List Bool × List Nat} {ds : List Nat} {dr : List PySem.Str} (ok : txOk ds dr) (g : Good ds dr (sol ds).1 (sol ds).2) : F295 sol [.lst (nV ds), .lst (dr.map .str)] = some (.lst ((sol ds).1.map sgV)) := by
  have e : nV ds = (ds.map fun (d : Nat) => (d : Int)).map V.int := by unfold nV; rw [List.map_map]; rfl
  have e2 : (ds.map fun (d : Nat) => (d : Int)).map Int.toNat = ds := by rw [List.map_map]; exact (List.map_congr_left fun d _ => Int.toNat_natCast d).trans (List.map_id _)
  show (intsV (nV ds)).bind _ = _
  rw [e, intsV_map, Option.bind_some, strsV_map, Option.bind_some, e2, if_pos ⟨⟨ok, g⟩, fun i m => by
    obtain ⟨d, _, rfl⟩ := List.mem_map.mp m
    exact Int.natCast_nonneg d⟩]
theorem ok295 {sol : List Nat → List Bool × List Nat} {c : Cx} {R : Nat} (T : OfTab c tab3) (hq : c.q = true) (I : FnIn c.K 295 st295 .none .none) (e207 : ∀ vs ks, c.Γ.fn (.ref 207) vs ks = F125q vs ks) (e200 : ∀ vs ks, c.Γ.fn (.ref 200) vs ks = F118q vs ks) (e193 : ∀ vs, c.Γ.gen (.ref 193) vs = F111 vs) (e100 : ∀ vs ks, c.Γ.fn (.ref aWS) vs ks = F100 vs ks) (e238 : ∀ vs ks, c.Γ.fn (.ref 238) vs ks = F69 vs ks) (e283 : ∀ vs ks, c.Γ.fn (.ref 283) vs ks = F283 vs ks) (e290 : ∀ vs ks, c.Γ.fn (.ref 290) vs ks = F290 vs ks) (fx : FnX c.q c.prog c.w c.K c.h₀ R 278 F278) (hR : R ≤ c.R) : FnX c.q c.prog c.w c.K c.h₀ (c.R + 2) 295 (F295 sol) := by
  refine fnX_of (names := [PySem.Str.ofString "depths", PySem.Str.ofString "dress"]) I (by kernel_rfl) (by kernel_rfl) ?_ ?_
  · intro name qual doc pm cdv ct an s us h
    obtain ⟨a, b, e⟩ := len2_ex h
    subst e
    exact BindsTo.of_eq rfl
  · intro args r h
    obtain ⟨ds, dr, e1, ok, g, e2⟩ := F295_some h
    subst e1; subst e2
    have T : OfTab (c.pin []) tab3 := T.pin
    refine ⟨rfl, ?_⟩
    refine SsX.cv (b1 := [(PySem.Str.ofString "depths", .lst (nV ds), .frz), (PySem.Str.ofString "dress", .lst (dr.map .str), .frz)]) (entB_two ds dr) ?_
    refine SsX.put (b1 := whMk ds dr) (by kernel_rfl) (EvX.call (c := c.pin []) (f0 := false) (f1 := false) (EvTo.gl (gl_law_text T) (by kernel_rfl)) (EvsTo.cons (fun _ => rfl) (EvTo.nm 0 rfl (by kernel_rfl)) (EvsTo.cons (fun _ => rfl) (EvTo.nm 1 rfl (by kernel_rfl)) EvsTo.nil)) fx hR (by exact F278_ok ok)) rfl rfl (setL_at 2 (by kernel_rfl) rfl) ?_
    exact SsX.of (fl := .next) (whole_rest T hq e207 e200 e193 e100 e238 e283 e290 ok g)

noncomputable def c5 : List Int := [1, 2, 1, 3, 1]
noncomputable def drw (script : List Int) : List Int := (List.range 6).map fun k => script.getD k 0
noncomputable def dreK (dw : List Int) (k : Nat) : PySem.Str := dressQ.getD (((dw.getD k 0).fdiv 60 + (k : Int)).fmod 4).toNat nilS
noncomputable def dre (script : List Int) : List PySem.Str := (List.range 6).map (dreK (drw script))
noncomputable def dpG (dw : List Int) (ds : List Nat) (k : Nat) : List Nat := ds ++ [((dw.getD k 0 + c5.getD k 0).fmod (((ds.getD k 0 : Nat) : Int) + 2)).toNat]
noncomputable def dep (script : List Int) : List Nat := (List.range 5).foldl (dpG (drw script)) [0]
noncomputable def nsN (ds : List Nat) (k : Nat) : Int := ((ds.getD k 0 : Nat) : Int) + 1 - (((ds ++ [0]).getD (k + 1) 0 : Nat) : Int)
noncomputable def nsG (ds : List Nat) (ns : List Bool) (k : Nat) : List Bool := ns ++ (true :: List.replicate (nsN ds k).toNat false)
noncomputable def nsB (ds : List Nat) : List Bool := (List.range 6).foldl (nsG ds) []
noncomputable def LawOk2 (sol : List Nat → List Bool × List Nat) (script : List Int) : Prop :=
  (txOk (dep script) (dre script) ∧ Good (dep script) (dre script) (sol (dep script)).1 (sol (dep script)).2 ∧ (sol (dep script)).1 ≠ []) ∧
  ∃ ds2, quR (nsB (dep script)) = some ds2 ∧ txOk ds2 (dre script) ∧ Good ds2 (dre script) (sol ds2).1 (sol ds2).2 ∧ (sol ds2).1 = nsB (dep script)
theorem drw_len (script : List Int) : (drw script).length = 6 := by unfold drw; rw [List.length_map, List.length_range]
theorem dre_len (script : List Int) : (dre script).length = 6 := by unfold dre; rw [List.length_map, List.length_range]
theorem sbN (cs : List Int) (k : Nat) (h : k < cs.length) (hz : cs.length ≤ 1000000) : SbTo (.lst (cs.map .int)) (.int (k : Int)) (.int (cs.getD k 0)) := by
  have := sb_ints (cs := cs) (j := (k : Int)) (by omega) (by omega) hz
  rwa [Int.toNat_natCast] at this
theorem sb_dress {i : Int} (h0 : 0 ≤ i) (h1 : i < 4) : SbTo (.lst (dressQ.map .str)) (.int i) (.str (dressQ.getD i.toNat nilS)) := by
  have := sb_strs (ss := dressQ) (k := i.toNat) (by show i.toNat < 4; omega) (by decide)
  rwa [Int.toNat_of_nonneg h0] at this
theorem dp_inv {dw : List Int} {ds : List Nat} {k : Nat} {r : List Nat} (h : ∃ n, ds.length = n + 1 ∧ k :: r = (List.range 5).drop n ∧ ∀ d ∈ ds, d ≤ n) : k + 1 = ds.length ∧ k < 5 ∧ ds.getD k 0 ≤ k ∧ (∃ n, (dpG dw ds k).length = n + 1 ∧ r = (List.range 5).drop n ∧ ∀ d ∈ dpG dw ds k, d ≤ n) := by
  obtain ⟨n, h1, h2, h3⟩ := h
  have hn : n < 5 := by
    refine Nat.lt_of_not_le fun q => ?_
    rw [List.drop_of_length_le (by rw [List.length_range]; exact q)] at h2
    cases h2
  rw [List.drop_eq_getElem_cons (by rw [List.length_range]; exact hn), List.getElem_range] at h2
  cases h2
  have hk : ds.getD k 0 ≤ k := by
    rw [List.getD_eq_getElem?_getD, List.getElem?_eq_getElem (by omega)]
    exact h3 _ (List.getElem_mem _)
  refine ⟨h1.symm, hn, hk, k + 1, by unfold dpG; rw [List.length_append, h1]; rfl, rfl, fun d m => ?_⟩
  rcases List.mem_append.mp m with m | m
  · exact Nat.le_succ_of_le (h3 d m)
  · rw [List.mem_singleton.mp m]
    have h4 := Int.fmod_nonneg_of_pos (dw.getD k 0 + c5.getD k 0) (show (0 : Int) < ((ds.getD k 0 : Nat) : Int) + 2 by omega)
    have h5 := Int.fmod_lt_of_pos (dw.getD k 0 + c5.getD k 0) (show (0 : Int) < ((ds.getD k 0 : Nat) : Int) + 2 by omega)
    omega
theorem nV_dp (dw : List Int) (ds : List Nat) (k : Nat) : nV ds ++ [.int ((dw.getD k 0 + c5.getD k 0).fmod (((ds.getD k 0 : Nat) : Int) + 2))] = nV (dpG dw ds k) := by
  have h4 := Int.fmod_nonneg_of_pos (dw.getD k 0 + c5.getD k 0) (show (0 : Int) < ((ds.getD k 0 : Nat) : Int) + 2 by omega)
  unfold nV dpG
  rw [List.map_append, List.map_cons, List.map_nil, Int.toNat_of_nonneg h4]
theorem rep_cls (n : Nat) : (List.replicate n [V.str clsS]).flatten = (List.replicate n false).map sgV := by
  induction n with
  | zero => rfl
  | succ n ih => rw [List.replicate_succ, List.flatten_cons, ih, List.replicate_succ]; rfl
theorem dep_fin (dw : List Int) : ((List.range 5).foldl (dpG dw) [0]).length = 6 ∧ ∀ d ∈ (List.range 5).foldl (dpG dw) [0], d ≤ 5 := by
  have : ∀ (r : List Nat) (ds : List Nat), (∃ n, ds.length = n + 1 ∧ r = (List.range 5).drop n ∧ ∀ d ∈ ds, d ≤ n) → ∃ n, (r.foldl (dpG dw) ds).length = n + 1 ∧ [] = (List.range 5).drop n ∧ ∀ d ∈ r.foldl (dpG dw) ds, d ≤ n := fun r => by
    induction r with
    | nil => exact fun ds h => h
    | cons k r ih => exact fun ds h => ih _ (dp_inv h).2.2.2
  have h0 : ∃ n, ([0] : List Nat).length = n + 1 ∧ List.range 5 = (List.range 5).drop n ∧ ∀ d ∈ [0], d ≤ n := ⟨0, rfl, rfl, fun d m => by rw [List.mem_singleton.mp m]; exact Nat.le_refl _⟩
  have hl : ∀ (r : List Nat) (ds : List Nat), (r.foldl (dpG dw) ds).length = ds.length + r.length := fun r => by
    induction r with
    | nil => exact fun _ => rfl
    | cons k r ih => intro ds; rw [List.foldl_cons, ih, List.length_cons]; unfold dpG; rw [List.length_append]; show ds.length + 1 + r.length = _; omega
  obtain ⟨n, h1, _, h3⟩ := this _ _ h0
  have := hl (List.range 5) [0]
  have e : ([0] : List Nat).length + (List.range 5).length = 6 := rfl
  exact ⟨this.trans e, fun d m => by have := h3 d m; omega⟩
theorem nsN_ok {ds : List Nat} (h : ds.length = 6) (h5 : ∀ d ∈ ds, d ≤ 5) {k : Nat} (hk : k < 6) : ds.getD k 0 ≤ 5 ∧ (ds ++ [0]).getD (k + 1) 0 ≤ 5 := by
  refine ⟨?_, ?_⟩
  · rw [List.getD_eq_getElem?_getD, List.getElem?_eq_getElem (by omega)]
    exact h5 _ (List.getElem_mem _)
  · rw [List.getD_eq_getElem?_getD, List.getElem?_eq_getElem (by rw [List.length_append, h]; exact Nat.succ_lt_succ hk)]
    have m := List.getElem_mem (l := ds ++ [0]) (n := k + 1) (by rw [List.length_append, h]; exact Nat.succ_lt_succ hk)
    rcases List.mem_append.mp m with m | m
    · exact h5 _ m
    · rw [List.mem_singleton.mp m]; exact Nat.zero_le _
theorem mod_q {d : Nat} (h : d ≤ 5) : (decide (((d : Nat) : Int) + 2 ≠ 0) && decide ((((d : Nat) : Int) + 2).natAbs ≤ 1000000)) = true := by
  have h : d < 6 := Nat.lt_succ_of_le h
  revert d; decide
noncomputable def lwA (script : List Int) (ds : List Nat) : Loc := [(PySem.Str.ofString "script", .lst (script.map .int), .frz), (PySem.Str.ofString "drawn", .lst ((drw script).map .int), .own), (PySem.Str.ofString "dress", .lst ((dre script).map .str), .own), (PySem.Str.ofString "depths", .lst (nV ds), .own)]
noncomputable def lwB (script : List Int) (ds : List Nat) (ns : List Bool) : Loc := [(PySem.Str.ofString "script", .lst (script.map .int), .frz), (PySem.Str.ofString "drawn", .lst ((drw script).map .int), .own), (PySem.Str.ofString "dress", .lst ((dre script).map .str), .own), (PySem.Str.ofString "depths", .lst (nV ds), .own), (PySem.Str.ofString "nest", .lst (ns.map sgV), .own)]
open Classical in
noncomputable def F300 (sol : List Nat → List Bool × List Nat) : List V → Option V := fun a => on1 a fun v => onL v fun l => (intsV l).bind fun script => if script.length ≤ 63 ∧ LawOk2 sol script then some (.bool true) else none
open Classical in
theorem F300_some {sol : List Nat → List Bool × List Nat} {args : List V} {r : V} (h : F300 sol args = some r) : ∃ script : List Int, args = [.lst (script.map .int)] ∧ script.length ≤ 63 ∧ LawOk2 sol script ∧ r = .bool true := by
  obtain ⟨v, e, h⟩ := on1_some h
  subst e
  obtain ⟨l, e, h⟩ := onL_some h
  subst e
  obtain ⟨script, e, h⟩ := Option.bind_eq_some_iff.mp h
  obtain ⟨⟨h1, h2⟩, h⟩ := ite_some h
  cases h
  exact ⟨script, by rw [intsV_of e], h1, h2, rfl⟩
theorem EvX.to {c : Cx} {sc : Scope} {b : Loc} {e : Expr} {v v' : V} (h : EvX c sc b e v) (q : v = v') : EvX c sc b e v' := q ▸ h
theorem law_walk {sol : List Nat → List Bool × List Nat} {c : Cx} {R : Nat} (T : OfTab (c.pin []) tab3) (hq : c.q = true) (e283 : ∀ vs ks, c.Γ.fn (.ref 283) vs ks = F283 vs ks) (fx : FnX c.q c.prog c.w c.K c.h₀ R 295 (F295 sol)) (hR : R ≤ c.R) {script : List Int} (hz : script.length ≤ 63) (ok : LawOk2 sol script) : SsX (c.pin []) (scpOf st300) [(PySem.Str.ofString "script", .lst (script.map .int), .frz)] (bodOf st300) (.bool true) := by
  obtain ⟨⟨ok1, g1, n1⟩, ds2, qq, ok2, g2, e2⟩ := ok
  refine SsX.cons (b1 := [_, _]) (StTo.putC 1 (by kernel_rfl) (by kernel_rfl) (EiTo.val (fr := false) (fun _ _ => rfl) (EvTo.bi (f0 := false) (f1 := false) (EvTo.gl (gl_range T) (by kernel_rfl)) (EvsTo.cons (fun _ => rfl) EvTo.cInt EvsTo.nil) (by first | exact BiTo.range1 | exact BiTo.range2)) (by exact itR 6 rfl)) (cap_of [0] (by kernel_rfl) (rfl : _ = [_])) (CsTo.to (l' := (drw script).map .int) (CsTo.mp (f := fun i : Nat => V.int (i : Int)) (h := fun k : Nat => V.int (script.getD k 0)) (List.range 6) (fun k m => by
          have hk := List.mem_range.mp m
          refine CiTo.el rfl rfl (BdTo.nm 1 .own (by first | rfl | kernel_rfl) (by kernel_rfl) (rfl : _ = [_, _])) ?_
          cases d1 : decide ((k : Int) < (script.length : Int))
          · rw [show script.getD k 0 = 0 by have := of_decide_eq_false d1; simp [List.getD, show script.length ≤ k by omega]]; exact (EvTo.ifF (EtTo.cm (EvTo.nm 1 rfl (by kernel_rfl)) (EvTo.bi (f0 := false) (f1 := false) (EvTo.gl (gl_len T) (by kernel_rfl)) (EvsTo.cons (fun _ => rfl) (EvTo.nm 0 rfl (by kernel_rfl)) EvsTo.nil) (by exact BiTo.lenL (by rw [List.length_map]; omega))) (by exact CmTo.lt) (by rw [len_ints]; exact d1) rfl) EvTo.cInt)
          · exact (EvTo.ifT (EtTo.cm (EvTo.nm 1 rfl (by kernel_rfl)) (EvTo.bi (f0 := false) (f1 := false) (EvTo.gl (gl_len T) (by kernel_rfl)) (EvsTo.cons (fun _ => rfl) (EvTo.nm 0 rfl (by kernel_rfl)) EvsTo.nil) (by exact BiTo.lenL (by rw [List.length_map]; omega))) (by exact CmTo.lt) (by rw [len_ints]; exact d1) rfl) (EvTo.sub (f1 := false) (f2 := false) (EvTo.nm 0 rfl (by kernel_rfl)) (EvTo.nm 1 rfl (by kernel_rfl)) (by exact sbN script k (by have := of_decide_eq_true d1; omega) (by omega)) (fun _ _ => rfl))))) (by unfold drw; rw [List.map_map]; rfl)) (by rw [List.length_map, drw_len]; decide) (by exact flatVs_int _) (rfl : _ = [_, _])) ?_
  refine SsX.cons (b1 := [_, _, _]) (StTo.putC 2 (by kernel_rfl) (by kernel_rfl) (EiTo.val (fr := false) (fun _ _ => rfl) (EvTo.bi (f0 := false) (f1 := false) (EvTo.gl (gl_range T) (by kernel_rfl)) (EvsTo.cons (fun _ => rfl) EvTo.cInt EvsTo.nil) (by first | exact BiTo.range1 | exact BiTo.range2)) (by exact itR 6 rfl)) (cap_of [1] (by kernel_rfl) (rfl : _ = [_])) (CsTo.to (l' := (dre script).map .str) (CsTo.mp (f := fun i : Nat => V.int (i : Int)) (h := fun k : Nat => V.str (dreK (drw script) k)) (List.range 6) (fun k m => by
          have hk := List.mem_range.mp m
          exact CiTo.el rfl rfl (BdTo.nm 1 .own (by first | rfl | kernel_rfl) (by kernel_rfl) (rfl : _ = [_, _])) (EvTo.sub (f1 := false) (f2 := false) (EvTo.list (EvsTo.cons (fun _ => rfl) EvTo.cStr (EvsTo.cons (fun _ => rfl) EvTo.cStr (EvsTo.cons (fun _ => rfl) EvTo.cStr (EvsTo.cons (fun _ => rfl) EvTo.cStr EvsTo.nil)))) (Nat.le_of_ble_eq_true rfl)) (EvTo.bin (f1 := false) (f2 := false) (EvTo.bin (f1 := false) (f2 := false) (EvTo.bin (f1 := false) (f2 := false) (EvTo.sub (f1 := false) (f2 := false) (EvTo.nm 0 rfl (by kernel_rfl)) (EvTo.nm 1 rfl (by kernel_rfl)) (by exact sbN _ k (by rw [drw_len]; exact hk) (by rw [drw_len]; decide)) (fun _ _ => rfl)) EvTo.cInt (by exact OpTo.divI rfl)) (EvTo.nm 1 rfl (by kernel_rfl)) (by first | assumption | exact OpTo.addI | exact OpTo.addS (by first | assumption | omega | rfl))) EvTo.cInt (by exact OpTo.modI rfl)) (by exact sb_dress (Int.fmod_nonneg_of_pos _ (by decide)) (Int.fmod_lt_of_pos _ (by decide))) (fun _ _ => rfl)))) (by unfold dre; rw [List.map_map]; rfl)) (by rw [List.length_map, dre_len]; decide) (by exact flatVs_strs _) (rfl : _ = [_, _, _])) ?_
  refine SsX.cons (b1 := [_, _, _, _]) (StTo.put 3 (EvTo.list (EvsTo.cons (fun _ => rfl) EvTo.cInt EvsTo.nil) (Nat.le_of_ble_eq_true rfl)) (by kernel_rfl) rfl (rfl : _ = [_, _, _, _])) ?_
  refine SsX.cv (b1 := lwA script [0]) (by rfl) ?_
  refine SsX.cons (b1 := (lwA script (dep script))) (StTo.for (FsTo.new (fun _ _ => rfl) (EvTo.bi (f0 := false) (f1 := false) (EvTo.gl (gl_range T) (by kernel_rfl)) (EvsTo.cons (fun _ => rfl) EvTo.cInt EvsTo.nil) (by first | exact BiTo.range1 | exact BiTo.range2)) (by exact itR 5 rfl)) (by kernel_rfl) ?_) ?_
  · refine (LpTo.fL (σ := List Nat) (ι := Nat) (f := fun i : Nat => V.int (i : Int)) (mk := lwA script) (g := dpG (drw script)) (I := fun ds r => ∃ n, ds.length = n + 1 ∧ r = (List.range 5).drop n ∧ ∀ d ∈ ds, d ≤ n) (fun ds k r hI => ?_) (List.range 5) [0] ⟨0, rfl, rfl, fun d m => by rw [List.mem_singleton.mp m]; exact Nat.le_refl _⟩).1
    obtain ⟨i1, i2, i3, i4⟩ := dp_inv (dw := drw script) hI
    refine ⟨?_, i4⟩
    unfold lwA
    rw [← nV_dp]
    refine TnTo.mk [_, _, _, _, _] (BdTo.nm 4 .own (by first | rfl | kernel_rfl) (by kernel_rfl) (rfl : _ = [_, _, _, _, _])) ?_
    refine SsTo.cons (b1 := [_, _, _, _, _]) (StTo.app (fun _ => rfl) rfl (fun _ => rfl) (PlTo.nm 3 rfl (by kernel_rfl) (rfl : _ = [_, _, _, _, _])) (EvTo.bin (f1 := false) (f2 := false) (EvTo.bin (f1 := false) (f2 := false) (EvTo.sub (f1 := false) (f2 := false) (EvTo.nm 1 rfl (by kernel_rfl)) (EvTo.nm 4 rfl (by kernel_rfl)) (by exact sbN _ k (by rw [drw_len]; omega) (by rw [drw_len]; decide)) (fun _ _ => rfl)) (EvTo.sub (f1 := false) (f2 := false) (EvTo.list (EvsTo.cons (fun _ => rfl) EvTo.cInt (EvsTo.cons (fun _ => rfl) EvTo.cInt (EvsTo.cons (fun _ => rfl) EvTo.cInt (EvsTo.cons (fun _ => rfl) EvTo.cInt (EvsTo.cons (fun _ => rfl) EvTo.cInt EvsTo.nil))))) (Nat.le_of_ble_eq_true rfl)) (EvTo.nm 4 rfl (by kernel_rfl)) (by exact sbN c5 k i2 (by decide)) (fun _ _ => rfl)) (by first | assumption | exact OpTo.addI | exact OpTo.addS (by first | assumption | omega | rfl))) (EvTo.bin (f1 := false) (f2 := false) (EvTo.sub (f1 := false) (f2 := false) (EvTo.nm 3 rfl (by kernel_rfl)) (EvTo.nm 4 rfl (by kernel_rfl)) (by exact sb_nV (by omega) (by omega)) (fun _ _ => rfl)) EvTo.cInt (by first | assumption | exact OpTo.addI | exact OpTo.addS (by first | assumption | omega | rfl))) (by exact OpTo.modI (mod_q (by omega)))) (by unfold nV; rw [List.length_map]; omega)) ?_
    exact SsTo.dn (r := [_]) rfl
  obtain ⟨z1, z2⟩ := dep_fin (drw script)
  have z1 : (dep script).length = 6 := z1
  have z2 : ∀ d ∈ dep script, d ≤ 5 := z2
  generalize dep script = ds at z1 z2 ok1 g1 n1 qq e2 ⊢
  unfold lwA
  refine SsX.cons (b1 := [_, _, _, _, _]) (StTo.put 4 (EvTo.list EvsTo.nil (Nat.le_of_ble_eq_true rfl)) (by kernel_rfl) rfl (rfl : _ = [_, _, _, _, _])) ?_
  refine SsX.cv (b1 := lwB script ds []) (by rfl) ?_
  refine SsX.cons (b1 := (lwB script ds (nsB ds))) (StTo.for (FsTo.new (fun _ _ => rfl) (EvTo.bi (f0 := false) (f1 := false) (EvTo.gl (gl_range T) (by kernel_rfl)) (EvsTo.cons (fun _ => rfl) EvTo.cInt EvsTo.nil) (by first | exact BiTo.range1 | exact BiTo.range2)) (by exact itR 6 rfl)) (by kernel_rfl) ?_) ?_
  · refine (LpTo.fL (σ := List Bool) (ι := Nat) (f := fun i : Nat => V.int (i : Int)) (mk := lwB script ds) (g := nsG ds) (I := fun ns r => ns.length + 7 * r.length ≤ 42 ∧ ∀ k ∈ r, k < 6) (fun ns k r hI => ?_) (List.range 6) [] ⟨by decide, fun k m => List.mem_range.mp m⟩).1
    obtain ⟨i1, i2⟩ := hI
    rw [List.length_cons] at i1
    have hk := i2 k (.head _)
    obtain ⟨k1, k2⟩ := nsN_ok z1 z2 hk
    have n6 : (nsN ds k).toNat ≤ 6 := by unfold nsN; omega
    refine ⟨?_, ?_, fun k m => i2 k (.tail _ m)⟩
    rotate_left
    · unfold nsG
      rw [List.length_append, List.length_cons, List.length_replicate]
      unfold nsN
      omega
    unfold lwB nsG
    rw [List.map_append]
    refine TnTo.mk [_, _, _, _, _, _] (BdTo.nm 5 .own (by first | rfl | kernel_rfl) (by kernel_rfl) (rfl : _ = [_, _, _, _, _, _])) ?_
    refine SsTo.cons (b1 := [_, _, _, _, _, _]) (StTo.ext (fr := false) (fun _ => rfl) rfl (fun _ => rfl) (PlTo.nm 4 rfl (by kernel_rfl) (rfl : _ = [_, _, _, _, _, _])) (EvTo.bin (f1 := false) (f2 := false) (EvTo.list (EvsTo.cons (fun _ => rfl) EvTo.cStr EvsTo.nil) (Nat.le_of_ble_eq_true rfl)) (EvTo.to (v' := .lst ((List.replicate (nsN ds k).toNat false).map sgV)) (EvTo.bin (f1 := false) (f2 := false) (EvTo.list (EvsTo.cons (fun _ => rfl) EvTo.cStr EvsTo.nil) (Nat.le_of_ble_eq_true rfl)) (EvTo.bin (f1 := false) (f2 := false) (EvTo.bin (f1 := false) (f2 := false) (EvTo.sub (f1 := false) (f2 := false) (EvTo.nm 3 rfl (by kernel_rfl)) (EvTo.nm 5 rfl (by kernel_rfl)) (by exact sb_nV (by rw [z1]; exact hk) (by rw [z1]; decide)) (fun _ _ => rfl)) EvTo.cInt (by first | assumption | exact OpTo.addI | exact OpTo.addS (by first | assumption | omega | rfl))) (EvTo.sub (f1 := false) (f2 := false) (EvTo.to (v' := .lst (nV (ds ++ [0]))) (EvTo.bin (f1 := false) (f2 := false) (EvTo.nm 3 rfl (by kernel_rfl)) (EvTo.list (EvsTo.cons (fun _ => rfl) EvTo.cInt EvsTo.nil) (Nat.le_of_ble_eq_true rfl)) (by exact OpTo.addL (by unfold nV; rw [List.length_map, z1]; decide) (by intro q; cases q))) (by exact congrArg V.lst (nV_app ds 0))) (EvTo.bin (f1 := false) (f2 := false) (EvTo.nm 5 rfl (by kernel_rfl)) EvTo.cInt (by first | assumption | exact OpTo.addI | exact OpTo.addS (by first | assumption | omega | rfl))) (by exact sb_nV (k := k + 1) (by rw [List.length_append, z1]; exact Nat.succ_lt_succ hk) (by rw [List.length_append, z1]; decide)) (fun _ _ => rfl)) (by first | assumption | exact OpTo.subI)) (by exact OpTo.mulL (by decide) (by omega) (by omega) (by intro q; cases q))) (by exact congrArg V.lst (rep_cls _))) (by exact OpTo.addL (by rw [List.length_map, List.length_replicate]; show 1 + (nsN ds k).toNat ≤ 1000000; omega) (by intro q; cases q))) (by exact flatVs_sgV (true :: List.replicate (nsN ds k).toNat false)) (by rw [List.length_map, List.length_append, List.length_map, List.length_replicate]; show ns.length + (1 + (nsN ds k).toNat) ≤ 1000000; omega)) ?_
    exact SsTo.dn (r := [_]) rfl
  have q1 : F283 [.lst ((nsB ds).map sgV)] [] = some (.lst (nV ds2)) := by
    show (bitsV _).bind _ = _
    rw [bitsV_map, Option.bind_some, qq]; rfl
  refine SsX.ret (EvX.and (EvX.to (EvX.cmp (f1 := false) (EvX.call (c := c.pin []) (f0 := false) (f1 := false) (EvTo.gl (gl_law_whole T) (by kernel_rfl)) (EvsTo.cons (fun _ => rfl) (EvTo.nm 3 rfl (by kernel_rfl)) (EvsTo.cons (fun _ => rfl) (EvTo.nm 2 rfl (by kernel_rfl)) EvsTo.nil)) fx hR (by exact F295_ok ok1 g1)) (EvTo.list EvsTo.nil (Nat.le_of_ble_eq_true rfl)) (CmTo.ne (eqV_sgs _ [])) rfl) ?_) (EvX.to (EvX.cmp (f1 := false) (EvX.call (c := c.pin []) (f0 := false) (f1 := false) (EvTo.gl (gl_law_whole T) (by kernel_rfl)) (EvsTo.cons (fun _ => rfl) (EvTo.call (f0 := false) (f1 := false) (EvTo.gl (gl_law_queue T) (by kernel_rfl)) (EvsTo.cons (fun _ => rfl) (EvTo.nm 4 rfl (by kernel_rfl)) EvsTo.nil) EvkTo.nil (by exact (e283 _ _).trans q1) (T.aln (by kernel_rfl))) (EvsTo.cons (fun _ => rfl) (EvTo.nm 2 rfl (by kernel_rfl)) EvsTo.nil)) fx hR (by exact F295_ok ok2 g2)) (EvTo.nm 4 rfl (by kernel_rfl)) (CmTo.eq (eqV_sgs _ _)) rfl) ?_)) rfl
  · rw [show ((sol ds).1 == []) = false by rw [Bool.eq_false_iff]; exact fun z => n1 (beq_iff_eq.mp z)]; rfl
  · rw [e2, beq_self_eq_true]
theorem ok300 {sol : List Nat → List Bool × List Nat} {c : Cx} {R : Nat} (T : OfTab c tab3) (hq : c.q = true) (I : FnIn c.K 300 st300 .none .none) (e283 : ∀ vs ks, c.Γ.fn (.ref 283) vs ks = F283 vs ks) (fx : FnX c.q c.prog c.w c.K c.h₀ R 295 (F295 sol)) (hR : R ≤ c.R) : FnX c.q c.prog c.w c.K c.h₀ (c.R + 2) 300 (F300 sol) := by
  refine fnX_of (names := [PySem.Str.ofString "script"]) I (by kernel_rfl) (by kernel_rfl) ?_ ?_
  · intro name qual doc pm cdv ct an s us h
    obtain ⟨a, e⟩ := List.length_eq_one_iff.mp h
    subst e
    exact BindsTo.of_eq rfl
  · intro args r h
    obtain ⟨script, e1, hz, ok, e2⟩ := F300_some h
    subst e1; subst e2
    exact ⟨rfl, law_walk T.pin hq e283 fx hR hz ok⟩

structure Txt2 (K : Frag) (Td : Addr) : Prop where
  f55 : FnIn K 224 st55 .none .none
  f69 : FnIn K 238 st69 .none .none
  f111 : FnIn K 193 st111 .none .none
  f118 : FnIn K 200 st118 .none .none
  f125 : FnIn K 207 st125 .none .none
  f163 : FnIn K 76 st163 (.ref Td) .none
  f170 : FnIn K 83 st170 .none .none
  f208 : FnIn K 121 st208 .none .none
  f268 : FnIn K 179 st268 .none .none
  f278 : FnIn K 278 st278 .none .none
  f283 : FnIn K 283 st283 .none .none
  f290 : FnIn K 290 st290 .none .none
  f295 : FnIn K 295 st295 .none .none
  f300 : FnIn K 300 st300 .none .none
  ws : ClsIn K aWS 224
  hd : ClsIn K aHD 76
  D : DefNone K Td
  p1 : PatOk K 48
  p2 : PatOk K 53
  pm : PatMet K 48
  m1 : methIn K ((aHD, PySem.Str.ofString "add_header"), 179) = true
section
variable {c : Cx} {T : Tab} {Td : Addr}
theorem OfTab.addFn (O : OfTab c T) {f : Addr} {F : List V → List (PySem.Str × V) → Option V} {y : FnOk c f (c.Γ.al (.ref f)) F} : OfTab (c.addFn f F y) T := ⟨O.glob, O.fld, O.catt, O.al, O.meth⟩
theorem OfTab.addGen (O : OfTab c T) {f : Addr} {F : List V → Option (List V)} {y : GenOk c f F} : OfTab (c.addGen f F y) T := ⟨O.glob, O.fld, O.catt, O.al, O.meth⟩
theorem OfTab.addEff (O : OfTab c T) {C : Addr} {n : PySem.Str} {f : Addr} {F : V → List V → Option V} {y : EffOk c f F} {h1 : methIn c.K ((C, n), f) = true} {h2 : n = ("__delitem__" : PySem.Str) → noSeq c.K C = true} : OfTab (c.addEff C n f F y h1 h2) T := ⟨O.glob, O.fld, O.catt, O.al, O.meth⟩
theorem Txt2.addFn (H : Txt2 c.K Td) {f : Addr} {F : List V → List (PySem.Str × V) → Option V} {y : FnOk c f (c.Γ.al (.ref f)) F} : Txt2 (c.addFn f F y).K Td := H
theorem Txt2.addGen (H : Txt2 c.K Td) {f : Addr} {F : List V → Option (List V)} {y : GenOk c f F} : Txt2 (c.addGen f F y).K Td := H
theorem Txt2.addEff (H : Txt2 c.K Td) {C : Addr} {n : PySem.Str} {f : Addr} {F : V → List V → Option V} {y : EffOk c f F} {h1 : methIn c.K ((C, n), f) = true} {h2 : n = ("__delitem__" : PySem.Str) → noSeq c.K C = true} : Txt2 (c.addEff C n f F y h1 h2).K Td := H
end
noncomputable def Cx.up (c : Cx) (n : Nat) : Cx := { c with R := c.R + n, ok := GloS.mono (Nat.le_add_right _ _) c.ok }
theorem OfTab.up {c : Cx} {T : Tab} (O : OfTab c T) {n : Nat} : OfTab (c.up n) T := ⟨O.glob, O.fld, O.catt, O.al, O.meth⟩
section
variable {c : Cx} {n : Nat}
theorem up_q (h : c.q = true) {m : Nat} : (c.up m).q = true := h
theorem addFn_q (h : c.q = true) {f : Addr} {F : List V → List (PySem.Str × V) → Option V} {y : FnOk c f (c.Γ.al (.ref f)) F} : (c.addFn f F y).q = true := h
theorem addGen_q (h : c.q = true) {f : Addr} {F : List V → Option (List V)} {y : GenOk c f F} : (c.addGen f F y).q = true := h
theorem addEff_q (h : c.q = true) {C : Addr} {n : PySem.Str} {f : Addr} {F : V → List V → Option V} {y : EffOk c f F} {h1 : methIn c.K ((C, n), f) = true} {h2 : n = ("__delitem__" : PySem.Str) → noSeq c.K C = true} : (c.addEff C n f F y h1 h2).q = true := h
theorem addFn_R (h : c.R = n) {f : Addr} {F : List V → List (PySem.Str × V) → Option V} {y : FnOk c f (c.Γ.al (.ref f)) F} : (c.addFn f F y).R = n + 2 := congrArg (· + 2) h
theorem addGen_R (h : c.R = n) {f : Addr} {F : List V → Option (List V)} {y : GenOk c f F} : (c.addGen f F y).R = n + 2 := congrArg (· + 2) h
theorem addEff_R (h : c.R = n) {C : Addr} {n' : PySem.Str} {f : Addr} {F : V → List V → Option V} {y : EffOk c f F} {h1 : methIn c.K ((C, n'), f) = true} {h2 : n' = ("__delitem__" : PySem.Str) → noSeq c.K C = true} : (c.addEff C n' f F y h1 h2).R = n + 2 := congrArg (· + 2) h
structure Sm (a c : Cx) : Prop where
  p : a.prog = c.prog
  w : a.w = c.w
  K : a.K = c.K
  h : a.h₀ = c.h₀
  q : a.q = c.q
theorem Sm.refl (c : Cx) : Sm c c := ⟨rfl, rfl, rfl, rfl, rfl⟩
theorem Sm.addFn {a : Cx} (h : Sm a c) {f : Addr} {F : List V → List (PySem.Str × V) → Option V} {y : FnOk c f (c.Γ.al (.ref f)) F} : Sm a (c.addFn f F y) := ⟨h.p, h.w, h.K, h.h, h.q⟩
theorem Sm.addGen {a : Cx} (h : Sm a c) {f : Addr} {F : List V → Option (List V)} {y : GenOk c f F} : Sm a (c.addGen f F y) := ⟨h.p, h.w, h.K, h.h, h.q⟩
theorem Sm.addEff {a : Cx} (h : Sm a c) {C : Addr} {n' : PySem.Str} {f : Addr} {F : V → List V → Option V} {y : EffOk c f F} {h1 : methIn c.K ((C, n'), f) = true} {h2 : n' = ("__delitem__" : PySem.Str) → noSeq c.K C = true} : Sm a (c.addEff C n' f F y h1 h2) := ⟨h.p, h.w, h.K, h.h, h.q⟩
theorem Sm.up {a : Cx} (h : Sm a c) {m : Nat} : Sm a (c.up m) := ⟨h.p, h.w, h.K, h.h, h.q⟩
theorem Sm.x {a : Cx} (h : Sm a c) {R : Nat} {f : Addr} {F : List V → Option V} (x : FnX a.q a.prog a.w a.K a.h₀ R f F) : FnX c.q c.prog c.w c.K c.h₀ R f F := by
  rw [← h.p, ← h.w, ← h.K, ← h.h, ← h.q]; exact x
theorem Sm.xr {a : Cx} (h : Sm a c) {R : Nat} {f : Addr} {F : List V → Option V} (x : FnX c.q c.prog c.w c.K c.h₀ R f F) : FnX a.q a.prog a.w a.K a.h₀ R f F := by
  rw [h.p, h.w, h.K, h.h, h.q]; exact x
end
theorem law300 {sol : List Nat → List Bool × List Nat} {c0 : Cx} {Td : Addr} (hR : c0.R = 1) (hq : c0.q = true) (T0 : OfTab c0 tab3) (H0 : Txt2 c0.K Td) (tk : tab3.Ok c0.K) {mg mb : PySem.Str → Option PySem.Value} (ng : c0.h₀.Ns mainGlobals mg) (nb : c0.h₀.Ns builtinsNs mb) (hb : ∀ x : PySem.Str, x ≠ "__name__" → mb x = bootBuiltins x) : FnX c0.q c0.prog c0.w c0.K c0.h₀ 39 300 (F300 sol) := by
  have q0 : c0.q = true := hq
  have s0 := Sm.refl c0
  let c1 := c0.addGen 193 F111 (ok111 T0 q0 H0.f111)
  have T1 : OfTab c1 tab3 := T0.addGen
  have H1 : Txt2 c1.K Td := H0.addGen
  have q1 : c1.q = true := addGen_q q0
  have r1 : c1.R = 3 := addGen_R hR
  have s1 : Sm c0 c1 := s0.addGen
  have z83 := rz83 T1 q1 H1.f170 H1.pm
  let c2 := c1.addFn 83 F170 (ok170 T1 H1.f170 H1.p1 H1.p2)
  have T2 : OfTab c2 tab3 := T1.addFn
  have H2 : Txt2 c2.K Td := H1.addFn
  have q2 : c2.q = true := addFn_q q1
  have r2 : c2.R = 5 := addFn_R r1
  have s2 : Sm c0 c2 := s1.addFn
  have t12 : Sm c1 c2 := (Sm.refl c1).addFn
  have z121 := rz121 T2 H2.f208 z83 t12.p t12.w t12.K t12.h t12.q (by rw [r1, r2]; decide)
  let c3 := c2.addFn aHD F271 ((T2.aln (by kernel_rfl) : c2.Γ.al (.ref aHD) = true).symm ▸ ok271 T2 H2.hd H2.f163 H2.D)
  have T3 : OfTab c3 tab3 := T2.addFn
  have H3 : Txt2 c3.K Td := H2.addFn
  have q3 : c3.q = true := addFn_q q2
  have r3 : c3.R = 7 := addFn_R r2
  have s3 : Sm c0 c3 := s2.addFn
  let c4 := c3.addEff aHD (PySem.Str.ofString "add_header") 179 F268 (ok268 T3 q3 H3.f268 (fun _ _ => by kernel_rfl)) H3.m1 (fun h => absurd h (by decide +kernel))
  have T4 : OfTab c4 tab3 := T3.addEff
  have H4 : Txt2 c4.K Td := H3.addEff
  have q4 : c4.q = true := addEff_q q3
  have r4 : c4.R = 9 := addEff_R r3
  have s4 : Sm c0 c4 := s3.addEff
  have t24 : Sm c2 c4 := (Sm.refl c2).addFn.addEff
  have tk4 : tab3.Ok c4.K := s4.K ▸ tk
  have ng4 : c4.h₀.Ns mainGlobals mg := s4.h ▸ ng
  have nb4 : c4.h₀.Ns builtinsNs mb := s4.h ▸ nb
  have x278 := ok278 T4 H4.f278 (fun _ _ => by kernel_rfl) (by kernel_rfl) (fun _ _ => by kernel_rfl) z121 t24.p t24.w t24.K t24.h t24.q (by rw [r4, r2]; decide) H4.f170 H4.p1 H4.p2 H4.f208 tk4 ng4 nb4 hb (by rw [r4]; decide)
  let c5 := c4.addFn aWS F100 (ok100 T4 q4 H4.ws H4.f55)
  have T5 : OfTab c5 tab3 := T4.addFn
  have H5 : Txt2 c5.K Td := H4.addFn
  have q5 : c5.q = true := addFn_q q4
  have r5 : c5.R = 11 := addFn_R r4
  have s5 : Sm c0 c5 := s4.addFn
  have w5 : Sm c4 c5 := (Sm.refl c4).addFn
  let c6 := c5.addFn 238 F69 (ok69 T5 q5 H5.f69)
  have T6 : OfTab c6 tab3 := T5.addFn
  have H6 : Txt2 c6.K Td := H5.addFn
  have q6 : c6.q = true := addFn_q q5
  have r6 : c6.R = 13 := addFn_R r5
  have s6 : Sm c0 c6 := s5.addFn
  have w6 : Sm c4 c6 := w5.addFn
  let c7 := c6.addFn 200 F118q (ok118 T6 q6 H6.f118 (fun _ => by kernel_rfl))
  have T7 : OfTab c7 tab3 := T6.addFn
  have H7 : Txt2 c7.K Td := H6.addFn
  have q7 : c7.q = true := addFn_q q6
  have r7 : c7.R = 15 := addFn_R r6
  have s7 : Sm c0 c7 := s6.addFn
  have w7 : Sm c4 c7 := w6.addFn
  let c8 := c7.addFn 207 F125q (ok125 T7 q7 H7.f125 (fun _ _ => by kernel_rfl) (fun _ => by kernel_rfl))
  have T8 : OfTab c8 tab3 := T7.addFn
  have H8 : Txt2 c8.K Td := H7.addFn
  have q8 : c8.q = true := addFn_q q7
  have r8 : c8.R = 17 := addFn_R r7
  have s8 : Sm c0 c8 := s7.addFn
  have w8 : Sm c4 c8 := w7.addFn
  let c9 := c8.addFn 283 F283 (ok283 T8 H8.f283 q8)
  have T9 : OfTab c9 tab3 := T8.addFn
  have H9 : Txt2 c9.K Td := H8.addFn
  have q9 : c9.q = true := addFn_q q8
  have r9 : c9.R = 19 := addFn_R r8
  have s9 : Sm c0 c9 := s8.addFn
  have w9 : Sm c4 c9 := w8.addFn
  let c10 := c9.addFn 290 F290 (ok290 T9 H9.f290)
  have T10 : OfTab c10 tab3 := T9.addFn
  have H10 : Txt2 c10.K Td := H9.addFn
  have q10 : c10.q = true := addFn_q q9
  have r10 : c10.R = 21 := addFn_R r9
  have s10 : Sm c0 c10 := s9.addFn
  have w10 : Sm c4 c10 := w9.addFn
  have x295 := ok295 (sol := sol) T10 q10 H10.f295 (fun _ _ => by kernel_rfl) (fun _ _ => by kernel_rfl) (fun _ => by kernel_rfl) (fun _ _ => by kernel_rfl) (fun _ _ => by kernel_rfl) (fun _ _ => by kernel_rfl) (fun _ _ => by kernel_rfl) (w10.x x278) (by rw [r10, r4]; decide)
  have x300 := ok300 (c := c10.up 2) T10.up (up_q q10) H10.f300 (fun _ _ => by kernel_rfl) ((Sm.refl c10).up.x x295) (by exact Nat.le_refl _)
  have s11 : Sm c0 (c10.up 2) := s10.up
  exact (s11.xr x300).mono (by show c10.R + 2 + 2 ≤ 39; rw [r10]; decide)

theorem room_caller {h₀ : Heap} : Room true h₀ 39 callerA := ⟨⟨fun _ => rfl, .inl rfl⟩, by decide, by decide⟩
theorem well_ints {P : Params} {h : Heap} : ∀ {is : List Int} {us : List PySem.Value}, WellAll P h us (ofPys (is.map PyData.int)) → VRs h us (is.map V.int) []
  | [], us, W => by
    have W : WellAll P h us [] := W
    cases W; exact .nil
  | i :: is, us, W => by
    have W : WellAll P h us (.int i :: ofPys (is.map PyData.int)) := W
    cases W with
    | cons a b =>
      cases a
      exact .cons (f := []) (g := []) (.int _ _) (well_ints b)
theorem law_end {sol : List Nat → List Bool × List Nat} {prog : Program} {w : World} {K : Frag} {s₁ : Shared} {mg mb : PySem.Str → Option PySem.Value} {fa ax : Addr} {P : Params} {script : List Int} {E Q : PySem.Value → Shared → Prop} {Td : Addr} (KX : K.In s₁.heap) (lim : s₁.heap.NoLimit) (ng : s₁.heap.Ns mainGlobals mg) (nb : s₁.heap.Ns builtinsNs mb) (hb : ∀ x : PySem.Str, x ≠ "__name__" → mb x = bootBuiltins x) (tk : tab3.Ok K) (H : Txt2 K Td)
    (hmg : mg (PySem.Str.ofString "law") = some (.ref fa)) (W : Well P s₁.heap (.ref ax) (ofPy (PyData.list (script.map PyData.int)))) (hz : script.length ≤ 63) (lo : LawOk2 sol script) (hQ : ∀ s', Ext s₁ s' → Q (.bool true) s') : wpAny (model prog w) callerA (PySem.call (.ref fa) [.ref ax]) Q E s₁ := by
  let c0 : Cx := { prog, w, K, Γ := tab3.glo, h₀ := s₁.heap, R := 1, Pin := [], q := true, ok := Tab.gloS tk KX lim ng nb hb }
  have T0 : OfTab c0 tab3 := ⟨rfl, rfl, rfl, rfl, rfl⟩
  have fn : FnX true prog w K s₁.heap 39 300 (F300 sol) := law300 (c0 := c0) (sol := sol) rfl rfl T0 H tk ng nb hb
  have hfa : fa = 300 := by
    obtain ⟨mg', mb', g1, g2, g3⟩ := c0.ok.base.names
    have := ns_eq g1 ng
    subst this
    obtain ⟨_, q | q⟩ := g3 (PySem.Str.ofString "law") (.ref 300) (by kernel_rfl)
    · rw [hmg] at q; cases q; rfl
    · rw [hmg] at q; cases q.1
  subst hfa
  have W : Well P s₁.heap (.ref ax) (.list (ofPys (script.map PyData.int))) := W
  cases W with
  | @list _ us _ q WA =>
    have F : F300 sol [.lst (script.map .int)] = some (.bool true) := by
      show (intsV _).bind _ = _
      rw [intsV_map, Option.bind_some]
      exact if_pos ⟨hz, lo⟩
    exact fn.call _ _ F callerA E s₁ [.ref ax] [ax] [] Q room_caller (fun _ _ e => e) rfl nn nn (.cons (f := [ax]) (g := []) (.lst q (well_ints WA)) .nil) (fun _ _ z => nomatch z) (fun u g s' t sl r nd nw => by
      refine VR.boolE r ?_
      exact hQ s' t)
theorem FnIn.of {K : Frag} {f : Addr} {st : Stmt} {dV kV : PySem.Value} {name qual : PySem.Str} {p : Arguments} {b : List Stmt} {s : Scope} {doc pm cdv ct oc : PySem.Value} {an od : Option Addr} {osl : Array (Option PySem.Value)} (h : K.lookup f = some ⟨oc, od, .func (fnOf name qual p b s dV kV doc pm an cdv ct), osl⟩) (hp : p = prmOf st) (hb : b = bodOf st) (hs : s = scpOf st) (hc : codeIn K cdv qual = true) (kp : keepIn K (.ref f) = true) : FnIn K f st dV kV := by
  subst hp hb hs
  exact ⟨⟨_, _, _, _, _, _, _, _, _, _, h, hc⟩, kp⟩

noncomputable def parE : Bool → Int → List Nat → Bool
  | _, o, [] => o == 0
  | true, o, _ :: r => parE false o r
  | false, o, c :: r => if c = 92 then parE true o r else if c = 40 then parE false (o + 1) r else if c = 41 then (if o - 1 < 0 then false else parE false (o - 1) r) else parE false o r
noncomputable def escE : Bool → List Nat → Bool
  | e, [] => e
  | true, _ :: r => escE false r
  | false, c :: r => if c = 92 then escE true r else escE false r
theorem parE_c (o : Int) (c : Nat) (r : List Nat) : parE false o (c :: r) = if c = 92 then parE true o r else if c = 40 then parE false (o + 1) r else if c = 41 then (if o - 1 < 0 then false else parE false (o - 1) r) else parE false o r := rfl
theorem escE_c (c : Nat) (r : List Nat) : escE false (c :: r) = if c = 92 then escE true r else escE false r := rfl
theorem escE_ok : ∀ (l : List Nat) (k : Nat) (e : Bool), (foldG escG (l.zipIdx k) e).1 = escE e l
  | [], _, _ => rfl
  | c :: r, k, true => by
    show (foldG escG (r.zipIdx (k + 1)) false).1 = _
    rw [escE_ok r (k + 1) false]; rfl
  | c :: r, k, false => by
    rw [List.zipIdx_cons]
    show (foldG escG (r.zipIdx (k + 1)) (escG false (c, k)).1).1 = _
    rw [escE_c]
    by_cases h : c = 92
    · rw [show escG false (c, k) = (true, []) by simp [escG, h], if_pos h]
      exact escE_ok r (k + 1) true
    · rw [show (escG false (c, k)).1 = false by simp [escG, h], if_neg h]
      exact escE_ok r (k + 1) false
theorem op_str : PySem.Str.ofString "(" = ⟨#[40]⟩ := by decide +kernel
theorem cl_str : PySem.Str.ofString ")" = ⟨#[41]⟩ := by decide +kernel
theorem one_str (a b : Nat) : ((⟨#[a]⟩ : PySem.Str) = ⟨#[b]⟩) = (a = b) := by simp
theorem two_str (a b : Nat) : (PySem.Str.ofString "\\" ++ ⟨#[a]⟩ : PySem.Str) ≠ ⟨#[b]⟩ := by
  intro h
  have h := congrArg PySem.Str.length h
  rw [PySem.Str.length_append, bs_str] at h
  exact absurd h (by show ¬ (1 + 1 = 1); decide)
theorem parE_ok : ∀ (l : List Nat) (k : Nat) (e : Bool) (o : Int), (match (foldR parG (escQ e (l.zipIdx k)) o).2 with
    | none => (foldR parG (escQ e (l.zipIdx k)) o).1 == 0
    | some _ => false) = parE e o l
  | [], _, true, _ => rfl
  | [], _, false, _ => rfl
  | c :: r, k, true, o => by
    rw [List.zipIdx_cons]
    have : parG o ((((c, k) : Nat × Nat).2 : Int), PySem.Str.ofString "\\" ++ ⟨#[((c, k) : Nat × Nat).1]⟩) = (o, none) := by
      unfold parG
      rw [op_str, cl_str, if_neg (two_str _ _), if_neg (two_str _ _)]
    show (match (foldR parG (_ :: escQ false (r.zipIdx (k + 1))) o).2 with | none => (foldR parG (_ :: escQ false (r.zipIdx (k + 1))) o).1 == 0 | some _ => false) = _
    rw [foldR_c, this]
    exact parE_ok r (k + 1) false o
  | c :: r, k, false, o => by
    rw [List.zipIdx_cons]
    rw [escQ_c, parE_c]
    by_cases h : c = 92
    · rw [if_pos h, if_pos h]
      exact parE_ok r (k + 1) true o
    · rw [if_neg h, if_neg h]
      rw [foldR_c]
      unfold parG
      simp only [op_str, cl_str, one_str]
      by_cases h1 : c = 40
      · simp only [h1, if_true]
        exact parE_ok r (k + 1) false (o + 1)
      · simp only [h1, if_false]
        by_cases h2 : c = 41
        · simp only [h2, if_true]
          by_cases h3 : o - 1 < 0
          · simp only [h3, if_true]; rfl
          · simp only [h3, if_false]
            exact parE_ok r (k + 1) false (o - 1)
        · simp only [h2, if_false]
          exact parE_ok r (k + 1) false o
theorem escQ_str : ∀ (l : List Nat) (k : Nat) (e : Bool), (∀ c ∈ l, c < 1114112) → (escQ e (l.zipIdx k)).all (fun p => PyData.strOk p.2) = true
  | [], _, true, _ => rfl
  | [], _, false, _ => rfl
  | c :: r, k, true, h => by
    rw [List.zipIdx_cons]
    show (_ :: escQ false (r.zipIdx (k + 1))).all _ = true
    rw [List.all_cons, escQ_str r (k + 1) false fun d m => h d (.tail _ m), Bool.and_true]
    have hc := h c (.head _)
    rw [bs_str]
    show PyData.strOk ⟨#[92] ++ #[c]⟩ = true
    unfold PyData.strOk
    simp [hc]
  | c :: r, k, false, h => by
    rw [List.zipIdx_cons]
    rw [escQ_c]
    have hc := h c (.head _)
    split
    · exact escQ_str r (k + 1) true fun d m => h d (.tail _ m)
    · rw [List.all_cons, escQ_str r (k + 1) false fun d m => h d (.tail _ m), Bool.and_true]
      exact chr_ok hc
noncomputable def qfree : Bool → List Nat → Bool
  | e, [] => !e
  | true, _ :: r => qfree false r
  | false, c :: r => if c = 92 then qfree true r else (c != 34) && qfree false r
theorem qt_str : PySem.Str.ofString "\"" = ⟨#[34]⟩ := by decide +kernel
theorem escQ_f (p : Nat × Nat) (r : List (Nat × Nat)) : escQ false (p :: r) = if p.1 = 92 then escQ true r else ((p.2 : Int), ⟨#[p.1]⟩) :: escQ false r := rfl
theorem fold_free {x : PySem.Str} : ∀ (l r : List Nat) (k : Nat) (e : Bool) (s : SP), qfree e l = true → (escQ e ((l ++ r).zipIdx k)).foldl (stG x) s = (escQ false (r.zipIdx (k + l.length))).foldl (stG x) s
  | [], r, k, e, s, h => by
    cases e
    · rfl
    · cases h
  | c :: l, r, k, true, s, h => by
    rw [List.cons_append, List.zipIdx_cons]
    show (escQ false ((l ++ r).zipIdx (k + 1))).foldl (stG x) (stG x s ((((c, k) : Nat × Nat).2 : Int), PySem.Str.ofString "\\" ++ ⟨#[c]⟩)) = _
    have : stG x s ((((c, k) : Nat × Nat).2 : Int), PySem.Str.ofString "\\" ++ ⟨#[c]⟩) = s := by
      unfold stG
      rw [qt_str, if_neg (two_str _ _)]
    rw [this, fold_free l r (k + 1) false s h, List.length_cons, show k + 1 + l.length = k + (l.length + 1) by omega]
  | c :: l, r, k, false, s, h => by
    have h : (if c = 92 then qfree true l else (c != 34) && qfree false l) = true := h
    rw [List.cons_append, List.zipIdx_cons, escQ_f]
    dsimp only
    by_cases q : c = 92
    · rw [if_pos q] at h ⊢
      rw [fold_free l r (k + 1) true s h, List.length_cons, show k + 1 + l.length = k + (l.length + 1) by omega]
    · rw [if_neg q, Bool.and_eq_true] at h
      rw [if_neg q, List.foldl_cons]
      have : stG x s ((k : Int), ⟨#[c]⟩) = s := by
        unfold stG
        rw [qt_str, if_neg (by rw [one_str]; exact bne_iff_ne.mp h.1)]
      rw [this, fold_free l r (k + 1) false s h.2, List.length_cons, show k + 1 + l.length = k + (l.length + 1) by omega]
theorem fold_quote {x : PySem.Str} (r : List Nat) (k : Nat) (s : SP) : (escQ false ((34 :: r).zipIdx k)).foldl (stG x) s = (escQ false (r.zipIdx (k + 1))).foldl (stG x) (match s.2.1 with
    | none => (s.1, some (k : Int), s.2.2)
    | some o => ((k : Int) + 1, none, if s.1 = o then s.2.2 else s.2.2 ++ [Txt.slice x (some s.1) (some o)])) := by
  rw [List.zipIdx_cons, escQ_f]
  dsimp only
  rw [if_neg (by decide), List.foldl_cons]
  congr 1
theorem slice_mid {x : PySem.Str} {P M R : List Nat} (e : x.cps.toList = P ++ (M ++ R)) : Txt.slice x (some (P.length : Int)) (some ((P.length + M.length : Nat) : Int)) = ⟨M.toArray⟩ := by
  have l : x.cps.toList.length = P.length + (M.length + R.length) := by rw [e, List.length_append, List.length_append]
  have := StrLaws.sliceText_plain (x := x) (i := (P.length : Int)) (j := ((P.length + M.length : Nat) : Int)) ⟨by omega, by omega, by omega⟩
  refine (show Txt.slice x _ _ = _ from this).trans ?_
  rw [Int.toNat_natCast, show (((P.length + M.length : Nat) : Int) - (P.length : Int)).toNat = M.length by omega, e, List.drop_left, List.take_left]
theorem slice_end {x : PySem.Str} {P R : List Nat} (e : x.cps.toList = P ++ R) : Txt.slice x (some (P.length : Int)) none = ⟨R.toArray⟩ := by
  have l : x.cps.toList.length = P.length + R.length := by rw [e, List.length_append]
  have := StrLaws.sliceText_from (x := x) (i := (P.length : Int)) ⟨by omega, by omega⟩
  refine (show Txt.slice x _ _ = _ from this).trans ?_
  rw [Int.toNat_natCast, show ((x.cps.toList.length : Int) - (P.length : Int)).toNat = R.length by omega, e, List.drop_left, List.take_length]
noncomputable def parI : Int → List Bool → Bool
  | o, [] => o == 0
  | o, true :: r => parI (o + 1) r
  | o, false :: r => if o - 1 < 0 then false else parI (o - 1) r
theorem parI_cut : ∀ (l r : List Bool) (o : Int), parI o l = true → parI o (l ++ false :: r) = false
  | [], r, o, h => by
    have : o = 0 := by simpa [parI] using h
    subst this
    rfl
  | true :: l, r, o, h => parI_cut l r (o + 1) h
  | false :: l, r, o, h => by
    unfold parI at h
    rw [List.cons_append]
    unfold parI
    split at h
    · cases h
    · rename_i q
      rw [if_neg q]
      exact parI_cut l r (o - 1) h
noncomputable def brC (b : Bool) : Nat := if b then 40 else 41
noncomputable def pcs (l : List (List Nat × Bool)) : List Nat := l.flatMap fun p => p.1 ++ [brC p.2]
theorem pcs_c (p : List Nat × Bool) (r : List (List Nat × Bool)) : pcs (p :: r) = p.1 ++ brC p.2 :: pcs r := by
  unfold pcs
  rw [List.flatMap_cons, List.append_assoc]; rfl
noncomputable def dressC : List (List Nat) := [[], [92, 92], [92, 41]]
noncomputable def dressD : List (List Nat) := [[], [92, 41], [34, 40, 34], [92, 92]]
noncomputable def unq (p : List Nat × Bool) : List Nat × Bool := (if p.1 = [34, 40, 34] then [] else p.1, p.2)
theorem dressC_or {P : List Nat → Prop} (h0 : P []) (h1 : P [92, 92]) (h2 : P [92, 41]) : ∀ d ∈ dressC, P d := fun d m => by
  rcases List.mem_cons.mp m with rfl | m
  · exact h0
  rcases List.mem_cons.mp m with rfl | m
  · exact h1
  rw [List.mem_singleton.mp m]; exact h2
theorem dressD_or {P : List Nat → Prop} (h0 : P []) (h1 : P [92, 41]) (h2 : P [34, 40, 34]) (h3 : P [92, 92]) : ∀ d ∈ dressD, P d := fun d m => by
  rcases List.mem_cons.mp m with rfl | m
  · exact h0
  rcases List.mem_cons.mp m with rfl | m
  · exact h1
  rcases List.mem_cons.mp m with rfl | m
  · exact h2
  rw [List.mem_singleton.mp m]; exact h3
theorem unq_mem : ∀ d ∈ dressD, ∀ b, (unq (d, b)).1 ∈ dressC := dressD_or (by decide) (by decide) (by decide) (by decide)
theorem pcs_ind {P : List (List Nat × Bool) → Prop} {D : List (List Nat)} (h0 : P []) (h : ∀ d ∈ D, ∀ b r, P r → P ((d, b) :: r)) : ∀ l : List (List Nat × Bool), (∀ p ∈ l, p.1 ∈ D) → P l
  | [], _ => h0
  | (d, b) :: r, m => h d (m _ (.head _)) b r (pcs_ind h0 h r fun p q => m p (.tail _ q))
theorem pcs_esc : ∀ l : List (List Nat × Bool), (∀ p ∈ l, p.1 ∈ dressD) → escE false (pcs l) = false := pcs_ind rfl (dressD_or (fun b r i => by rw [pcs_c]; cases b <;> exact i) (fun b r i => by rw [pcs_c]; cases b <;> exact i) (fun b r i => by rw [pcs_c]; cases b <;> exact i) (fun b r i => by rw [pcs_c]; cases b <;> exact i))
theorem pcs_lt : ∀ l : List (List Nat × Bool), (∀ p ∈ l, p.1 ∈ dressD) → ∀ c ∈ pcs l, c < 1114112 := pcs_ind (fun c m => nomatch m) (fun d m b r i c q => by
  rw [pcs_c] at q
  rcases List.mem_append.mp q with q | q
  · exact (dressD_or (P := fun d => ∀ c ∈ d, c < 1114112) (by decide) (by decide) (by decide) (by decide)) d m c q
  · rcases List.mem_cons.mp q with q | q
    · rw [q]; show brC b < 1114112; cases b <;> decide
    · exact i c q)
theorem pcs_size : ∀ l : List (List Nat × Bool), (∀ p ∈ l, p.1 ∈ dressD) → (pcs l).length ≤ 4 * l.length := pcs_ind (Nat.le_refl _) (fun d m b r i => by
  rw [pcs_c, List.length_append, List.length_cons, List.length_cons]
  have := (dressD_or (P := fun d => d.length ≤ 3) (by decide) (by decide) (by decide) (by decide)) d m
  dsimp only at this ⊢
  omega)
theorem dC_D : ∀ d ∈ dressC, d ∈ dressD := dressC_or (by decide) (by decide) (by decide)
theorem pcs_par : ∀ l : List (List Nat × Bool), (∀ p ∈ l, p.1 ∈ dressC) → ∀ o, parE false o (pcs l) = parI o (l.map (·.2)) := by
  have hb : ∀ (b : Bool) (r : List (List Nat × Bool)), (∀ o, parE false o (pcs r) = parI o (r.map (·.2))) → ∀ o, parE false o (brC b :: pcs r) = parI o (b :: r.map (·.2)) := fun b r i o => by
    cases b
    · show (if o - 1 < 0 then false else parE false (o - 1) (pcs r)) = if o - 1 < 0 then false else parI (o - 1) _
      rw [i (o - 1)]
    · exact i (o + 1)
  exact pcs_ind (fun o => rfl) (dressC_or (fun b r i o => by rw [pcs_c]; exact hb b r i o) (fun b r i o => by rw [pcs_c]; exact hb b r i o) (fun b r i o => by rw [pcs_c]; exact hb b r i o))
theorem sg_code : ∀ b : Bool, (⟨#[brC b]⟩ : PySem.Str) = sg b ∧ isBr (sg b) = true ∧ brC b ≠ 92 ∧ brC b ≠ 34 := by decide +kernel
theorem bs_no (c : Nat) : isBr (PySem.Str.ofString "\\" ++ ⟨#[c]⟩ : PySem.Str) = false := by
  unfold isBr opnS clsS
  rw [op_str, cl_str, Bool.or_false, Bool.or_eq_false_iff, beq_eq_false_iff_ne, beq_eq_false_iff_ne]
  exact ⟨fun h => two_str _ _ h.symm, fun h => two_str _ _ h.symm⟩
theorem pcs_brs : ∀ l : List (List Nat × Bool), (∀ p ∈ l, p.1 ∈ dressC) → ∀ k, ((escQ false ((pcs l).zipIdx k)).filter fun p => isBr p.2).map (·.2) = (l.map (·.2)).map sg := by
  have hb : ∀ (b : Bool) (r : List (List Nat × Bool)), (∀ k, ((escQ false ((pcs r).zipIdx k)).filter fun p => isBr p.2).map (·.2) = (r.map (·.2)).map sg) → ∀ k, ((escQ false ((brC b :: pcs r).zipIdx k)).filter fun p => isBr p.2).map (·.2) = (b :: r.map (·.2)).map sg := fun b r i k => by
    obtain ⟨s1, s2, s3, _⟩ := sg_code b
    rw [List.zipIdx_cons, escQ_f]
    dsimp only
    rw [if_neg s3, List.filter_cons]
    dsimp only
    rw [s1, if_pos s2, List.map_cons, i (k + 1), List.map_cons]
  have ht : ∀ (c : Nat) (b : Bool) (r : List (List Nat × Bool)), (∀ k, ((escQ false ((pcs r).zipIdx k)).filter fun p => isBr p.2).map (·.2) = (r.map (·.2)).map sg) → ∀ k, ((escQ false ((92 :: c :: brC b :: pcs r).zipIdx k)).filter fun p => isBr p.2).map (·.2) = (b :: r.map (·.2)).map sg := fun c b r i k => by
    rw [List.zipIdx_cons, escQ_f]
    dsimp only
    rw [if_pos rfl, List.zipIdx_cons]
    show (((_, PySem.Str.ofString "\\" ++ ⟨#[c]⟩) :: escQ false ((brC b :: pcs r).zipIdx (k + 1 + 1))).filter fun p => isBr p.2).map (·.2) = _
    rw [List.filter_cons]
    dsimp only
    rw [if_neg (by rw [bs_no]; decide)]
    exact hb b r i _
  exact pcs_ind (fun k => rfl) (dressC_or (fun b r i k => by rw [pcs_c]; exact hb b r i k) (fun b r i k => by rw [pcs_c]; exact ht 92 b r i k) (fun b r i k => by rw [pcs_c]; exact ht 41 b r i k))
theorem F111_ok {x : PySem.Str} (h1 : ∀ c ∈ x.cps.toList, c < 1114112) (h2 : escE false x.cps.toList = false) : F111 [.str x] = some ((yl x).map tpV) ∧ ((yl x).all fun p => PyData.strOk p.2) = true := by
  refine ⟨?_, escQ_str _ _ _ h1⟩
  show (if x.cps.all (· < 1114112) = true ∧ (foldG escG x.cps.toList.zipIdx false).1 = false then some (foldG escG x.cps.toList.zipIdx false).2 else none) = _
  have e4 : x.cps.all (· < 1114112) = true := by
    rw [Array.all_eq_true']
    intro c m
    exact decide_eq_true (h1 c (Array.mem_toList_iff.mpr m))
  rw [if_pos ⟨e4, by rw [escE_ok]; exact h2⟩, escQ_eq]
theorem strip_pcs {x : PySem.Str} : ∀ (l : List (List Nat × Bool)) (P : List Nat) (st : Nat) (res : List PySem.Str), (∀ p ∈ l, p.1 ∈ dressD) → x.cps.toList = P ++ pcs l → st ≤ P.length → ∃ (st' : Nat) (res' : List PySem.Str), (escQ false ((pcs l).zipIdx P.length)).foldl (stG x) ((st : Int), none, res) = ((st' : Int), none, res') ∧ st' ≤ x.length ∧ (res'.flatMap fun t => t.cps.toList) ++ x.cps.toList.drop st' = (res.flatMap fun t => t.cps.toList) ++ P.drop st ++ pcs (l.map unq)
  | [], P, st, res, _, e, hs => by
    rw [show pcs [] = [] from rfl, List.append_nil] at e
    refine ⟨st, res, rfl, ?_, ?_⟩
    · show st ≤ x.cps.size
      rw [← Array.length_toList, e]; exact hs
    · rw [e]; exact (List.append_nil _).symm
  | (d, b) :: r, P, st, res, hd, e, hs => by
    have hd' : ∀ p ∈ r, p.1 ∈ dressD := fun p m => hd p (.tail _ m)
    obtain ⟨_, _, b1, b2⟩ := sg_code b
    by_cases q : d = [34, 40, 34]
    · subst q
      rw [pcs_c] at e ⊢
      have e' : x.cps.toList = P ++ (34 :: 40 :: 34 :: brC b :: pcs r) := e
      show ∃ st' res', (escQ false ((34 :: 40 :: 34 :: brC b :: pcs r).zipIdx P.length)).foldl (stG x) _ = _ ∧ _
      rw [fold_quote]
      dsimp only
      have f1 := fold_free (x := x) [40] (34 :: brC b :: pcs r) (P.length + 1) false ((st : Int), some (P.length : Int), res) (by decide)
      rw [show ([40] ++ 34 :: brC b :: pcs r) = 40 :: 34 :: brC b :: pcs r from rfl] at f1
      rw [f1, show P.length + 1 + [40].length = P.length + 2 from rfl, fold_quote]
      dsimp only
      have hq : qfree false [brC b] = true := by cases b <;> decide
      have f2 := fun s => fold_free (x := x) [brC b] (pcs r) (P.length + 2 + 1) false s hq
      rw [show [brC b] ++ pcs r = brC b :: pcs r from rfl] at f2
      rw [f2]
      have l4 : (P ++ [34, 40, 34, brC b]).length = P.length + 4 := by rw [List.length_append]; rfl
      have sl : (if (st : Int) = (P.length : Int) then res else res ++ [Txt.slice x (some (st : Int)) (some (P.length : Int))]).flatMap (fun t => t.cps.toList) = (res.flatMap fun t => t.cps.toList) ++ P.drop st := by
        by_cases z : (st : Int) = (P.length : Int)
        · rw [if_pos z, List.drop_of_length_le (by omega), List.append_nil]
        · have lt : (P.take st).length = st := List.length_take_of_le hs
          have lm : (P.drop st).length = P.length - st := List.length_drop
          have := slice_mid (x := x) (P := P.take st) (M := P.drop st) (by rw [← List.append_assoc, List.take_append_drop]; exact e')
          rw [lt, lm, show st + (P.length - st) = P.length by omega] at this
          rw [if_neg z, List.flatMap_append, this, List.flatMap_singleton]
      obtain ⟨st', res', i1, i2, i3⟩ := strip_pcs r (P ++ [34, 40, 34, brC b]) (P.length + 3) _ hd' (by rw [e', List.append_assoc]; rfl) (by rw [l4]; omega)
      refine ⟨st', res', ?_, i2, ?_⟩
      · rw [← i1, l4]; rfl
      · rw [i3, sl, List.map_cons, pcs_c]
        have : (P ++ [34, 40, 34, brC b]).drop (P.length + 3) = [brC b] := by
          rw [show P ++ [34, 40, 34, brC b] = (P ++ [34, 40, 34]) ++ [brC b] by rw [List.append_assoc]; rfl]
          exact List.drop_left' (by rw [List.length_append]; rfl)
        rw [this, show unq ([34, 40, 34], b) = ([], b) from rfl, List.append_assoc]; rfl
    · have hf : qfree false (d ++ [brC b]) = true := by
        have := dressD_or (P := fun d => d ≠ [34, 40, 34] → qfree false (d ++ [brC b]) = true) (fun _ => by cases b <;> decide) (fun _ => by cases b <;> decide) (fun z => absurd rfl z) (fun _ => by cases b <;> decide)
        exact this d (hd _ (.head _)) q
      rw [pcs_c] at e ⊢
      dsimp only at e ⊢
      have f2 := fold_free (x := x) (d ++ [brC b]) (pcs r) P.length false ((st : Int), none, res) hf
      rw [show d ++ [brC b] ++ pcs r = d ++ brC b :: pcs r by rw [List.append_assoc]; rfl] at f2
      rw [f2]
      have l4 : (P ++ (d ++ [brC b])).length = P.length + (d ++ [brC b]).length := List.length_append
      obtain ⟨st', res', i1, i2, i3⟩ := strip_pcs r (P ++ (d ++ [brC b])) st res hd' (by rw [e, List.append_assoc, List.append_assoc]; rfl) (by rw [l4]; omega)
      refine ⟨st', res', ?_, i2, ?_⟩
      · rw [← i1, l4]
      · rw [i3, List.map_cons, pcs_c, List.drop_append_of_le_length hs, show unq (d, b) = (d, b) by unfold unq; rw [if_neg q]]
        simp only [List.append_assoc, List.cons_append, List.nil_append]
theorem unq_same : ∀ l : List (List Nat × Bool), 34 ∉ pcs l → l.map unq = l
  | [], _ => rfl
  | (d, b) :: r, h => by
    rw [pcs_c, List.mem_append, List.mem_cons, not_or, not_or] at h
    rw [List.map_cons, unq_same r h.2.2]
    congr 1
    unfold unq
    rw [if_neg fun q => h.1 (by rw [show d = [34, 40, 34] from q]; show 34 ∈ [34, 40, 34]; decide)]
theorem strip_all {x : PySem.Str} {l : List (List Nat × Bool)} (hd : ∀ p ∈ l, p.1 ∈ dressD) (e : x.cps.toList = pcs l) (hz : l.length ≤ 100) : ∃ y, F118' x = some (.str y) ∧ y.cps.toList = pcs (l.map unq) := by
  have h1 := pcs_lt l hd
  have h2 := pcs_esc l hd
  have h3 := pcs_size l hd
  obtain ⟨f1, f2⟩ := F111_ok (x := x) (by rw [e]; exact h1) (by rw [e]; exact h2)
  obtain ⟨st', res', i1, i2, i3⟩ := strip_pcs (x := x) l [] 0 [] hd e (Nat.le_refl _)
  have hl : (stL x).flatMap (fun t => t.cps.toList) = pcs (l.map unq) := by
    have hq : stQ x = ((st' : Int), none, res') := by
      unfold stQ
      rw [e]; exact i1
    unfold stL
    rw [hq]
    dsimp only
    rw [show pcs (l.map unq) = _ from i3.symm]
    by_cases z : (st' : Int) < (x.length : Int)
    · have lt : (x.cps.toList.take st').length = st' := List.length_take_of_le (by rw [Array.length_toList]; exact i2)
      have := slice_end (x := x) (P := x.cps.toList.take st') (R := x.cps.toList.drop st') (List.take_append_drop _ _).symm
      rw [lt] at this
      rw [if_pos z, List.flatMap_append, this, List.flatMap_singleton]
    · rw [if_neg z, List.drop_of_length_le (by rw [Array.length_toList]; show x.length ≤ st'; omega), List.append_nil]
  have hu : ∀ p ∈ l.map unq, p.1 ∈ dressD := fun p m => by
    obtain ⟨⟨d, b⟩, m', rfl⟩ := List.mem_map.mp m
    exact dC_D _ (unq_mem d (hd (d, b) m') b)
  have h4 := pcs_size _ hu
  rw [List.length_map] at h4
  have hj : JoinOk (PySem.Str.ofString "") (stL x) = true := by
    refine joinOk_of ?_
    have : ((stL x).map (·.length)).sum = (pcs (l.map unq)).length := by
      rw [← hl, List.length_flatMap]
      congr 1
    rw [this, show (PySem.Str.ofString "").length = 0 by decide +kernel]
    omega
  have hsz : x.cps.size ≤ 1000 := by rw [← Array.length_toList, e]; omega
  refine ⟨stS x, ?_, ?_⟩
  · unfold F118'
    rw [if_pos fun _ => ⟨hsz, by rw [f1]; rfl, f2, hj⟩]
  · unfold stS
    by_cases z : 34 ∈ x.cps.toList
    · rw [if_pos z, join_codes, hl]
    · rw [if_neg z, e, unq_same l (by rw [← e]; exact z)]
theorem F125q_pcs {x : PySem.Str} {l : List (List Nat × Bool)} (hd : ∀ p ∈ l, p.1 ∈ dressD) (e : x.cps.toList = pcs l) (hz : l.length ≤ 100) : F125q [.str x] [] = some (.bool (parI 0 (l.map (·.2)))) ∧ ∃ y, F118q [.str x] [] = some (.str y) ∧ F111 [.str y] = some ((yl y).map tpV) ∧ (yl y).length ≤ 1000 ∧ (∀ p ∈ yl y, PyData.strOk p.2 = true) ∧ ((yl y).filter fun p => isBr p.2).map (·.2) = (l.map (·.2)).map sg := by
  obtain ⟨y, s1, s2⟩ := strip_all hd e hz
  have hc : ∀ p ∈ l.map unq, p.1 ∈ dressC := fun p m => by
    obtain ⟨⟨d, b⟩, m', rfl⟩ := List.mem_map.mp m
    exact unq_mem d (hd (d, b) m') b
  have hu : ∀ p ∈ l.map unq, p.1 ∈ dressD := fun p m => dC_D _ (hc p m)
  have h4 := pcs_size _ hu
  rw [List.length_map] at h4
  have hm : (l.map unq).map (·.2) = l.map (·.2) := by rw [List.map_map]; rfl
  obtain ⟨f1, f2⟩ := F111_ok (x := y) (by rw [s2]; exact pcs_lt _ hu) (by rw [s2]; exact pcs_esc _ hu)
  refine ⟨?_, y, s1, f1, ?_, fun p m => List.all_eq_true.mp f2 p m, ?_⟩
  · show (strOf (F118' x)).bind _ = _
    rw [s1]
    show (if _ then some (V.bool (parB (yl y))) else none) = _
    rw [if_pos ⟨by rw [f1]; rfl, f2⟩]
    have := parE_ok y.cps.toList 0 false 0
    rw [s2, pcs_par _ hc, hm] at this
    rw [← this]
    unfold yl
    rw [s2]; rfl
  · refine Nat.le_trans (escQ_len _ _) ?_
    rw [List.length_zipIdx, s2]; omega
  · unfold yl
    rw [s2, pcs_brs _ hc, hm]

theorem flatMap_eq {α β : Type} {f g : α → List β} : ∀ {l : List α}, (∀ x ∈ l, f x = g x) → l.flatMap f = l.flatMap g
  | [], _ => rfl
  | x :: r, h => by rw [List.flatMap_cons, List.flatMap_cons, h x (.head _), flatMap_eq fun y m => h y (.tail _ m)]
noncomputable def plA (ds : List Nat) (dr : List PySem.Str) (k j : Nat) : List (List Nat × Bool) := (if ds.getD j 0 = k then [((dr.getD j nilS).cps.toList, true)] else []) ++ (if ds.getD j 0 + 1 = k then [([], false)] else [])
noncomputable def pl (ds : List Nat) (dr : List PySem.Str) : List (List Nat × Bool) := (List.range 7).flatMap fun k => (List.range 6).flatMap fun j => plA ds dr k j
noncomputable def brA (d k : Nat) : List Bool := cond (Nat.beq d k) [true] (cond (Nat.beq (d + 1) k) [false] [])
noncomputable def brs (ds : List Nat) : List Bool := (List.range 7).flatMap fun k => ds.flatMap fun d => brA d k
theorem at_flat {β : Type} {ds : List Nat} {n : Nat} (h : ds.length = n) (f : Nat → List β) : (List.range n).flatMap (fun j => f (ds.getD j 0)) = ds.flatMap f := by
  have e : (List.range n).map (fun j => ds.getD j 0) = ds := by
    refine List.ext_getElem (by rw [List.length_map, List.length_range, h]) fun k a b => ?_
    rw [List.getElem_map, List.getElem_range, List.getD_eq_getElem?_getD, List.getElem?_eq_getElem b]; rfl
  have := congrArg (fun l => List.flatMap f l) e
  rwa [List.flatMap_map] at this
theorem beq_t {a b : Nat} (h : a = b) : Nat.beq a b = true := Nat.beq_eq ▸ h
theorem beq_f {a b : Nat} (h : ¬ a = b) : Nat.beq a b = false := Bool.eq_false_iff.mpr fun q => h (Nat.eq_of_beq_eq_true q)
theorem pl_brs {ds : List Nat} (h6 : ds.length = 6) (dr : List PySem.Str) : (pl ds dr).map (·.2) = brs ds := by
  unfold pl brs
  rw [List.map_flatMap]
  refine flatMap_eq fun k _ => ?_
  rw [List.map_flatMap, ← at_flat h6]
  refine flatMap_eq fun j _ => ?_
  unfold plA brA
  rw [List.map_append]
  generalize ds.getD j 0 = d
  by_cases h1 : d = k
  · rw [beq_t h1, if_pos h1, if_neg (by omega)]; rfl
  · rw [beq_f h1, if_neg h1]
    by_cases h2 : d + 1 = k
    · rw [beq_t h2, if_pos h2]; rfl
    · rw [beq_f h2, if_neg h2]; rfl
theorem nm_eq : ∀ d, d < 6 → ∀ k, k < 7 → (Txt.lower (nmA d) == Txt.lower (nmQ k)) = decide (d = k) ∧ (Txt.lower (nmB d) == Txt.lower (nmQ k)) = decide (d + 1 = k) := by decide +kernel
theorem hs_flat (ds : List Nat) (dr : List PySem.Str) : hsOf ds dr = (List.range 6).flatMap fun j => [(nmA (ds.getD j 0), dr.getD j nilS ++ opnS), (nmB (ds.getD j 0), clsS)] := by
  have : ∀ (l : List Nat) (hs : HS), l.foldl (txStep ds dr) hs = hs ++ l.flatMap fun j => [(nmA (ds.getD j 0), dr.getD j nilS ++ opnS), (nmB (ds.getD j 0), clsS)] := fun l => by
    induction l with
    | nil => exact fun hs => (List.append_nil _).symm
    | cons j r ih =>
      intro hs
      rw [List.foldl_cons, ih, List.flatMap_cons, ← List.append_assoc]
      unfold txStep
      rw [List.append_assoc hs]; rfl
  exact this _ _
theorem opn_codes (s : PySem.Str) : (s ++ opnS).cps.toList = s.cps.toList ++ [40] := by
  unfold opnS
  rw [op_str]; exact Array.toList_append
theorem two_codes {ds : List Nat} {dr : List PySem.Str} {k j : Nat} (hd : ds.getD j 0 < 6) (hk : k < 7) : ((([(nmA (ds.getD j 0), dr.getD j nilS ++ opnS), (nmB (ds.getD j 0), clsS)] : HS).filter fun p => Txt.lower p.1 == Txt.lower (nmQ k)).map (·.2)).flatMap (fun t => t.cps.toList) = pcs (plA ds dr k j) := by
  obtain ⟨n1, n2⟩ := nm_eq _ hd k hk
  have c1 := opn_codes (dr.getD j nilS)
  have c2 : clsS.cps.toList = [41] := by decide +kernel
  generalize dr.getD j nilS ++ opnS = so at c1 ⊢
  rw [List.filter_cons, List.filter_cons, List.filter_nil]
  dsimp only
  rw [n1, n2]
  unfold plA
  generalize (dr.getD j nilS).cps.toList = sc at c1 ⊢
  generalize ds.getD j 0 = d at *
  by_cases h1 : d = k
  · by_cases h2 : d + 1 = k
    · omega
    · rw [decide_eq_true h1, decide_eq_false h2, if_pos rfl, if_neg Bool.false_ne_true, if_pos h1, if_neg h2]
      show so.cps.toList ++ [] = _
      rw [c1]; rfl
  · by_cases h2 : d + 1 = k
    · rw [decide_eq_true h2, decide_eq_false h1, if_neg Bool.false_ne_true, if_pos rfl, if_neg h1, if_pos h2]
      show clsS.cps.toList ++ [] = _
      rw [c2]; rfl
    · rw [decide_eq_false h2, decide_eq_false h1, if_neg Bool.false_ne_true, if_neg Bool.false_ne_true, if_neg h1, if_neg h2]; rfl
theorem tx_at {ds : List Nat} {dr : List PySem.Str} (ok : txOk ds dr) {k : Nat} (hk : k < 6) : ds.getD k 0 < 6 ∧ dr.getD k nilS ∈ dressQ := by
  obtain ⟨o1, o2, o3, o4⟩ := ok
  refine ⟨?_, ?_⟩
  · rw [List.getD_eq_getElem?_getD, List.getElem?_eq_getElem (by omega)]
    exact o3 _ (List.getElem_mem _)
  · rw [List.getD_eq_getElem?_getD, List.getElem?_eq_getElem (by omega)]
    exact o4 _ (List.getElem_mem _)
theorem pcs_flat {α : Type} (f : α → List (List Nat × Bool)) (l : List α) : pcs (l.flatMap f) = l.flatMap fun x => pcs (f x) := by
  unfold pcs
  rw [List.flatMap_assoc]
theorem txt_codes {ds : List Nat} {dr : List PySem.Str} (ok : txOk ds dr) : (txtOf ds dr).cps.toList = pcs (pl ds dr) := by
  unfold txtOf rdOf
  rw [show nilS = PySem.Str.ofString "" from rfl, join_codes, List.flatMap_map]
  unfold pl
  rw [pcs_flat]
  refine flatMap_eq fun k mk => ?_
  have hk := List.mem_range.mp mk
  rw [join_codes, pcs_flat]
  unfold rowQ
  rw [hs_flat, List.filter_flatMap, List.map_flatMap, List.flatMap_assoc]
  exact flatMap_eq fun j mj => two_codes (tx_at ok (List.mem_range.mp mj)).1 hk
theorem dress_codes : ∀ x ∈ dressQ, x.cps.toList ∈ dressD := by decide +kernel
theorem pl_mem {ds : List Nat} {dr : List PySem.Str} (ok : txOk ds dr) : ∀ p ∈ pl ds dr, p.1 ∈ dressD := fun p m => by
  obtain ⟨k, _, m⟩ := List.mem_flatMap.mp m
  obtain ⟨j, mj, m⟩ := List.mem_flatMap.mp m
  have hd := dress_codes _ (tx_at ok (List.mem_range.mp mj)).2
  unfold plA at m
  rcases List.mem_append.mp m with m | m
  · split at m
    · rw [List.mem_singleton.mp m]; exact hd
    · cases m
  · split at m
    · rw [List.mem_singleton.mp m]; decide
    · cases m
noncomputable def allD : Nat → List (List Nat)
  | 0 => [[0]]
  | n + 1 => (allD n).flatMap fun ds => (List.range (ds.getD n 0 + 2)).map fun d => ds ++ [d]
theorem dp_mem {dw : List Int} {ds : List Nat} {n : Nat} (h : ds ∈ allD n) : dpG dw ds n ∈ allD (n + 1) := by
  refine List.mem_flatMap.mpr ⟨ds, h, List.mem_map.mpr ⟨_, List.mem_range.mpr ?_, rfl⟩⟩
  have h4 := Int.fmod_nonneg_of_pos (dw.getD n 0 + c5.getD n 0) (show (0 : Int) < ((ds.getD n 0 : Nat) : Int) + 2 by omega)
  have h5 := Int.fmod_lt_of_pos (dw.getD n 0 + c5.getD n 0) (show (0 : Int) < ((ds.getD n 0 : Nat) : Int) + 2 by omega)
  omega
theorem dep_mem (script : List Int) : dep script ∈ allD 5 := by
  have h0 : [0] ∈ allD 0 := .head _
  exact dp_mem (dp_mem (dp_mem (dp_mem (dp_mem h0))))
theorem dre_mem (script : List Int) : ∀ x ∈ dre script, x ∈ dressQ := fun x m => by
  obtain ⟨k, _, rfl⟩ := List.mem_map.mp m
  have h4 := Int.fmod_nonneg_of_pos (((drw script).getD k 0).fdiv 60 + (k : Int)) (show (0 : Int) < 4 by decide)
  have h5 := Int.fmod_lt_of_pos (((drw script).getD k 0).fdiv 60 + (k : Int)) (show (0 : Int) < 4 by decide)
  unfold dreK
  rw [List.getD_eq_getElem?_getD, List.getElem?_eq_getElem (by show _ < 4; omega)]
  exact List.getElem_mem _
noncomputable def hgo : Int → List Bool → List Int
  | _, [] => []
  | h, true :: r => h :: hgo (h + 1) r
  | h, false :: r => hgo (h - 1) r
noncomputable def hts (ds : List Nat) : List Nat := (hgo 0 (brs ds)).map Int.toNat
theorem hgt_go : ∀ (bs pre : List Bool), ((List.range' pre.length bs.length).filter fun k => (pre ++ bs).getD k false).map (hgt (pre ++ bs)) = hgo ((pre.count true : Int) - (pre.count false : Int)) bs
  | [], pre => rfl
  | b :: r, pre => by
    have i := hgt_go r (pre ++ [b])
    rw [show pre ++ [b] ++ r = pre ++ b :: r by rw [List.append_assoc]; rfl, List.length_append, List.count_append, List.count_append] at i
    have e1 : (pre ++ b :: r).getD pre.length false = b := by rw [List.getD_eq_getElem?_getD, List.getElem?_append_right (Nat.le_refl _), Nat.sub_self]; rfl
    have e2 : hgt (pre ++ b :: r) pre.length = (pre.count true : Int) - (pre.count false : Int) := by unfold hgt; rw [List.take_left]
    rw [List.length_cons, List.range'_succ, List.filter_cons, e1]
    cases b
    · rw [if_neg Bool.false_ne_true]
      refine i.trans ?_
      show hgo _ r = hgo _ r
      congr 1
      rw [show [false].count true = 0 from rfl, show [false].count false = 1 from rfl]; omega
    · rw [if_pos rfl, List.map_cons, e2]
      refine (congrArg (_ :: ·) i).trans ?_
      show _ :: hgo _ r = _ :: hgo _ r
      congr 2
      rw [show [true].count true = 1 from rfl, show [true].count false = 0 from rfl]; omega
theorem hgt_all (bs : List Bool) : ((List.range bs.length).filter fun k => bs.getD k false).map (hgt bs) = hgo 0 bs := by
  rw [List.range_eq_range']
  exact hgt_go bs []
noncomputable def solQ (ds : List Nat) : List Bool × List Nat := (brs ds, hts ds)
noncomputable def runC (hs : List Nat) : List Nat := hs.flatMap fun h => List.replicate h 32 ++ [9]
noncomputable def wsC (hs : List Nat) : WS := foldB wsStep (runC hs) ⟨[], 0, 0, 0⟩
noncomputable def okD (ds : List Nat) : Bool :=
  decide (ds.length = 6) && ds.all (fun d => decide (d < 6)) && decide ((brs ds).length = 12) && parI 0 (brs ds) && decide ((hgo 0 (brs ds)).length ≤ 100) && (hgo 0 (brs ds)).all (fun h => decide (0 ≤ h) && decide (h ≤ 9)) &&
  decide ((runC ds).length ≤ 400) && decide ((runC (hts ds)).length ≤ 400) && decide ((wsC ds).count = wvR (brs ds)) && decide ((wsC ds).b = 0) && okL (wsC (hts ds)).count 1 (wsC (hts ds)).nt && okL (wsC (hts ds)).count 2 (wsC (hts ds)).nt &&
  decide ((wsC (hts ds)).b + 1 * (ilOf (wsC (hts ds)).count 1 + (wsC (hts ds)).nt) = 6 + ((prL ds).length : Int)) && decide ((wsC (hts ds)).b + 2 * (ilOf (wsC (hts ds)).count 2 + (wsC (hts ds)).nt) = ((hts ds).map fun (h : Nat) => 2 + (h : Int).fdiv 2 * 2).sum) && decide (quR (brs ds) = some ds)
noncomputable def inD : Nat → List Nat → Bool
  | _, [] => true
  | m, d :: r => Nat.ble d m && inD (d + 1) r
theorem add_mem {ds : List Nat} {n d : Nat} (h : ds ∈ allD n) (hd : d < ds.getD n 0 + 2) : ds ++ [d] ∈ allD (n + 1) := List.mem_flatMap.mpr ⟨ds, h, List.mem_map.mpr ⟨d, List.mem_range.mpr hd, rfl⟩⟩
theorem inD_mem {ds : List Nat} (hl : ds.length = 6) (h : inD 0 ds = true) : ds ∈ allD 5 := by
  cases ds with | nil => cases hl | cons a ds => cases ds with | nil => cases hl | cons b ds => cases ds with | nil => cases hl | cons c ds => cases ds with | nil => cases hl | cons d ds => cases ds with | nil => cases hl | cons e ds => cases ds with | nil => cases hl | cons f ds => cases ds with
  | cons g ds => cases hl
  | nil =>
    have h : (Nat.ble a 0 && (Nat.ble b (a + 1) && (Nat.ble c (b + 1) && (Nat.ble d (c + 1) && (Nat.ble e (d + 1) && (Nat.ble f (e + 1) && true)))))) = true := h
    simp only [Bool.and_eq_true, Nat.ble_eq] at h
    obtain ⟨h1, h2, h3, h4, h5, h6, _⟩ := h
    cases Nat.le_zero.mp h1
    have m0 : [0] ∈ allD 0 := .head _
    exact add_mem (add_mem (add_mem (add_mem (add_mem m0 (Nat.lt_succ_of_le h2)) (Nat.lt_succ_of_le h3)) (Nat.lt_succ_of_le h4)) (Nat.lt_succ_of_le h5)) (Nat.lt_succ_of_le h6)
noncomputable def okN (ds : List Nat) : Bool := match quR (nsB ds) with
  | some d2 => Nat.beq d2.length 6 && inD 0 d2 && decide (brs d2 = nsB ds)
  | none => false
theorem okD_all : (allD 5).all okD = true := by decide +kernel
theorem okN_all : (allD 5).all okN = true := by decide +kernel

theorem dataVs_ints : ∀ l : List Int, dataVs (l.map .int) = some (l.map .int)
  | [] => rfl
  | i :: r => by show (dataVs (r.map .int)).bind (fun ds => some (PyData.int i :: ds)) = _; rw [dataVs_ints r]; rfl
theorem lay_ints : ∀ l : List Int, PyData.canLayAll0 (l.map .int) = true
  | [] => rfl
  | i :: r => by rw [List.map_cons, PyData.canLayAll0, lay_ints r]; rfl
theorem depth_ints : ∀ l : List Int, PyData.depthAll (l.map .int) = 0
  | [] => rfl
  | i :: r => by rw [List.map_cons, PyData.depthAll, depth_ints r]; rfl
theorem eqvAll_ints : ∀ a b : List Int, PyData.eqvAll (a.map .int) (b.map .int) = (a == b)
  | [], [] => rfl
  | [], _ :: _ => rfl
  | _ :: _, [] => rfl
  | i :: r, j :: q => by rw [List.map_cons, List.map_cons, PyData.eqvAll, eqvAll_ints r q]; rfl
theorem eqV_norm (a b : List Int) (i j : Int) : eqV (.tup [.tup (a.map .int), .int i]) (.tup [.tup (b.map .int), .int j]) = some (a == b && i == j) := by
  show ((((dataVs (a.map .int)).map PyData.tuple).bind fun d => some [d, .int i]).map PyData.tuple).bind (fun d => ((((dataVs (b.map .int)).map PyData.tuple).bind fun d => some [d, .int j]).map PyData.tuple).bind fun e => if SeqAt.shaped d && SeqAt.shaped e then some (PyData.eqv d e) else none) = _
  rw [dataVs_ints, dataVs_ints]
  simp [SeqAt.shaped, PyData.canLay0, PyData.canLayAll0, lay_ints, PyData.depth, PyData.depthAll, depth_ints, PyData.eqv, PyData.eqvAll, eqvAll_ints]
theorem app_codes (a b : PySem.Str) : (a ++ b).cps.toList = a.cps.toList ++ b.cps.toList := Array.toList_append
theorem norm_ws (x : PySem.Str) (s : WS) : normI [(PySem.Str.ofString "raw", .str x), (PySem.Str.ofString "n", .int s.n), (PySem.Str.ofString "nt", .int s.nt), (PySem.Str.ofString "norm", .tup [.tup (s.count.map .int), .int s.b]), (PySem.Str.ofString "is_simple", .bool (decide ((s.count.length : Int) ≤ 1)))] = some (s.count, s.b) := by
  show (intsV (s.count.map V.int)).map _ = _
  rw [intsV_map]; rfl
theorem F69_ws (x : PySem.Str) (s : WS) (ts : Int) (h : okL s.count ts s.nt = true) : F69 [wsV x s, .int ts] [] = some (.int (s.b + ts * (ilOf s.count ts + s.nt))) := by
  show (if aWS = aWS then (normI _).bind _ else none) = _
  rw [if_pos rfl, norm_ws]
  show (if okL s.count ts s.nt = true then _ else none) = _
  rw [if_pos h]
theorem run_codes : ∀ h : Nat, h < 10 → (runN h).cps.toList = List.replicate h 32 ++ [9] := by decide +kernel
theorem ld_codes {hs : List Nat} (h9 : ∀ h ∈ hs, h ≤ 9) : (ldT hs).cps.toList = runC hs := by
  unfold ldT runC
  rw [show nilS = PySem.Str.ofString "" from rfl, join_codes, List.flatMap_map]
  exact flatMap_eq fun h m => run_codes h (Nat.lt_succ_of_le (h9 h m))
theorem ld_run {hs : List Nat} (h9 : ∀ h ∈ hs, h ≤ 9) : wsRun (ldT hs) = wsC hs := by
  unfold wsRun wsC
  rw [ld_codes h9]
theorem ld_ok {hs : List Nat} (h9 : ∀ h ∈ hs, h ≤ 9) (hz : (runC hs).length ≤ 400) : F100 [.str (ldT hs)] [] = some (ldV hs) := by
  have e := ld_codes h9
  have h1 : (ldT hs).cps.size ≤ 400 := by rw [← Array.length_toList, e]; exact hz
  have h2 : (ldT hs).cps.all (· < 1114112) = true := by
    rw [Array.all_eq_true']
    intro c m
    have m := Array.mem_toList_iff.mpr m
    rw [e] at m
    obtain ⟨h, _, m⟩ := List.mem_flatMap.mp m
    rcases List.mem_append.mp m with m | m
    · rw [(List.mem_replicate.mp m).2]; decide
    · rw [List.mem_singleton.mp m]; decide
  show (if (ldT hs).cps.size ≤ 400 ∧ (ldT hs).cps.all (· < 1114112) = true then some (wsV (ldT hs) (wsRun (ldT hs))) else none) = _
  rw [if_pos ⟨h1, h2⟩]; rfl
structure NumOk (ds : List Nat) : Prop where
  a1 : ds.length = 6
  a2 : ∀ d ∈ ds, d < 6
  a3 : (brs ds).length = 12
  a4 : parI 0 (brs ds) = true
  a5 : (hts ds).length ≤ 100
  a6 : ∀ h ∈ hts ds, h ≤ 9
  a7 : ((List.range (brs ds).length).filter fun k => (brs ds).getD k false).map (hgt (brs ds)) = (hts ds).map fun (h : Nat) => (h : Int)
  a8 : (runC ds).length ≤ 400
  a9 : (runC (hts ds)).length ≤ 400
  b1 : (wsC ds).count = wvR (brs ds)
  b2 : (wsC ds).b = 0
  b3 : okL (wsC (hts ds)).count 1 (wsC (hts ds)).nt = true
  b4 : okL (wsC (hts ds)).count 2 (wsC (hts ds)).nt = true
  b5 : (wsC (hts ds)).b + 1 * (ilOf (wsC (hts ds)).count 1 + (wsC (hts ds)).nt) = 6 + ((prL ds).length : Int)
  b6 : (wsC (hts ds)).b + 2 * (ilOf (wsC (hts ds)).count 2 + (wsC (hts ds)).nt) = ((hts ds).map fun (h : Nat) => 2 + (h : Int).fdiv 2 * 2).sum
  b7 : quR (brs ds) = some ds
theorem num_ok {ds : List Nat} (h : ds ∈ allD 5) : NumOk ds := by
  have h := List.all_eq_true.mp okD_all ds h
  unfold okD at h
  simp only [Bool.and_eq_true, decide_eq_true_eq] at h
  obtain ⟨⟨⟨⟨⟨⟨⟨⟨⟨⟨⟨⟨⟨⟨h1, h2⟩, h3⟩, h4⟩, h5⟩, h6⟩, h8⟩, h9⟩, i1⟩, i2⟩, i3⟩, i4⟩, i5⟩, i6⟩, i7⟩ := h
  have h6' : ∀ h ∈ hgo 0 (brs ds), 0 ≤ h ∧ h ≤ 9 := fun d m => by
    have := List.all_eq_true.mp h6 d m
    rwa [Bool.and_eq_true, decide_eq_true_eq, decide_eq_true_eq] at this
  exact ⟨h1, fun d m => of_decide_eq_true (List.all_eq_true.mp h2 d m), h3, h4, by unfold hts; rw [List.length_map]; exact h5, fun d m => by
    obtain ⟨i, m', rfl⟩ := List.mem_map.mp m
    have := h6' i m'
    omega, by
    rw [hgt_all]
    unfold hts
    rw [List.map_map]
    exact ((List.map_congr_left fun i m => Int.toNat_of_nonneg (h6' i m).1).trans (List.map_id _)).symm, h8, h9, i1, i2, i3, i4, i5, i6, i7⟩
theorem good_ok {ds : List Nat} {dr : List PySem.Str} (ok : txOk ds dr) (N : NumOk ds) : Good ds dr (brs ds) (hts ds) := by
  have e := txt_codes ok
  have hd := pl_mem ok
  have hl : (pl ds dr).length = 12 := by rw [← N.a3, ← pl_brs ok.1 dr, List.length_map]
  obtain ⟨p1, p2⟩ := F125q_pcs hd e (by rw [hl]; decide)
  rw [pl_brs ok.1] at p1 p2
  have hd9 : ∀ d ∈ ds, d ≤ 9 := fun d m => by have := N.a2 d m; omega
  have r1 := ld_run hd9
  have r2 := ld_run N.a6
  have hz := pcs_size _ hd
  have hd2 : ∀ p ∈ pl ds dr ++ [([], false), ([], true), ([], true), ([], false)], p.1 ∈ dressD := fun p m => by
    rcases List.mem_append.mp m with m | m
    · exact hd p m
    · exact (by decide : ∀ p ∈ [(([] : List Nat), false), ([], true), ([], true), ([], false)], p.1 ∈ dressD) p m
  have e2 : (txtOf ds dr ++ PySem.Str.ofString ")(()").cps.toList = pcs (pl ds dr ++ [([], false), ([], true), ([], true), ([], false)]) := by
    rw [app_codes, e, show (PySem.Str.ofString ")(()").cps.toList = pcs [([], false), ([], true), ([], true), ([], false)] by decide +kernel]
    unfold pcs
    rw [List.flatMap_append]
  have q2 := (F125q_pcs hd2 e2 (by rw [List.length_append, hl]; decide)).1
  rw [List.map_append, pl_brs ok.1, show ([(([] : List Nat), false), ([], true), ([], true), ([], false)].map (·.2)) = false :: [true, true, false] from rfl, parI_cut _ _ _ N.a4] at q2
  refine ⟨by rw [N.a3]; decide, ?_, by rw [p1, N.a4], q2, p2, N.a5, N.a6, hd9, N.a7, ld_ok hd9 N.a8, ld_ok N.a6 N.a9, ?_, ?_, ?_, N.b7⟩
  · show (txtOf ds dr).cps.size ≤ 1000
    rw [← Array.length_toList, e]; omega
  · rw [eqV_norm, r1, N.b1, N.b2, beq_self_eq_true]; rfl
  · unfold ldV
    rw [r2, F69_ws _ _ _ N.b3, N.b5]
  · unfold ldV
    rw [r2, F69_ws _ _ _ N.b4, N.b6]
theorem tx_ok {ds : List Nat} (N : NumOk ds) (script : List Int) : txOk ds (dre script) := ⟨N.a1, dre_len script, N.a2, dre_mem script⟩
theorem lawOk2 (script : List Int) : LawOk2 solQ script := by
  have m := dep_mem script
  have N := num_ok m
  have h := List.all_eq_true.mp okN_all _ m
  unfold okN at h
  refine ⟨⟨tx_ok N script, good_ok (tx_ok N script) N, fun z => ?_⟩, ?_⟩
  · have := N.a3
    rw [show brs (dep script) = [] from z] at this
    cases this
  · cases q : quR (nsB (dep script)) with
    | none => rw [q] at h; cases h
    | some d2 =>
      rw [q] at h
      simp only [Bool.and_eq_true, decide_eq_true_eq] at h
      have N2 := num_ok (inD_mem (Nat.eq_of_beq_eq_true h.1.1) h.1.2)
      exact ⟨d2, rfl, tx_ok N2 script, good_ok (tx_ok N2 script) N2, h.2⟩

end Mini
theorem Mini.hd.tw10082841032642108391 : True := trivial
theorem Mini.hd.tw10100878134498708831 : True := trivial
theorem Mini.hd.tw10111900834359793928 : True := trivial
theorem Mini.hd.tw10169782013717605774 : True := trivial
theorem Mini.hd.tw10190059030092356978 : True := trivial
theorem Mini.hd.tw10228177578508484926 : True := trivial
theorem Mini.hd.tw10243037027271582929 : True := trivial
theorem Mini.hd.tw10417268734754024728 : True := trivial
theorem Mini.hd.tw10428985827854264239 : True := trivial
theorem Mini.hd.tw10504386516077237425 : True := trivial
theorem Mini.hd.tw10544566149843729846 : True := trivial
theorem Mini.hd.tw10575341858409228088 : True := trivial
theorem Mini.hd.tw1060079992948641813 : True := trivial
theorem Mini.hd.tw10609568446336237545 : True := trivial
theorem Mini.hd.tw10621725186542895929 : True := trivial
theorem Mini.hd.tw10682716211149666194 : True := trivial
theorem Mini.hd.tw10707804958991618142 : True := trivial
theorem Mini.hd.tw1071722827302192567 : True := trivial
theorem Mini.hd.tw10729071563282169442 : True := trivial
theorem Mini.hd.tw1075320053137236901 : True := trivial
theorem Mini.hd.tw10831335322989027779 : True := trivial
theorem Mini.hd.tw10836456034428898017 : True := trivial
theorem Mini.hd.tw10836647151088447270 : True := trivial
theorem Mini.hd.tw10850393567174152722 : True := trivial
theorem Mini.hd.tw10886626896130879622 : True := trivial
theorem Mini.hd.tw10933215487780108740 : True := trivial
theorem Mini.hd.tw10957150550676713572 : True := trivial
theorem Mini.hd.tw10968737113006814775 : True := trivial
theorem Mini.hd.tw1098266038903082924 : True := trivial
theorem Mini.hd.tw10995512948860883746 : True := trivial
theorem Mini.hd.tw11029294030257032707 : True := trivial
theorem Mini.hd.tw11146309944753182490 : True := trivial
theorem Mini.hd.tw11164506337935870279 : True := trivial
theorem Mini.hd.tw11183791985147925455 : True := trivial
theorem Mini.hd.tw11222737624302455352 : True := trivial
theorem Mini.hd.tw11233081036279226899 : True := trivial
theorem Mini.hd.tw11258001909707061792 : True := trivial
theorem Mini.hd.tw11314163909619403462 : True := trivial
theorem Mini.hd.tw11315620044976185831 : True := trivial
theorem Mini.hd.tw11321435140862038291 : True := trivial
theorem Mini.hd.tw11353596006253964247 : True := trivial
theorem Mini.hd.tw11412101859203959846 : True := trivial
theorem Mini.hd.tw11424757138594347486 : True := trivial
theorem Mini.hd.tw11503937740301316019 : True := trivial
theorem Mini.hd.tw11507400333821045694 : True := trivial
theorem Mini.hd.tw11532543965907052336 : True := trivial
theorem Mini.hd.tw11561186425409916609 : True := trivial
theorem Mini.hd.tw11648895481338717747 : True := trivial
theorem Mini.hd.tw11681954369570030891 : True := trivial
theorem Mini.hd.tw11705408767155059374 : True := trivial
theorem Mini.hd.tw11728681783170893374 : True := trivial
theorem Mini.hd.tw11729492543888632768 : True := trivial
theorem Mini.hd.tw11781319622666066982 : True := trivial
theorem Mini.hd.tw11897268641319515647 : True := trivial
theorem Mini.hd.tw11922245047609434346 : True := trivial
theorem Mini.hd.tw12032716684405929707 : True := trivial
theorem Mini.hd.tw12087489549975000422 : True := trivial
theorem Mini.hd.tw1212234821967983526 : True := trivial
theorem Mini.hd.tw1215490475127330043 : True := trivial
theorem Mini.hd.tw12186526581467823851 : True := trivial
theorem Mini.hd.tw12218636808415221287 : True := trivial
theorem Mini.hd.tw12236534427568524534 : True := trivial
theorem Mini.hd.tw12404448370802572530 : True := trivial
theorem Mini.hd.tw12411279831412340233 : True := trivial
theorem Mini.hd.tw12441077887565415387 : True := trivial
theorem Mini.hd.tw12453567266637159243 : True := trivial
theorem Mini.hd.tw12541292899908097845 : True := trivial
theorem Mini.hd.tw12602892102959432610 : True := trivial
theorem Mini.hd.tw12730191141359281336 : True := trivial
theorem Mini.hd.tw12735230558526260544 : True := trivial
theorem Mini.hd.tw12787817567163277885 : True := trivial
theorem Mini.hd.tw12852432122288584477 : True := trivial
theorem Mini.hd.tw12942224740971257220 : True := trivial
theorem Mini.hd.tw1316673065681248428 : True := trivial
theorem Mini.hd.tw13225917528227880701 : True := trivial
theorem Mini.hd.tw13242917518180461812 : True := trivial
theorem Mini.hd.tw13257784807463768950 : True := trivial
theorem Mini.hd.tw13313266823641499235 : True := trivial
theorem Mini.hd.tw13346914494821653975 : True := trivial
theorem Mini.hd.tw13362188014222517803 : True := trivial
theorem Mini.hd.tw13372669491313035652 : True := trivial
theorem Mini.hd.tw1346671034814614868 : True := trivial
theorem Mini.hd.tw1347766662250454049 : True := trivial
theorem Mini.hd.tw13527843301513704244 : True := trivial
theorem Mini.hd.tw13557513399990449357 : True := trivial
theorem Mini.hd.tw13559960863157563234 : True := trivial
theorem Mini.hd.tw1358272572467314681 : True := trivial
theorem Mini.hd.tw1358596754365479811 : True := trivial
theorem Mini.hd.tw13645360063868609181 : True := trivial
theorem Mini.hd.tw13803006001142556240 : True := trivial
theorem Mini.hd.tw13805721598201997917 : True := trivial
theorem Mini.hd.tw13827265842251824857 : True := trivial
theorem Mini.hd.tw13855966982592599765 : True := trivial
theorem Mini.hd.tw13930117233098577968 : True := trivial
theorem Mini.hd.tw13938789405206117018 : True := trivial
theorem Mini.hd.tw14012549212760104382 : True := trivial
theorem Mini.hd.tw14029916377944914450 : True := trivial
theorem Mini.hd.tw14057311767249268892 : True := trivial
theorem Mini.hd.tw14153190398095191637 : True := trivial
theorem Mini.hd.tw14159970781809795890 : True := trivial
theorem Mini.hd.tw14161880208081716924 : True := trivial
theorem Mini.hd.tw14231304627896215175 : True := trivial
theorem Mini.hd.tw14261099720382213369 : True := trivial
theorem Mini.hd.tw14267857973293142891 : True := trivial
theorem Mini.hd.tw14309608620259417647 : True := trivial
theorem Mini.hd.tw14313142573707871793 : True := trivial
theorem Mini.hd.tw14360690999539540169 : True := trivial
theorem Mini.hd.tw14366848952063371885 : True := trivial
theorem Mini.hd.tw14383494189487701124 : True := trivial
theorem Mini.hd.tw14415012067888307834 : True := trivial
theorem Mini.hd.tw14465031279474656762 : True := trivial
theorem Mini.hd.tw14468083172333196769 : True := trivial
theorem Mini.hd.tw14544444952967615339 : True := trivial
theorem Mini.hd.tw1456021783484411222 : True := trivial
theorem Mini.hd.tw14620704152457912299 : True := trivial
theorem Mini.hd.tw14734043444424131710 : True := trivial
theorem Mini.hd.tw14747618155979620677 : True := trivial
theorem Mini.hd.tw14807375703334489353 : True := trivial
theorem Mini.hd.tw14821470551227818523 : True := trivial
theorem Mini.hd.tw14856957972799826190 : True := trivial
theorem Mini.hd.tw14859820060968482231 : True := trivial
theorem Mini.hd.tw14893010899875320254 : True := trivial
theorem Mini.hd.tw14899774127889792799 : True := trivial
theorem Mini.hd.tw14910687367843171987 : True := trivial
theorem Mini.hd.tw14921354726357336336 : True := trivial
theorem Mini.hd.tw14978930345487825046 : True := trivial
theorem Mini.hd.tw15006363293493601797 : True := trivial
theorem Mini.hd.tw15023190412310174518 : True := trivial
theorem Mini.hd.tw15027328145555716584 : True := trivial
theorem Mini.hd.tw15028178185629114703 : True := trivial
theorem Mini.hd.tw15070157733971712937 : True := trivial
theorem Mini.hd.tw15165350474236453530 : True := trivial
theorem Mini.hd.tw15215400183874418702 : True := trivial
theorem Mini.hd.tw15290438965602523187 : True := trivial
theorem Mini.hd.tw1531870164286729639 : True := trivial
theorem Mini.hd.tw15323016358952378171 : True := trivial
theorem Mini.hd.tw15342010993790176331 : True := trivial
theorem Mini.hd.tw15383198658090466258 : True := trivial
theorem Mini.hd.tw1539449827232270242 : True := trivial
theorem Mini.hd.tw15401275518511996183 : True := trivial
theorem Mini.hd.tw15464535501315902017 : True := trivial
theorem Mini.hd.tw15521095654664231579 : True := trivial
theorem Mini.hd.tw15546955651899134976 : True := trivial
theorem Mini.hd.tw15573339436502084510 : True := trivial
theorem Mini.hd.tw15614269873045205783 : True := trivial
theorem Mini.hd.tw15661670891935395299 : True := trivial
theorem Mini.hd.tw1568939455839576785 : True := trivial
theorem Mini.hd.tw15755104038188407765 : True := trivial
theorem Mini.hd.tw15806709181115308708 : True := trivial
theorem Mini.hd.tw15819847712801993653 : True := trivial
theorem Mini.hd.tw1583246715904885326 : True := trivial
theorem Mini.hd.tw15835104045715740135 : True := trivial
theorem Mini.hd.tw1586171608459633131 : True := trivial
theorem Mini.hd.tw15891448804096475936 : True := trivial
theorem Mini.hd.tw15914218785838710166 : True := trivial
theorem Mini.hd.tw15929358149126756744 : True := trivial
theorem Mini.hd.tw16056536440046221766 : True := trivial
theorem Mini.hd.tw16125672347474351616 : True := trivial
theorem Mini.hd.tw16304390702717642367 : True := trivial
theorem Mini.hd.tw16308423428950748538 : True := trivial
theorem Mini.hd.tw16319149405679142330 : True := trivial
theorem Mini.hd.tw16353249586475706311 : True := trivial
theorem Mini.hd.tw16430736707174317764 : True := trivial
theorem Mini.hd.tw16458264279645306249 : True := trivial
theorem Mini.hd.tw16469937009759983193 : True := trivial
theorem Mini.hd.tw16542970001112498842 : True := trivial
theorem Mini.hd.tw16551372235696884563 : True := trivial
theorem Mini.hd.tw16572662158764883338 : True := trivial
theorem Mini.hd.tw16616153075213441567 : True := trivial
theorem Mini.hd.tw16649588993712884835 : True := trivial
theorem Mini.hd.tw16651680657872740031 : True := trivial
theorem Mini.hd.tw16657344973420393426 : True := trivial
theorem Mini.hd.tw16676474481849074613 : True := trivial
theorem Mini.hd.tw16684682003566314792 : True := trivial
theorem Mini.hd.tw16696372394023118733 : True := trivial
theorem Mini.hd.tw16714285352921924256 : True := trivial
theorem Mini.hd.tw16746131301087269142 : True := trivial
theorem Mini.hd.tw16770461019812998222 : True := trivial
theorem Mini.hd.tw16840182903562753390 : True := trivial
theorem Mini.hd.tw16905835669122931644 : True := trivial
theorem Mini.hd.tw16994006420651350810 : True := trivial
theorem Mini.hd.tw17154556595119443078 : True := trivial
theorem Mini.hd.tw17163034251312388159 : True := trivial
theorem Mini.hd.tw17168405791052079216 : True := trivial
theorem Mini.hd.tw1720673785193681657 : True := trivial
theorem Mini.hd.tw17215482367683559844 : True := trivial
theorem Mini.hd.tw17473977404383866656 : True := trivial
theorem Mini.hd.tw17624101176848576576 : True := trivial
theorem Mini.hd.tw17699214342236391201 : True := trivial
theorem Mini.hd.tw1773498026766871418 : True := trivial
theorem Mini.hd.tw17752838108555238793 : True := trivial
theorem Mini.hd.tw17862526656943853788 : True := trivial
theorem Mini.hd.tw17868508100923150846 : True := trivial
theorem Mini.hd.tw17872548021901507603 : True := trivial
theorem Mini.hd.tw17910231221220132435 : True := trivial
theorem Mini.hd.tw17948243529504628347 : True := trivial
theorem Mini.hd.tw17986004487247191 : True := trivial
theorem Mini.hd.tw18072657312308620358 : True := trivial
theorem Mini.hd.tw18095120981642594348 : True := trivial
theorem Mini.hd.tw18095907331169659552 : True := trivial
theorem Mini.hd.tw18109806078727623279 : True := trivial
theorem Mini.hd.tw18111648798027268482 : True := trivial
theorem Mini.hd.tw18116093763938689468 : True := trivial
theorem Mini.hd.tw18158778407123960597 : True := trivial
theorem Mini.hd.tw18196324726093303321 : True := trivial
theorem Mini.hd.tw1820026306619079359 : True := trivial
theorem Mini.hd.tw18204773427560611240 : True := trivial
theorem Mini.hd.tw18224927716115212549 : True := trivial
theorem Mini.hd.tw18225964933284629815 : True := trivial
theorem Mini.hd.tw18273810767957153813 : True := trivial
theorem Mini.hd.tw18277348244250070414 : True := trivial
theorem Mini.hd.tw18281856090990837498 : True := trivial
theorem Mini.hd.tw18283716402152324030 : True := trivial
theorem Mini.hd.tw18296455457387480698 : True := trivial
theorem Mini.hd.tw18347921935545307735 : True := trivial
theorem Mini.hd.tw187516277958829163 : True := trivial
theorem Mini.hd.tw1971611888202836339 : True := trivial
theorem Mini.hd.tw2150753089564819086 : True := trivial
theorem Mini.hd.tw2253637348647524971 : True := trivial
theorem Mini.hd.tw2324671842201880456 : True := trivial
theorem Mini.hd.tw240614238919600493 : True := trivial
theorem Mini.hd.tw2471044026541385675 : True := trivial
theorem Mini.hd.tw2493864296761979716 : True := trivial
theorem Mini.hd.tw2525505062594715287 : True := trivial
theorem Mini.hd.tw2540060853069195186 : True := trivial
theorem Mini.hd.tw2548922619561005794 : True := trivial
theorem Mini.hd.tw2550483491463284239 : True := trivial
theorem Mini.hd.tw2571851202017082703 : True := trivial
theorem Mini.hd.tw2595760803847616738 : True := trivial
theorem Mini.hd.tw2608248151765578209 : True := trivial
theorem Mini.hd.tw2620128208001159678 : True := trivial
theorem Mini.hd.tw262867552067007249 : True := trivial
theorem Mini.hd.tw2667490732482539439 : True := trivial
theorem Mini.hd.tw2720407161650905023 : True := trivial
theorem Mini.hd.tw2732557186885390312 : True := trivial
theorem Mini.hd.tw2752476025648912288 : True := trivial
theorem Mini.hd.tw2764394225424748768 : True := trivial
theorem Mini.hd.tw281051998746608322 : True := trivial
theorem Mini.hd.tw282449526532043245 : True := trivial
theorem Mini.hd.tw2881774382654490327 : True := trivial
theorem Mini.hd.tw2903671421889467621 : True := trivial
theorem Mini.hd.tw2904217924502842207 : True := trivial
theorem Mini.hd.tw292892417596599864 : True := trivial
theorem Mini.hd.tw2937223536833440086 : True := trivial
theorem Mini.hd.tw30534514107570951 : True := trivial
theorem Mini.hd.tw3057970516547567367 : True := trivial
theorem Mini.hd.tw3082564200802751684 : True := trivial
theorem Mini.hd.tw3117154957729700494 : True := trivial
theorem Mini.hd.tw3158268710337851337 : True := trivial
theorem Mini.hd.tw3161589657253152352 : True := trivial
theorem Mini.hd.tw3220719815213814209 : True := trivial
theorem Mini.hd.tw3246089274052261629 : True := trivial
theorem Mini.hd.tw3276817470879169897 : True := trivial
theorem Mini.hd.tw3325068729171716994 : True := trivial
theorem Mini.hd.tw337143672471280870 : True := trivial
theorem Mini.hd.tw3410385994621306702 : True := trivial
theorem Mini.hd.tw3458723588839693988 : True := trivial
theorem Mini.hd.tw3474535021808996240 : True := trivial
theorem Mini.hd.tw3487483042411699600 : True := trivial
theorem Mini.hd.tw3514996768774191819 : True := trivial
theorem Mini.hd.tw3571410870592761359 : True := trivial
theorem Mini.hd.tw3746268645782574927 : True := trivial
theorem Mini.hd.tw3782174734208393693 : True := trivial
theorem Mini.hd.tw3788927100769729324 : True := trivial
theorem Mini.hd.tw3862252952640943099 : True := trivial
theorem Mini.hd.tw3901507094233897500 : True := trivial
theorem Mini.hd.tw4071373976474773964 : True := trivial
theorem Mini.hd.tw4137163188371155199 : True := trivial
theorem Mini.hd.tw4157298765272951217 : True := trivial
theorem Mini.hd.tw4215632433226210325 : True := trivial
theorem Mini.hd.tw4225730571565265454 : True := trivial
theorem Mini.hd.tw4264919182574431313 : True := trivial
theorem Mini.hd.tw4280758979788852603 : True := trivial
theorem Mini.hd.tw4285530318508281772 : True := trivial
theorem Mini.hd.tw4295200985517158269 : True := trivial
theorem Mini.hd.tw4312948844680584706 : True := trivial
theorem Mini.hd.tw4371312443110694985 : True := trivial
theorem Mini.hd.tw4468864060657258972 : True := trivial
theorem Mini.hd.tw4470283768697720122 : True := trivial
theorem Mini.hd.tw4473554959199340080 : True := trivial
theorem Mini.hd.tw4487576265042946087 : True := trivial
theorem Mini.hd.tw4595468548488466745 : True := trivial
theorem Mini.hd.tw4630395663861636478 : True := trivial
theorem Mini.hd.tw4707734156828964957 : True := trivial
theorem Mini.hd.tw47192504139987425 : True := trivial
theorem Mini.hd.tw4772930796644783050 : True := trivial
theorem Mini.hd.tw4839114588753854370 : True := trivial
theorem Mini.hd.tw4871481023110267456 : True := trivial
theorem Mini.hd.tw4942184481177630311 : True := trivial
theorem Mini.hd.tw4994967795538180225 : True := trivial
theorem Mini.hd.tw5033241109046815897 : True := trivial
theorem Mini.hd.tw5035450726731054671 : True := trivial
theorem Mini.hd.tw5141205340950563990 : True := trivial
theorem Mini.hd.tw5226786838912664261 : True := trivial
theorem Mini.hd.tw5237757895965107899 : True := trivial
theorem Mini.hd.tw5313434038150759540 : True := trivial
theorem Mini.hd.tw5333449296007867239 : True := trivial
theorem Mini.hd.tw5335318125975470910 : True := trivial
theorem Mini.hd.tw5360007510200589828 : True := trivial
theorem Mini.hd.tw540459850451533171 : True := trivial
theorem Mini.hd.tw5414004836899393661 : True := trivial
theorem Mini.hd.tw5449025559134711722 : True := trivial
theorem Mini.hd.tw5535837544531453576 : True := trivial
theorem Mini.hd.tw5554893753050520951 : True := trivial
theorem Mini.hd.tw5585391188666213915 : True := trivial
theorem Mini.hd.tw5589949775084081503 : True := trivial
theorem Mini.hd.tw5735510282526632496 : True := trivial
theorem Mini.hd.tw5913140103004838767 : True := trivial
theorem Mini.hd.tw5934050014420712921 : True := trivial
theorem Mini.hd.tw5965719927548044387 : True := trivial
theorem Mini.hd.tw598817331566612433 : True := trivial
theorem Mini.hd.tw599784468170555781 : True := trivial
theorem Mini.hd.tw6077033338906705558 : True := trivial
theorem Mini.hd.tw6078386520768525915 : True := trivial
theorem Mini.hd.tw614264051779104933 : True := trivial
theorem Mini.hd.tw6191588985991620137 : True := trivial
theorem Mini.hd.tw6362448206222793996 : True := trivial
theorem Mini.hd.tw6380987529730105677 : True := trivial
theorem Mini.hd.tw6392351729371194808 : True := trivial
theorem Mini.hd.tw6458689460391448115 : True := trivial
theorem Mini.hd.tw6460670923267583517 : True := trivial
theorem Mini.hd.tw6520374141154256049 : True := trivial
theorem Mini.hd.tw6531961278754037107 : True := trivial
theorem Mini.hd.tw6537681448728801116 : True := trivial
theorem Mini.hd.tw6623825011469861116 : True := trivial
theorem Mini.hd.tw6642908589151918520 : True := trivial
theorem Mini.hd.tw6733910662871719912 : True := trivial
theorem Mini.hd.tw6749433882734257938 : True := trivial
theorem Mini.hd.tw6758773471835385118 : True := trivial
theorem Mini.hd.tw6772152798514981980 : True := trivial
theorem Mini.hd.tw6786794539891496553 : True := trivial
theorem Mini.hd.tw682855519219081284 : True := trivial
theorem Mini.hd.tw687853883816744337 : True := trivial
theorem Mini.hd.tw6885118575034483028 : True := trivial
theorem Mini.hd.tw6885507234241978274 : True := trivial
theorem Mini.hd.tw6992051792445030018 : True := trivial
theorem Mini.hd.tw7006394381460391176 : True := trivial
theorem Mini.hd.tw7084197838475853972 : True := trivial
theorem Mini.hd.tw7131359141704803362 : True := trivial
theorem Mini.hd.tw7263810772980682292 : True := trivial
theorem Mini.hd.tw7274287421929161817 : True := trivial
theorem Mini.hd.tw7330973296509945874 : True := trivial
theorem Mini.hd.tw740030775523203534 : True := trivial
theorem Mini.hd.tw7417169872243275250 : True := trivial
theorem Mini.hd.tw7470058992923921261 : True := trivial
theorem Mini.hd.tw7590785973610246205 : True := trivial
theorem Mini.hd.tw7599417899344152950 : True := trivial
theorem Mini.hd.tw763317422572605476 : True := trivial
theorem Mini.hd.tw7641127941955874178 : True := trivial
theorem Mini.hd.tw7642474719895662076 : True := trivial
theorem Mini.hd.tw7699910029759234348 : True := trivial
theorem Mini.hd.tw7803453314951699344 : True := trivial
theorem Mini.hd.tw7821546968170716627 : True := trivial
theorem Mini.hd.tw7852972331160340141 : True := trivial
theorem Mini.hd.tw7944606647664485489 : True := trivial
theorem Mini.hd.tw7956165388026527143 : True := trivial
theorem Mini.hd.tw797127171316916821 : True := trivial
theorem Mini.hd.tw7973416733751921582 : True := trivial
theorem Mini.hd.tw8042390547900665060 : True := trivial
theorem Mini.hd.tw8071636573942513997 : True := trivial
theorem Mini.hd.tw8152563329855560109 : True := trivial
theorem Mini.hd.tw816924335946460690 : True := trivial
theorem Mini.hd.tw8209801770861729973 : True := trivial
theorem Mini.hd.tw8305119393048935016 : True := trivial
theorem Mini.hd.tw8313049392594805724 : True := trivial
theorem Mini.hd.tw8476879450269044016 : True := trivial
theorem Mini.hd.tw8484665467354527168 : True := trivial
theorem Mini.hd.tw8495902787572364617 : True := trivial
theorem Mini.hd.tw8525072921492847866 : True := trivial
theorem Mini.hd.tw8577660131050953370 : True := trivial
theorem Mini.hd.tw8581915462133708811 : True := trivial
theorem Mini.hd.tw8582564248585664798 : True := trivial
theorem Mini.hd.tw862480225301197909 : True := trivial
theorem Mini.hd.tw863373935265166969 : True := trivial
theorem Mini.hd.tw8646391717803010237 : True := trivial
theorem Mini.hd.tw8681002419457757006 : True := trivial
theorem Mini.hd.tw8778817097322832659 : True := trivial
theorem Mini.hd.tw8806403601096197976 : True := trivial
theorem Mini.hd.tw8829204960163430438 : True := trivial
theorem Mini.hd.tw8836235851088775007 : True := trivial
theorem Mini.hd.tw8852402194801412267 : True := trivial
theorem Mini.hd.tw885868718997871501 : True := trivial
theorem Mini.hd.tw8926027120848741164 : True := trivial
theorem Mini.hd.tw8931460785765803958 : True := trivial
theorem Mini.hd.tw8971746081599678797 : True := trivial
theorem Mini.hd.tw8979431111850640070 : True := trivial
theorem Mini.hd.tw8997810375440088444 : True := trivial
theorem Mini.hd.tw900822139512253098 : True := trivial
theorem Mini.hd.tw9014190273950413160 : True := trivial
theorem Mini.hd.tw9018713308954660385 : True := trivial
theorem Mini.hd.tw9030066213705927808 : True := trivial
theorem Mini.hd.tw9044056076670402806 : True := trivial
theorem Mini.hd.tw9062696688531533434 : True := trivial
theorem Mini.hd.tw9065627631406198061 : True := trivial
theorem Mini.hd.tw9101796800340641113 : True := trivial
theorem Mini.hd.tw9116795368461372840 : True := trivial
theorem Mini.hd.tw9117456545058095140 : True := trivial
theorem Mini.hd.tw9249183237094270812 : True := trivial
theorem Mini.hd.tw9265900755515442934 : True := trivial
theorem Mini.hd.tw9276320537299630423 : True := trivial
theorem Mini.hd.tw9288849058800856428 : True := trivial
theorem Mini.hd.tw9321251670183246839 : True := trivial
theorem Mini.hd.tw9323626252146244535 : True := trivial
theorem Mini.hd.tw9368682783594058788 : True := trivial
theorem Mini.hd.tw939298425493049279 : True := trivial
theorem Mini.hd.tw9433503517263274982 : True := trivial
theorem Mini.hd.tw9502149205897339611 : True := trivial
theorem Mini.hd.tw9533881235894942018 : True := trivial
theorem Mini.hd.tw957197302352629704 : True := trivial
theorem Mini.hd.tw9625276303502663888 : True := trivial
theorem Mini.hd.tw9630195052090803063 : True := trivial
theorem Mini.hd.tw9692153329597003906 : True := trivial
theorem Mini.hd.tw9721353779443232622 : True := trivial
theorem Mini.hd.tw9726312165135754120 : True := trivial
theorem Mini.hd.tw9749611029309858989 : True := trivial
theorem Mini.hd.tw981789777007753230 : True := trivial
theorem Mini.hd.tw9914628723349170738 : True := trivial
theorem Mini.hd.tw9983811813343531919 : True := trivial
set_option Elab.async true
set_option maxHeartbeats 8000000
theorem Mini.hd : PySem.Challenge.rw_sr0084_02.Holds := by
  w_on
  o_law
  k_head
  case hw => w_witness2
  k_fill
  intro w s₀ s₁ mg mb G Y fa o pm cd doc dV kV ho hd hcd hD hmg hg args vals as hpre hlay hrd hwl hlo
  have KX := kIn_of Y
  have X := (Ground.X G).1
  have V := (Ground.X G).2
  refine Ground.open G ?_
  intro T B D TE TW
  wrow_args hpre hlay hrd hwl hlo
  rename_i W _ _ _ hc _
  refine Mini.law_end (K := _) (sol := Mini.solQ) KX T.nolimit T.g T.b T.builtins ⟨by kernel_rfl, by kernel_rfl, by kernel_rfl, by kernel_rfl, by kernel_rfl⟩ (Td := 69) ?H hmg W (by omega) (Mini.lawOk2 _) fun s' x => ?_
  case H => exact {
    f55 := .of rfl (by kernel_rfl) (by kernel_rfl) (by kernel_rfl) (by kernel_rfl) (by kernel_rfl)
    f69 := .of rfl (by kernel_rfl) (by kernel_rfl) (by kernel_rfl) (by kernel_rfl) (by kernel_rfl)
    f111 := .of rfl (by kernel_rfl) (by kernel_rfl) (by kernel_rfl) (by kernel_rfl) (by kernel_rfl)
    f118 := .of rfl (by kernel_rfl) (by kernel_rfl) (by kernel_rfl) (by kernel_rfl) (by kernel_rfl)
    f125 := .of rfl (by kernel_rfl) (by kernel_rfl) (by kernel_rfl) (by kernel_rfl) (by kernel_rfl)
    f163 := .of rfl (by kernel_rfl) (by kernel_rfl) (by kernel_rfl) (by kernel_rfl) (by kernel_rfl)
    f170 := .of rfl (by kernel_rfl) (by kernel_rfl) (by kernel_rfl) (by kernel_rfl) (by kernel_rfl)
    f208 := .of rfl (by kernel_rfl) (by kernel_rfl) (by kernel_rfl) (by kernel_rfl) (by kernel_rfl)
    f268 := .of rfl (by kernel_rfl) (by kernel_rfl) (by kernel_rfl) (by kernel_rfl) (by kernel_rfl)
    f278 := .of rfl (by kernel_rfl) (by kernel_rfl) (by kernel_rfl) (by kernel_rfl) (by kernel_rfl)
    f283 := .of rfl (by kernel_rfl) (by kernel_rfl) (by kernel_rfl) (by kernel_rfl) (by kernel_rfl)
    f290 := .of rfl (by kernel_rfl) (by kernel_rfl) (by kernel_rfl) (by kernel_rfl) (by kernel_rfl)
    f295 := .of rfl (by kernel_rfl) (by kernel_rfl) (by kernel_rfl) (by kernel_rfl) (by kernel_rfl)
    f300 := .of rfl (by kernel_rfl) (by kernel_rfl) (by kernel_rfl) (by kernel_rfl) (by kernel_rfl)
    ws := ⟨by kernel_rfl, by kernel_rfl, by kernel_rfl, by kernel_rfl⟩
    hd := ⟨by kernel_rfl, by kernel_rfl, by kernel_rfl, by kernel_rfl⟩
    D := ⟨_, _, rfl, rfl⟩
    p1 := ⟨_, .mk rfl (fun _ => rfl) (fun _ => rfl) (fun _ => rfl) rfl rfl, by decide +kernel⟩
    p2 := ⟨_, .mk rfl (fun _ => rfl) (fun _ => rfl) (fun _ => rfl) rfl rfl, by decide +kernel⟩
    pm := ⟨_, .mk rfl (fun _ => rfl) (fun _ => rfl) (fun _ => rfl) rfl rfl, by decide +kernel⟩
    m1 := by kernel_rfl }
  refine ⟨.inl ⟨.bool true, .bool true, [], rfl, ?h1, ?h2, ?h3, ?h4⟩, .of_keep x.keep, x.os, x.bare (.of_eq hg)⟩
  case h1 => exact raisesW_false (by wrow_none_raised)
  case h2 => exact .bool true
  case h4 => exact fun _ => ⟨.nil, by nofun⟩
  case h3 => kernel_rfl
theorem PySem.Challenge.cw_sr0084_02_holds : PySem.Challenge.rw_sr0084_02.Holds :=
  Mini.hd
