import PyProof.Rows.All
import Wide.All
import OpenK.AllK
import Wide.FinOn
import PySem.Challenge.RW_wv0071_01
open PySem PySem.W PyProof.Rows
set_option Elab.async false
set_option maxRecDepth 100000
namespace Mine
set_option maxHeartbeats 8000000 in
open_top hd for PySem.Challenge.rw_wv0071_01
/-- the head has turned the walk's mode: the parts are walked in the plain one -/
theorem plain_mode : True := by
  w_top off
  exact trivial
end Mine
open PySem PySem.W PyProof.Rows PySem.Calls


namespace Mine
section
variable {prog : Program} {w : World} {A : Around} {E : Value → Shared → Prop} {s : Shared} {h₀ : Heap} {L : Addr} {m : Str → Option Value} {news : List (Addr × Obj)}

theorem slot_fn_sa : Slot "function" "__setattr__" "object.__setattr__" := .of (owner := "object") (n := "__setattr__") (by rw [typeLookup_type, builtinLookup_eq_fast]; kernel_rfl) (by decide +kernel) (by decide +kernel) (by decide +kernel)
    (by first | exact .inl (by decide +kernel) | exact .inr (by decide +kernel)) (by rw [isSubtype_type]; kernel_rfl)
theorem fn_mro : mroOf (.type "function") = pure [.type "function", .type "object"] := by kernel_rfl
theorem fn_passes (self : Value) : refuseLoop self "__setattr__" [.type "function", .type "object"] = pure () := by kernel_rfl
theorem fn_read : typeLookup (.type "function") "read" = pure none := by rw [typeLookup_type, builtinLookup_eq_fast]; kernel_rfl

/-- the function f bears the attribute dict d -/
abbrev fnDict (d : Addr) (fd : FuncData) : Obj := { cls := .type "function", dict := some d, data := .func fd }

theorem set_fn {f : Addr} {fd : FuncData} {v : Value} {Q : Unit → Shared → Prop}
    (hf : s.heap.get? f = some { cls := .type "function", data := .func fd })
    (h : ∀ h' t, h'.get? f = some (fnDict s.heap.objs.size fd) → h'.get? s.heap.objs.size = some (dictOf [⟨PyData.keyHash w.params "read", .str "read" t, v⟩] 1) →
       Heap.ExtBut f s.heap h' → Q () { s with heap := h', toks := s.toks + 2 }) :
    wpAny (model prog w) A (setAttr (.ref f) "read" v) Q E s := by
  have SF := PySem.F.store_object
  refine wpAny_bind (wpAny_mkText ?_)
  have hT : ({ s with toks := s.toks + 1 } : Shared).TypeIs (.ref f) "function" := ⟨_, hf, rfl⟩
  refine wpAny_bind (wpAny_bind (wpAny_specialOf hT slot_fn_sa.lookup (wpAny_holding ?_)))
  rw [slot_fn_sa.bind]
  refine wpAny_bind (wpAny_pure (wpAny_bind (wpAny_call (codeAny_call_builtin SF.slot.plain SF.entry ?_))))
  refine slot_fn_sa.check _ _ _ _ _ _ _ _ hT (SF.args (.ref f) _ v) ?_
  show wpAny _ _ (Builtin.«object.__setattr__» ⟨[.ref f, .str "read" s.toks, v], []⟩) _ _ _
  rw [osa_eq, refuse_eq]
  refine wpAny_bind (wpAny_bind (wpAny_typeOf hT (wpAny_bind ?_)))
  rw [fn_mro]
  refine wpAny_pure ?_
  rw [fn_passes]
  refine wpAny_pure (wpAny_bind (wpAny_typeOf hT (wpAny_bind ?_)))
  rw [fn_read]
  refine wpAny_pure (wpAny_bind (wpAny_pure ?_))
  have hne : f ≠ s.heap.objs.size := Nat.ne_of_lt (Heap.lt_size hf)
  refine wpAny_bind (wpAny_pure (wpAny_bind (wpAny_bind (wpAny_loadPart hf ?_))))
  refine wpAny_bind (wpAny_alloc ?_)
  have hf1 : (s.heap.push { cls := .type "dict", data := .dict #[] }).get? f = some { cls := .type "function", data := .func fd } := Heap.get?_push_of_some _ hf
  refine wpAny_bind (wpAny_update hf1 ?_)
  have hd2 : ((s.heap.push { cls := .type "dict", data := .dict #[] }).update f fun o => { o with dict := some s.heap.objs.size }).get? s.heap.objs.size = some { cls := .type "dict", data := .dict #[] } :=
    (Heap.get?_update_ne _ _ _ _ (Ne.symm hne)).trans (Heap.get?_push_size _ rfl)
  have hf2 : ((s.heap.push { cls := .type "dict", data := .dict #[] }).update f fun o => { o with dict := some s.heap.objs.size }).get? f = some (fnDict s.heap.objs.size fd) :=
    Heap.get?_update_self _ hf1 rfl
  refine wpAny_pure (a := some s.heap.objs.size) (wpAny_bind (wpAny_pure (wpAny_bind ?_)))
  unfold nsSet
  refine wpAny_bind (wpAny_bind (wpAny_askSetting (wpAny_pure (wpAny_bind (wpAny_mkText (wpAny_bind (wpAny_loadPart hd2 ?_)))))))
  dsimp only
  refine wpAny_updatePart hd2 ?_
  have hd3 := Heap.get?_update_self (Obj.putName "read" (PyData.keyHash w.params "read") (.str "read" (s.toks + 1)) v) hd2 rfl
  have hf3 := (Heap.get?_update_ne _ _ _ (Obj.putName "read" (PyData.keyHash w.params "read") (.str "read" (s.toks + 1)) v) hne).trans hf2
  refine wpAny_bind (wpAny_lookBehind hd3 (by rfl) ?_)
  refine wpAny_pure ?_
  refine wpAny_pure (wpAny_pure (h _ (s.toks + 1) hf3 (hd3.trans rfl) ?_))
  intro b o hb e
  exact (Heap.get?_update_ne _ _ _ _ (Nat.ne_of_lt (Heap.lt_size e))).trans ((Heap.get?_update_ne _ _ _ _ hb).trans (Heap.get?_push_of_some _ e))
end
end Mine

namespace Mine
section
variable {prog : Program} {w : World} {A : Around} {E : Value → Shared → Prop} {s : Shared} {h₀ : Heap} {L : Addr} {m : Str → Option Value} {news : List (Addr × Obj)}

theorem fn_ga : typeLookup (.type "function") "__getattribute__" = pure (some (.builtin "object.__getattribute__")) := by rw [typeLookup_type, builtinLookup_eq_fast]; kernel_rfl
theorem fn_gx : typeLookup (.type "function") "__getattr__" = pure none := by rw [typeLookup_type, builtinLookup_eq_fast]; kernel_rfl
theorem slot_fn_ga : Slot "function" "__getattribute__" "object.__getattribute__" := .of (owner := "object") (n := "__getattribute__") fn_ga (by decide +kernel) (by decide +kernel) (by decide +kernel)
    (by first | exact .inl (by decide +kernel) | exact .inr (by decide +kernel)) (by rw [isSubtype_type]; kernel_rfl)
theorem entry_oga : entryFor table "object.__getattribute__" = some Builtin.«object.__getattribute__» := entryFor_of_fast (by kernel_rfl)
theorem ga_args (a b : Value) : argsOk "object.__getattribute__" ⟨[a, b], []⟩ := by unfold argsOk; kernel_rfl
theorem ga_eq (self : Value) (name : Str) (tk : Tok) : Builtin.«object.__getattribute__» ⟨[self, .str name tk], []⟩ = (typeOf self >>= fun tp => Builtin.ObjectAttr.find self tp name >>= fun r => match r with
  | .value v => ret v
  | .bind g a => Builtin.ObjectAttr.bindTo g a self tp
  | .missing => do
    if tp == .type "module" then
      if ← isOpaqueModuleObj self then
        let byTheModulesOwnEntry := match (← stack).drop 1 with
          | (.builtin "module.__getattribute__" ⟨m :: _, _⟩, _) :: _ => m == self
          | _ => false
        if !byTheModulesOwnEntry then unsupported "thirdparty:object.__getattribute__:a-miss-on-an-opaque-module"
    if tp == .type "type" then
      if let some key ← opaqueClassAbove self then unsupported s!"thirdparty:{key.toString}.{name.toString}:object.__getattribute__-misses-on-an-opaque-class"
    Builtin.ObjectAttr.noSuchAttribute self name) := by kernel_rfl

theorem looks_fn {h : Heap} {f d r : Addr} {fd : FuncData} {od : Obj} {name : Str} (hn : typeLookup (.type "function") name = pure none) (hf : h.get? f = some (fnDict d fd)) (hd : h.get? d = some od) (hl : lookIn name od = some (some (.ref r))) :
    Looks (model prog w) h (Builtin.ObjectAttr.find (.ref f) (.type "function") name) (.value (.ref r)) := by
  intro A Q E s k q
  refine wpAny_bind ?_
  rw [hn]
  refine wpAny_pure (wpAny_bind (wpAny_pure (wpAny_bind (wpAny_pure ?_))))
  refine wpAny_bind (wpAny_bind (wpAny_bind (wpAny_loadPart (k _ _ hf) ?_)))
  refine wpAny_bind (wpAny_loadPart (k _ _ hf) ?_)
  refine wpAny_pure (a := some d) (wpAny_bind (wpAny_loadPart (k _ _ hd) ?_))
  rw [nsLook_of hl]
  refine wpAny_pure (wpAny_bind (wpAny_rule (wpAny_pure q)))

theorem method_fnobj {f d r : Addr} {fd : FuncData} {od : Obj} {pl : Sem Bool} {Q : Value × List Value → Shared → Prop} (hf : s.heap.get? f = some (fnDict d fd)) (hd : s.heap.get? d = some od) (hl : lookIn "read" od = some (some (.ref r)))
    (h : Q (.ref r, []) { s with toks := s.toks + 1 }) : wpAny (model prog w) A (getMethod (.ref f) "read" pl) Q E s := by
  have hcan := PySem.F.canon_object_ga
  have hT : s.TypeIs (.ref f) "function" := ⟨_, hf, rfl⟩
  unfold getMethod
  refine wpAny_bind (wpAny_specialOf hT fn_ga ?_)
  dsimp only
  rw [hcan, if_neg (by decide)]
  refine wpAny_bind (wpAny_specialOf hT fn_gx ?_)
  refine wpAny_bind (wpAny_specialOf hT fn_read ?_)
  refine wpAny_bind ?_
  unfold getAttr getAttrBy
  refine wpAny_bind (wpAny_mkText (wpAny_holding ?_))
  have hT' : ({ s with toks := s.toks + 1 } : Shared).TypeIs (.ref f) "function" := ⟨_, hf, rfl⟩
  refine wpAny_bind (wpAny_typeOf hT' (wpAny_bind ?_))
  rw [fn_ga]
  refine wpAny_pure ?_
  show wpAny _ _ (getAttrByItsOwn _ _ _ _ _ _) _ _ _
  unfold getAttrByItsOwn
  refine wpAny_bind (wpAny_pure (wpAny_bind (wpAny_attempt ?_)))
  refine wpAny_holding ?_
  show wpAny _ _ (boundAndCalled _ _ _) _ _ _
  unfold boundAndCalled
  rw [slot_fn_ga.bind]
  refine wpAny_bind (wpAny_pure (wpAny_call (codeAny_call_builtin slot_fn_ga.plain entry_oga ?_)))
  refine slot_fn_ga.check _ _ _ _ _ _ _ _ hT' (ga_args _ _) ?_
  show wpAny _ _ (Builtin.«object.__getattribute__» ⟨[.ref f, .str "read" s.toks], []⟩) _ _ _
  rw [ga_eq]
  refine wpAny_bind (wpAny_typeOf hT' (wpAny_bind (looks_fn fn_read hf hd hl _ _ _ _ (fun _ _ e => e) ?_)))
  refine wpAny_pure ?_
  exact wpAny_pure (wpAny_pure h)
end
end Mine

namespace Mine

theorem slot_cit_next : Slot "callable_iterator" "__next__" "callable_iterator.__next__" :=
  .of (owner := "callable_iterator") (n := "__next__") (by rw [typeLookup_type, builtinLookup_eq_fast]; kernel_rfl) (by decide +kernel) (by decide +kernel) (by decide +kernel)
    (by first | exact .inl (by decide +kernel) | exact .inr (by decide +kernel)) (by rw [isSubtype_type]; kernel_rfl)
theorem entry_cit_next : entryFor table "callable_iterator.__next__" = some Builtin.«callable_iterator.__next__» := entryFor_of_fast (by kernel_rfl)
theorem args_cit_next (a : Value) : argsOk "callable_iterator.__next__" ⟨[a], []⟩ := by unfold argsOk; kernel_rfl
theorem slot_cit_iter : Slot "callable_iterator" "__iter__" "callable_iterator.__iter__" :=
  .of (owner := "callable_iterator") (n := "__iter__") (by rw [typeLookup_type, builtinLookup_eq_fast]; kernel_rfl) (by decide +kernel) (by decide +kernel) (by decide +kernel)
    (by first | exact .inl (by decide +kernel) | exact .inr (by decide +kernel)) (by rw [isSubtype_type]; kernel_rfl)
theorem entry_cit_iter : entryFor table "callable_iterator.__iter__" = some Builtin.«dict_keyiterator.__iter__» :=
  entryFor_alias (id' := "dict_keyiterator.__iter__") (by kernel_rfl) rfl (by decide +kernel) (by kernel_rfl)
theorem args_cit_iter (a : Value) : argsOk "callable_iterator.__iter__" ⟨[a], []⟩ := by unfold argsOk; kernel_rfl
theorem meth_call : typeLookup (.type "method") "__call__" = pure (some (.builtin "method.__call__")) := by rw [typeLookup_type, builtinLookup_eq_fast]; kernel_rfl
theorem args_iter2 (a b : Value) : argsOk "iter" ⟨[a, b], []⟩ := by unfold argsOk; kernel_rfl
theorem entry_iter : entryFor table "iter" = some Builtin.«iter» := entryFor_of_fast (by kernel_rfl)

/-- a callable_iterator: what it calls, its sentinel, whether it has ended -/
abbrev citObj (f u e : Value) : Obj := { cls := .type "callable_iterator", data := .fields #[f, u, e] }

section
variable {M : Model} {prog : Program} {w : World} {A : Around} {E : Value → Shared → Prop} {s : Shared} {h₀ : Heap} {L : Addr} {m : Str → Option Value} {news : List (Addr × Obj)}

theorem wpAny_callBorrowed {f : Value} {pos : List Value} {Q : Value → Shared → Prop}
    (hc : codeAny M A (.call f ⟨pos, []⟩) (fun r s' => match r with | .ok (.ret v) => Q v s' | .ok _ => False | .error e => E e s') s) :
    wpAny M A (callBorrowed f pos) Q E s := fun Γ p hΓ => by
  unfold callBorrowed
  rw [Sem.wp_call]
  refine wpCode_mono (fun r s' h => ?_) (hc _ p rfl (hΓ.enter _ none p (by intro x; cases x)))
  rcases r with e | (v | _ | _ | _)
  · exact h
  all_goals first | exact h | exact h.elim

theorem pyIter_cit {it : Addr} {f u e : Value} {Q : Value → Shared → Prop} (hit : s.heap.get? it = some (citObj f u e)) (h : Q (.ref it) s) :
    wpAny (model prog w) A (pyIter (.ref it)) Q E s := by
  have hT : s.TypeIs (.ref it) "callable_iterator" := ⟨_, hit, rfl⟩
  refine wpAny_pyIter_slot hT slot_cit_iter (wpAny_call_entry slot_cit_iter hT entry_cit_iter ?_ (args_cit_iter _))
  show wpAny _ _ (ret (.ref it)) _ _ s
  exact wpAny_pure ⟨_, rfl, "callable_iterator", _, hT, slot_cit_next.lookup, h⟩

theorem call_iter2 {q : Addr} {f x u : Value} {Q : Value → Shared → Prop} (hq : s.heap.get? q = some (methodObj f x))
    (h : Q (.ref s.heap.objs.size) { s with heap := s.heap.push (citObj (.ref q) u (.bool false)) }) :
    wpAny (model prog w) A (call (.builtin "iter") [.ref q, u]) Q E s := by
  have hT : s.TypeIs (.ref q) "method" := ⟨_, hq, rfl⟩
  refine call_function_entry (by decide +kernel) (by decide +kernel) entry_iter (args_iter2 _ _) ?_
  unfold Builtin.«iter»
  refine wpAny_bind (wpAny_pure ?_)
  refine wpAny_bind (wpAny_specialOf hT meth_call ?_)
  refine wpAny_bind (wpAny_rule (wpAny_bind ?_))
  exact wpAny_newObj_type (wpAny_pure ⟨_, rfl, h⟩) (by size_fits)

theorem borrows_meth {q f : Addr} {x : Value} {o : Obj} {fd : FuncData} {Q : Bool → Shared → Prop} (hq : s.heap.get? q = some (methodObj (.ref f) x)) (hf : s.heap.get? f = some o) (hd : o.data = .func fd)
    (h : Q true s) : wpAny M A (borrowsExactly (.ref q)) Q E s := by
  unfold borrowsExactly
  refine wpAny_bind (wpAny_load hq ?_)
  dsimp only
  rw [if_pos (by decide)]
  refine wpAny_bind (wpAny_load hf ?_)
  rw [hd]
  exact wpAny_pure h

theorem stop_raise {α : Type} {Q : α → Shared → Prop} (hh : A.handled = none)
    (h : ∀ e h', (∀ b o, s.heap.get? b = some o → h'.get? b = some o) → ({ s with heap := h' } : Shared).TypeIs (.ref e) "StopIteration" → E (.ref e) { s with heap := h' }) :
    wpAny M A (Builtin.SmallTypes.stopIteration (α := α)) Q E s := by
  unfold Builtin.SmallTypes.stopIteration
  refine wpAny_bind ?_
  simp only [newExc, newTuple]
  refine wpAny_bind (wpAny_newObj_type ?_ (by size_fits))
  refine wpAny_bind (m := firstArgMember _ _) (wpAny_of_eq (a := Value.none) (by first | rfl | (simp only [firstArgMember]; rfl)) ?_)
  refine wpAny_newObj_type ?_ (by size_fits)
  simp only [raiseNew]
  refine wpAny_bind (wpAny_handled ?_)
  rw [hh]
  refine wpAny_bind (wpAny_pure (wpAny_throw ?_))
  exact h _ _ (fun b o e => Heap.get?_push_of_some _ (Heap.get?_push_of_some _ e)) ⟨_, Heap.get?_push_size _ rfl, rfl⟩

/-- next of a callable_iterator that has ended -/
theorem next_ended {it : Addr} {f u : Value} {Q : Option Value → Shared → Prop} (hh : A.handled = none) (hit : s.heap.get? it = some (citObj f u (.bool true)))
    (h : ∀ h', (∀ b o, s.heap.get? b = some o → h'.get? b = some o) → Q none { s with heap := h' }) :
    wpAny (model prog w) A (pyNext (.ref it)) Q E s := by
  have hT : s.TypeIs (.ref it) "callable_iterator" := ⟨_, hit, rfl⟩
  unfold pyNext
  refine wpAny_bind (wpAny_attempt (wpAny_callSpecial?_slot (name := Str.ofString "__next__") hT slot_cit_next
    (wpAny_call_entry slot_cit_next hT entry_cit_next ?_ (args_cit_next _))))
  unfold Builtin.«callable_iterator.__next__»
  refine wpAny_bind (wpAny_pure ?_)
  refine wpAny_bind (wpAny_field hit rfl (x := .bool true) rfl ?_)
  rw [if_pos (by decide)]
  refine wpAny_bind (wpAny_rule (wpAny_bind (stop_raise hh fun e h' k hT' => ?_)))
  exact wpAny_bind (wpAny_isInstance hT' isSubtype_stop (wpAny_pure (h _ k)))

/-- next of a callable_iterator that goes on: the call's text, or the end where it is the sentinel -/
theorem next_cit {it q f : Addr} {x : Value} {u : Str} {tu : Tok} {o : Obj} {fd : FuncData} {Q : Option Value → Shared → Prop} (hh : A.handled = none)
    (hit : s.heap.get? it = some (citObj (.ref q) (.str u tu) (.bool false))) (hq : s.heap.get? q = some (methodObj (.ref f) x)) (hf : s.heap.get? f = some o) (hd : o.data = .func fd)
    (h : codeAny (model prog w) A.in1 (.call (.ref q) ⟨[], []⟩) (fun r s' => match r with
      | .ok (.ret v) => ∃ c t, v = .str c t ∧ s'.heap.get? it = some (citObj (.ref q) (.str u tu) (.bool false)) ∧
          s'.heap.get? q = some (methodObj (.ref f) x) ∧ (∃ o', s'.heap.get? f = some o' ∧ ∃ fd', o'.data = .func fd') ∧
          (if u = c then ∀ h', h'.get? it = some (citObj .none .none (.bool true)) → (∀ b o, b ≠ it → s'.heap.get? b = some o → h'.get? b = some o) → Q none { s' with heap := h' }
           else Q (some v) s')
      | _ => False) s) :
    wpAny (model prog w) A (pyNext (.ref it)) Q E s := by
  have hT : s.TypeIs (.ref it) "callable_iterator" := ⟨_, hit, rfl⟩
  unfold pyNext
  refine wpAny_bind (wpAny_attempt (wpAny_callSpecial?_slot (name := Str.ofString "__next__") hT slot_cit_next
    (wpAny_call_entry slot_cit_next hT entry_cit_next ?_ (args_cit_next _))))
  unfold Builtin.«callable_iterator.__next__»
  refine wpAny_bind (wpAny_pure ?_)
  refine wpAny_bind (wpAny_field hit rfl (x := .bool false) rfl ?_)
  rw [if_neg (by decide)]
  refine wpAny_bind (wpAny_field hit rfl (x := .ref q) rfl ?_)
  refine wpAny_bind (wpAny_attempt ?_)
  unfold callOutOfASlot
  refine wpAny_bind (borrows_meth hq hf hd ?_)
  rw [if_pos rfl]
  refine wpAny_callBorrowed (codeAny_mono h fun r s' z => ?_)
  rcases r with e | (_ | _ | _ | v)
  · exact z.elim
  · exact z.elim
  · exact z.elim
  · exact z.elim
  obtain ⟨c, t, rfl, hit', hq', ⟨o', hf', fd', hd'⟩, hc⟩ := z
  dsimp only
  refine wpAny_bind (wpAny_field hit' rfl (x := .bool false) rfl ?_)
  rw [if_neg (by decide)]
  refine wpAny_bind (wpAny_field hit' rfl (x := .str u tu) rfl ?_)
  refine wpAny_bind (wpAny_holding (wpAny_eqBool_str ?_))
  by_cases huc : u = c
  · rw [if_pos huc] at hc
    rw [if_neg (by simp [huc])]
    refine wpAny_bind (wpAny_rule (wpAny_bind ?_))
    refine wpAny_bind (m := field (.ref it) 0) (wpAny_field hit' rfl (x := .ref q) rfl ?_)
    refine wpAny_bind ?_
    unfold slotLetsGo
    dsimp only
    refine wpAny_bind (borrows_meth hq' hf' hd' ?_)
    rw [if_pos rfl]
    refine wpAny_pure ?_
    refine wpAny_bind (wpAny_setField_rec hit' (by simp) fun h1 e1 k1 => ?_)
    refine wpAny_bind (wpAny_setField_rec (s := { s' with heap := h1 }) e1 (by simp) fun h2 e2 k2 => ?_)
    refine wpAny_setField_rec (s := { s' with heap := h2 }) e2 (by simp) fun h3 e3 k3 => ?_
    refine stop_raise hh fun e h' k hT' => ?_
    refine wpAny_bind (wpAny_isInstance hT' isSubtype_stop (wpAny_pure (hc _ (k _ _ e3) fun b o hb e => k _ _ ?_)))
    exact (k3.2 b hb).trans ((k2.2 b hb).trans ((k1.2 b hb).trans e))
  · rw [if_neg huc] at hc
    rw [if_pos (by simp [huc])]
    exact wpAny_bind (wpAny_pure (wpAny_pure ⟨_, rfl, wpAny_pure hc⟩))
end
end Mine

namespace Mine

/-- these objects stand in the heap -/
def Has (h : Heap) (l : List (Addr × Obj)) : Prop := ∀ p ∈ l, h.get? p.1 = some p.2
/-- all but these stay as they were -/
def Stay (ds : List Addr) (h h' : Heap) : Prop := ∀ b o, b ∉ ds → h.get? b = some o → h'.get? b = some o

theorem Stay.refl {ds : List Addr} {h : Heap} : Stay ds h h := fun _ _ _ e => e
theorem Stay.trans {ds : List Addr} {h h' h'' : Heap} (a : Stay ds h h') (b : Stay ds h' h'') : Stay ds h h'' := fun x o n e => b x o n (a x o n e)
theorem Stay.mono {ds es : List Addr} {h h' : Heap} (a : Stay ds h h') (k : ∀ d ∈ ds, d ∈ es) : Stay es h h' := fun x o n e => a x o (fun q => n (k _ q)) e
theorem Has.sub {h : Heap} {l l' : List (Addr × Obj)} (a : Has h l) (k : ∀ p ∈ l', p ∈ l) : Has h l' := fun p q => a p (k p q)
theorem Has.stay {ds : List Addr} {h h' : Heap} {l : List (Addr × Obj)} (a : Has h l) (st : Stay ds h h') (k : ∀ p ∈ l, p.1 ∉ ds) : Has h' l := fun p q => st _ _ (k p q) (a p q)

/-- what stands below a call: the text's own objects, the module's names, and that none of ds is among them -/
def Base (K : Frag) (p : Program) (loose : List Str) (mean : ExcName → Option Value) (mg mb : Str → Option Value) (ds : List Addr) (h : Heap) : Prop :=
  ∃ h₀ : Heap, K.In h₀ ∧ Top p loose mean mg mb h₀ ∧ (∀ b o, h₀.get? b = some o → h.get? b = some o) ∧ ∀ d ∈ ds, h₀.get? d = none

section
variable {K : Frag} {p : Program} {loose : List Str} {mean : ExcName → Option Value} {mg mb : Str → Option Value} {ds es : List Addr} {h h' h₀ : Heap} {L : Addr} {m : Str → Option Value} {news : List (Addr × Obj)}

theorem Base.of (F : Fr h₀ L h m) (N : News h₀ L h news) (X : K.In h₀) (T : Top p loose mean mg mb h₀) (k : ∀ d ∈ ds, d ∈ news.map (·.1)) : Base K p loose mean mg mb ds h :=
  ⟨h₀, X, T, F.keep, fun d hd => by obtain ⟨q, hq, rfl⟩ := List.mem_map.mp (k d hd); exact (N q hq).2.2⟩
theorem Base.sub (B : Base K p loose mean mg mb ds h) (k : ∀ d ∈ es, d ∈ ds) : Base K p loose mean mg mb es h :=
  let ⟨h₀, a, b, c, d⟩ := B; ⟨h₀, a, b, c, fun x hx => d x (k x hx)⟩
theorem Base.stay (B : Base K p loose mean mg mb ds h) (st : Stay ds h h') : Base K p loose mean mg mb ds h' :=
  let ⟨h₀, a, b, c, d⟩ := B; ⟨h₀, a, b, fun x o e => st x o (fun q => by rw [d x q] at e; cases e) (c x o e), d⟩
theorem Base.in_ (B : Base K p loose mean mg mb ds h) : K.In h := let ⟨_, a, _, c, _⟩ := B; a.keeps c
theorem Base.fresh (B : Base K p loose mean mg mb ds h) {d : Addr} {o : Obj} (hd : d ∈ ds) : K.lookup d ≠ some o := fun e => by
  obtain ⟨h₀, a, _, _, k⟩ := B
  have := a _ _ e
  rw [k d hd] at this; cases this

theorem news_has (N : News h₀ L h news) : Has h news := fun q hq => (N q hq).1
theorem fresh_of {g : Heap} {d : Addr} (N : News g L h news) (st : Stay ds h' g) (hd : d ∈ news.map (·.1)) (hn : d ∉ ds) : h'.get? d = none := by
  obtain ⟨q, hq, rfl⟩ := List.mem_map.mp hd
  refine Option.eq_none_iff_forall_ne_some.mpr fun o e => ?_
  have := st _ _ hn e
  rw [(N q hq).2.2] at this; cases this
theorem fr_stay (F : Fr h₀ L h m) (st : Stay ds h h') (hL : L ∉ ds) (h0 : ∀ d ∈ ds, h₀.get? d = none) : Fr h₀ L h' m :=
  let ⟨o, e1, e2, ho, r⟩ := F.ns
  ⟨⟨o, e1, e2, st _ _ hL ho, r⟩, fun b o e => st _ _ (fun q => by rw [h0 b q] at e; cases e) (F.keep b o e), F.above⟩
/-- the frame behind a call that turned the ledger's objects old -/
theorem fr_behind (F : Fr h₀ L h m) (N : News h₀ L h news) (k : ∀ d ∈ ds, d ∈ news.map (·.1)) (st : Stay ds h h') : Fr h₀ L h' m :=
  fr_stay F st (fun q => by obtain ⟨x, hx, e⟩ := List.mem_map.mp (k _ q); exact (N x hx).2.1 e) (fun d hd => by obtain ⟨x, hx, rfl⟩ := List.mem_map.mp (k _ hd); exact (N x hx).2.2)
/-- the ledger behind a call: what it turned, and the rest -/
theorem news_behind {new rest : List (Addr × Obj)} (N : News h₀ L h news) (st : Stay ds h h') (H : Has h' new) (kn : ∀ d ∈ new.map (·.1), d ∈ news.map (·.1)) (kr : ∀ p ∈ rest, p ∈ news) (nr : ∀ p ∈ rest, p.1 ∉ ds) :
    News h₀ L h' (new ++ rest) := fun q hq => by
  rcases List.mem_append.mp hq with hq | hq
  · obtain ⟨x, hx, e⟩ := List.mem_map.mp (kn q.1 (List.mem_map_of_mem hq))
    have n := (N x hx).2
    rw [e] at n
    exact ⟨H q hq, n⟩
  · have n := N q (kr q hq)
    exact ⟨st _ _ (nr q hq) n.1, n.2⟩
end

def LeaveS (ds : List Addr) (h g : Heap) (R : Result → Shared → Prop) (v : Value) (s' : Shared) : Prop :=
  ∃ L' m', Fr g L' s'.heap m' ∧ (Stay ds h s'.heap → R (.ok (.ret v)) s')

section
variable {K : Frag} {prog : Program} {w : World} {A : Around} {s : Shared} {p : Program} {loose : List Str} {mean : ExcName → Option Value} {mg mb : Str → Option Value} {dyn : List (Addr × Obj)}
  {R : Result → Shared → Prop} {name qual : Str} {params : Arguments} {body : List Stmt} {scope : Scope} {cl : List (Str × Addr)} {dV kV doc pm cdv ct oc : Value} {an od : Option Addr} {osl : Array (Option Value)} {fo : Obj} {f : Addr} {args : Args} {binds : List (Str × Value)}

theorem base_hide (G : Base K p loose mean mg mb (dyn.map (·.1)) s.heap) : K.In (hideAll s.heap (dyn.map (·.1))) ∧ Top p loose mean mg mb (hideAll s.heap (dyn.map (·.1))) := by
  obtain ⟨h₀, a, b, c, d⟩ := G
  have st : ∀ x o, h₀.get? x = some o → (hideAll s.heap (dyn.map (·.1))).get? x = some o := fun x o e => hideAll_get _ (c x o e) fun q => by rw [d x q] at e; cases e
  exact ⟨a.keeps st, b.keeps st⟩
theorem leave_S {v : Value} {s' : Shared} (x : LeaveS (dyn.map (·.1)) s.heap (hideAll s.heap (dyn.map (·.1))) R v s') : R (.ok (.ret v)) s' := by
  obtain ⟨L', m', F, k⟩ := x
  exact k fun b o n e => F.keep b o (hideAll_get _ e n)

theorem codeS (G : Base K p loose mean mg mb (dyn.map (·.1)) s.heap) (H : Has s.heap dyn)
    (ho : s.heap.get? f = some fo) (hd : fo.data = .func (fnX name qual params body scope cl dV kV doc pm an cdv ct)) (hcd : s.heap.CodeRec cdv qual) (hroom : A.depth < recursionLimit)
    (hbind : BindsTo s (fnX name qual params body scope cl dV kV doc pm an cdv ct) args binds) (hloc : ∀ y ∈ binds, scope.names.lookup y.1 = some .local)
    (h : ∀ g L' h₁, Fr g L' h₁ (fun y => binds.reverse.lookup y) → News g L' h₁ dyn → K.In g → Top p loose mean mg mb g → (∀ p ∈ dyn, p.1 < L') → Stay (dyn.map (·.1)) s.heap g →
      wpAny (model prog w) (A.deeper (envX qual scope L' f cdv cl)) (execs body (envX qual scope L' f cdv cl))
        (fun fl s' => LeaveS (dyn.map (·.1)) s.heap g R (match fl with | .ret v => v | _ => .none) s') (fun _ _ => False) { s with heap := h₁, toks := s.toks + binds.length })
    (hcell : ∀ x ∈ scope.names, x.2 ≠ .cell) (hco : scope.isCoroutine = false := by rfl) (hgen : scope.isGenerator = false := by rfl) (hk : scope.kind = .function := by rfl) : codeAny (model prog w) A (.call (.ref f) args) R s := by
  obtain ⟨X, T⟩ := base_hide G
  have lim : s.heap.NoLimit := by obtain ⟨h₀, _, b, c, _⟩ := G; exact b.nolimit.keeps c
  refine codeAny_call_def (fd := fnX name qual params body scope cl dV kV doc pm an cdv ct) (body := body) (binds := binds) hroom ho hd lim hcd rfl hbind hcell hloc (fun h₁ hns hk₁ => ?_) hco hgen hk
  refine wpAny_mono (h _ s.heap.objs.size h₁ ⟨hns, fun b o e => hk₁ b o (of_hideAll _ e), Nat.le_of_eq (hideAll_size _ _)⟩
    (fun p hp => ⟨hk₁ _ _ (H p hp), Nat.ne_of_lt (Heap.lt_size (H p hp)), hideAll_none _ (List.mem_map_of_mem hp)⟩) X T (fun p hp => Heap.lt_size (H p hp)) (fun b o n e => hideAll_get _ e n)) (fun fl s' hl => leave_S hl) fun _ _ y => y.elim

/-- a def of the text is called -/
theorem code_K (G : Base K p loose mean mg mb (dyn.map (·.1)) s.heap) (H : Has s.heap dyn)
    (ho : K.lookup f = some ⟨oc, od, .func (fnOf name qual params body scope dV kV doc pm an cdv ct), osl⟩) (hcd : codeIn K cdv qual = true) (hroom : A.depth < recursionLimit)
    (hbind : BindsTo s (fnOf name qual params body scope dV kV doc pm an cdv ct) args binds) (hloc : ∀ y ∈ binds, scope.names.lookup y.1 = some .local)
    (h : ∀ g L' h₁, Fr g L' h₁ (fun y => binds.reverse.lookup y) → News g L' h₁ dyn → K.In g → Top p loose mean mg mb g → (∀ p ∈ dyn, p.1 < L') → Stay (dyn.map (·.1)) s.heap g →
      wpAny (model prog w) (A.deeper (envOf qual scope L' f cdv)) (execs body (envOf qual scope L' f cdv))
        (fun fl s' => LeaveS (dyn.map (·.1)) s.heap g R (match fl with | .ret v => v | _ => .none) s') (fun _ _ => False) { s with heap := h₁, toks := s.toks + binds.length })
    (hcell : ∀ x ∈ scope.names, x.2 ≠ .cell) (hco : scope.isCoroutine = false) (hgen : scope.isGenerator = false) (hk : scope.kind = .function) : codeAny (model prog w) A (.call (.ref f) args) R s :=
  codeS (cl := []) G H (G.in_ _ _ ho) rfl (codeRec_of G.in_ hcd) hroom hbind hloc h hcell hco hgen hk

/-- a def of the text whose own names are cells is called -/
theorem code_KC (G : Base K p loose mean mg mb (dyn.map (·.1)) s.heap) (H : Has s.heap dyn)
    (ho : K.lookup f = some ⟨oc, od, .func (fnOf name qual params body scope dV kV doc pm an cdv ct), osl⟩) (hcd : codeIn K cdv qual = true) (hroom : A.depth < recursionLimit)
    (hbind : BindsTo s (fnOf name qual params body scope dV kV doc pm an cdv ct) args binds) (hkind : (binds.all fun y => scope.names.lookup y.1 == some .local || scope.names.lookup y.1 == some .cell) = true)
    (hnd : ((cellsFrom 0 scope.names []).map (·.1)).Nodup)
    (h : ∀ g L' h₁ tk cells, Fr g L' h₁ (bindL (envOfC qual scope L' f cdv).kindOf binds fun _ => none) → News g L' h₁ (cells ++ dyn) →
      CellsAre (bindC (envOfC qual scope L' f cdv).kindOf binds fun _ => none) (cellsFrom (L' + 1) scope.names []) cells → K.In g → Top p loose mean mg mb g → (∀ p ∈ dyn, p.1 < L') → Stay (dyn.map (·.1)) s.heap g →
      wpAny (model prog w) (A.deeper (envOfC qual scope L' f cdv)) (execs body (envOfC qual scope L' f cdv))
        (fun fl s' => LeaveS (dyn.map (·.1)) s.heap g R (match fl with | .ret v => v | _ => .none) s') (fun _ _ => False) { s with heap := h₁, toks := tk })
    (hco : scope.isCoroutine = false) (hgen : scope.isGenerator = false) (hk : scope.kind = .function) : codeAny (model prog w) A (.call (.ref f) args) R s := by
  obtain ⟨X, T⟩ := base_hide G
  have lim : s.heap.NoLimit := by obtain ⟨h₀, _, b, c, _⟩ := G; exact b.nolimit.keeps c
  refine codeAny_call_function hroom (G.in_ _ _ ho) rfl hco hgen rfl (codeRec_of G.in_ hcd) (hbind _ _ _ _ ?_)
  refine wpAny_newFunctionEnv_cells hk (kindsX hkind _) fun env' he s' x => ?_
  subst he
  refine ⟨lim.keeps x.toInCall.keep, codeAny_func ?_⟩
  obtain ⟨h₁, tk, rfl, _⟩ := x.done
  have hk₁ := x.toInCall.keep
  obtain ⟨cells, NC, Y⟩ := Cl.news (h₀ := s.heap) (Nat.le_refl _) fun n c hm => ⟨x.cell n c (lookup_of_mem_nodup (cellsFrom_names scope.names 0 (s.heap.objs.size + 1) [] [] rfl ▸ hnd) hm), x.above n c hm⟩
  refine wpAny_mono (h _ s.heap.objs.size h₁ tk cells ⟨x.toInCall.ns, fun b o e => hk₁ b o (of_hideAll _ e), Nat.le_of_eq (hideAll_size _ _)⟩ (fun p hp => ?_) Y X T (fun p hp => Heap.lt_size (H p hp)) (fun b o n e => hideAll_get _ e n)) (fun fl s' hl => leave_S hl) fun _ _ y => y.elim
  rcases List.mem_append.mp hp with hp | hp
  · refine ⟨(NC p hp).1, (NC p hp).2.1, ?_⟩
    cases q : (hideAll s.heap (dyn.map (·.1))).get? p.1 with
    | none => rfl
    | some o => have := of_hideAll _ q; rw [(NC p hp).2.2] at this; cases this
  · exact ⟨hk₁ _ _ (H p hp), Nat.ne_of_lt (Heap.lt_size (H p hp)), hideAll_none _ (List.mem_map_of_mem hp)⟩
end
end Mine

namespace Mine
abbrev PR : Program := PySem.Challenge.rw_wv0071_01.row.prog
theorem fillF : (PySem.Challenge.rw_wv0071_01.foot = 3) ∧ (∀ P, hd.heap_39 P = hd.heap_39 P) := by k_fill; exact ⟨rfl, fun _ => rfl⟩

section
variable {w : World} {A : Around} {E : Value → Shared → Prop} {s : Shared} {h₀ : Heap} {L : Addr} {m : Str → Option Value} {news : List (Addr × Obj)} {K : Frag}
/-- a function without attributes is given one: onto the ledger -/
theorem set_fnK {prog : Program} {f : Addr} {fd : FuncData} {v : Value} {g : Obj → List (Addr × Obj)} {Q : Unit → Shared → Prop} (F : Fr h₀ L s.heap m) (N : News h₀ L s.heap news)
    (U : UpdF f { cls := .type "function", data := .func fd } news g)
    (h : ∀ d h' t, Fr h₀ L h' m → News h₀ L h' ((d, dictOf [⟨PyData.keyHash w.params "read", .str "read" t, v⟩] 1) :: g (fnDict d fd)) → (∀ q ∈ news, q.1 < d) → Q () { s with heap := h', toks := s.toks + 2 }) :
    wpAny (model prog w) A (setAttr (.ref f) "read" v) Q E s := by
  obtain ⟨own, rest, rfl, hgr, h1, h2⟩ := U.split
  have hm := N (f, { cls := .type "function", data := .func fd }) (List.mem_append_right _ (.head _))
  refine set_fn hm.1 fun h' t e1 e2 k => ?_
  have hLs : L < s.heap.objs.size := F.ns.lt
  refine h _ h' t ⟨F.ns.extBut k hm.2.1.symm, fun b o e => k b o (fun q => by have := hm.2.2; rw [← q, e] at this; cases this) (F.keep b o e), F.above⟩ (fun q hq => ?_) (fun q hq => Heap.lt_size (N q hq).1)
  rcases List.mem_cons.mp hq with rfl | hq
  · exact ⟨e2, Nat.ne_of_gt hLs, Heap.get?_none_of_le (Nat.le_trans F.above (Nat.le_of_lt hLs))⟩
  · rw [hgr] at hq
    rcases List.mem_append.mp hq with hq | hq
    · have n := N q (List.mem_append_left _ hq)
      exact ⟨k _ _ (h1 q hq) n.1, n.2⟩
    · rcases List.mem_cons.mp hq with rfl | hq
      · exact ⟨e1, hm.2⟩
      · have n := N q (List.mem_append_right _ (.tail _ hq))
        exact ⟨k _ _ (h2 q hq) n.1, n.2⟩
end
local macro_rules | `(tactic| walk_at "setAttr ref") => `(tactic| (k_here; (with_reducible show wpAny _ _ (setAttr _ (PySem.Str.ofString "read") _) _ _ _); k_dflt (refine' set_fnK ?F ?N ?U ?_; (case F => k_asm); (case N => k_asm); (case U => k_updF); k_whole); intro d' h' t' F' N' l1; (try dsimp only at N'); (try k_lt l1); (try k_sweep)))
/- a def of the text is entered: its base and its ledger stand in the context -/
local macro_rules | `(tactic| walk_at "enterK") => `(tactic| (refine' code_K ?G ?H ?k6 ?k7 ?k8 ?k9 ?kB ?_ ?c5 ?c2 ?c3 ?c4; (case H => assumption); (case G => assumption); (case k6 => k_is); (case k7 => k_is); (case k8 => omega); (case k9 => exact BindsTo.of_eq rfl); (case c5 => decide); (case kB => exact locs rfl); (case c2 => exact rfl); (case c3 => exact rfl); (case c4 => exact rfl); k_whole))

/-- the addresses and the unchanging parts of a lexer -/
structure LexA where
  x : Addr
  dx : Addr
  pb : Addr
  st : Addr
  sd : Addr
  fr : Addr
  cr : Addr
  at_ : Addr
  ct : Addr
  ca : Addr
  T : Str
  oT : Obj
  oA : Obj
  fdR : FuncData
  oC : Obj
  fdS : FuncData
  ks : Tok
  k1 : Tok
  k2 : Tok
  k3 : Tok
  k4 : Tok
  kw : Tok

/-- what turns of a lexer: the place in the text, the line, what has been pushed back -/
structure LexS where
  p : Nat
  tp : Tok
  n : Int
  tn : Tok
  ws : List Value
  wn : Nat

abbrev lexDict (P : Params) (a : LexA) (σ : LexS) : Obj := dictOf [⟨PyData.keyHash P "lineno", .str "lineno" a.k1, .int σ.n σ.tn⟩, ⟨PyData.keyHash P "instream", .str "instream" a.k2, .ref a.st⟩,
  ⟨PyData.keyHash P "whitespace", .str "whitespace" a.k3, .str "\n\t\r " a.kw⟩, ⟨PyData.keyHash P "pushback", .str "pushback" a.k4, .ref a.pb⟩] 4
abbrev lexLed (P : Params) (a : LexA) (σ : LexS) : List (Addr × Obj) := [(a.x, instObj 52 a.dx), (a.dx, lexDict P a σ), (a.pb, W.listOf σ.ws.toArray σ.wn), (a.st, fnDict a.sd a.fdS),
  (a.sd, dictOf [⟨PyData.keyHash P "read", .str "read" a.ks, .ref a.fr⟩] 1), (a.fr, { cls := .type "function", data := .func a.fdR }), (a.cr, a.oC), (a.at_, W.listOf #[.int σ.p σ.tp] 0), (a.ca, a.oA), (a.ct, a.oT)]
abbrev lexAddrs (a : LexA) : List Addr := [a.x, a.dx, a.pb, a.st, a.sd, a.fr, a.cr, a.at_, a.ca, a.ct]
abbrev ltA (a b : Nat) : Prop := a < b
def LexOrd (a : LexA) : Prop := ltA a.ct a.ca ∧ ltA a.ca a.at_ ∧ ltA a.at_ a.fr ∧ ltA a.fr a.st ∧ ltA a.st a.sd ∧ ltA a.sd a.dx ∧ ltA a.dx a.x ∧ ltA a.x a.pb ∧ (ltA a.cr a.ct ∨ (ltA a.at_ a.cr ∧ ltA a.cr a.fr))

/-- the sign that stands at p, or none -/
def mkS (l : List Nat) : Str := ⟨l.toArray⟩
def signAt (T : Str) (p : Nat) : Str := mkS ((T.cps.toList.drop p).take 1)

set_option maxHeartbeats 4000000 in
theorem init_code {w : World} {A : Around} {s : Shared} {p : Program} {loose : List Str} {mean : ExcName → Option Value} {mg mb : Str → Option Value} {R : Result → Shared → Prop} {x dx fs : Addr}
    (hr : A.depth + 2 < recursionLimit) (hx : dx < x)
    (G : Base (hd.heap_39 w.params) p loose mean mg mb [x, dx] s.heap) (H : Has s.heap [(x, instObj 52 dx), (dx, dictOf [] 0)])
    (h : ∀ h' tk t0 t1 t2 t3 t4 tw pb, Stay [x, dx] s.heap h' → s.heap.get? pb = none → x < pb → Has h' [(pb, W.listOf #[] 0), (x, instObj 52 dx), (dx, dictOf [⟨PyData.keyHash w.params "lineno", .str "lineno" t1, .int 1 t0⟩, ⟨PyData.keyHash w.params "instream", .str "instream" t2, .ref fs⟩,
      ⟨PyData.keyHash w.params "whitespace", .str "whitespace" t3, .str "\n\t\r " tw⟩, ⟨PyData.keyHash w.params "pushback", .str "pushback" t4, .ref pb⟩] 4)] →
      R (.ok (.ret .none)) { s with heap := h', toks := tk }) :
    codeAny (model PR w) A (.call (.ref 28) ⟨[.ref x, .ref fs], []⟩) R s := by
  walk_at "enterK"
  intro g' L' h' F' N' X' T' l1 st
  k_lt l1
  k_lt2 hx
  (try dsimp only)
  (try k_fold)
  k_steps
  rename News _ _ _ _ => N
  rename Fr _ _ _ _ => F
  rename _ ∧ _ => l2
  refine ⟨_, _, F, fun st' => h _ _ _ _ _ _ _ _ _ st' ?_ l2.1 (news_has N)⟩
  have n := (N _ (.head _)).2.2
  refine Option.eq_none_iff_forall_ne_some.mpr fun o q => ?_
  have := st _ o ?_ q
  · rw [n] at this; cases this
  · intro hm
    simp only [List.map_cons, List.map_nil, List.mem_cons, List.not_mem_nil, or_false] at hm
    have e1 := l2.1
    have e2 := l2.2
    rcases hm with hm | hm
    · rw [hm] at e1; exact Nat.lt_irrefl _ e1
    · rw [hm] at e2; exact Nat.lt_irrefl _ e2

theorem new_lexer {w : World} {A : Around} {E : Value → Shared → Prop} {s : Shared} {p : Program} {loose : List Str} {mean : ExcName → Option Value} {mg mb : Str → Option Value} {h₀ : Heap} {L : Addr} {m : Str → Option Value} {news : List (Addr × Obj)} {fs : Addr} {Q : Value → Shared → Prop}
    (hr : A.depth + 5 < recursionLimit) (F : Fr h₀ L s.heap m) (X : (hd.heap_39 w.params).In h₀) (N : News h₀ L s.heap news) (T : Top p loose mean mg mb h₀)
    (h : ∀ h' tk t0 t1 t2 t3 t4 tw pb dx x, Fr h₀ L h' m → News h₀ L h' ((pb, W.listOf #[] 0) :: (x, instObj 52 dx) :: (dx, dictOf [⟨PyData.keyHash w.params "lineno", .str "lineno" t1, .int 1 t0⟩, ⟨PyData.keyHash w.params "instream", .str "instream" t2, .ref fs⟩,
      ⟨PyData.keyHash w.params "whitespace", .str "whitespace" t3, .str "\n\t\r " tw⟩, ⟨PyData.keyHash w.params "pushback", .str "pushback" t4, .ref pb⟩] 4) :: news) → (∀ q ∈ news, q.1 < dx) → dx < x → x < pb →
      Q (.ref x) { s with heap := h', toks := tk }) :
    wpAny (model PR w) A (call (.ref 52) [.ref fs]) Q E s := by
  refine call_cls F X N (by k_is) (fI := 28) (by k_is) (by k_is) fun x dx h' F1 N1 l1 l2 => ?_
  refine init_code (by rw [depth_under_make]; omega) l2 (Base.of F1 N1 X T ?_) ((news_has N1).sub ?_) fun h2 tk t0 t1 t2 t3 t4 tw pb st n0 l3 H2 => ?_
  · simp
  · intro q hq
    simp only [List.mem_cons, List.not_mem_nil, or_false] at hq
    rcases hq with rfl | rfl
    · exact .head _
    · exact .tail _ (.head _)
  · refine ⟨rfl, h h2 tk t0 t1 t2 t3 t4 tw pb dx x (fr_behind F1 N1 ?_ st) ?_ l1 l2 l3⟩
    · simp
    · intro q hq
      have hL : ∀ q ∈ news, q.1 ∉ [x, dx] := fun q hq hm => by
        have := l1 q hq
        simp only [List.mem_cons, List.not_mem_nil, or_false] at hm
        rcases hm with hm | hm
        · rw [hm] at this; exact Nat.lt_irrefl _ (Nat.lt_trans this l2)
        · rw [hm] at this; exact Nat.lt_irrefl _ this
      rcases List.mem_cons.mp hq with rfl | hq
      · refine ⟨H2 _ (.head _), fun e => ?_, ?_⟩
        · have l := F1.ns.lt
          have n := n0
          obtain ⟨o, _, _, ho, _⟩ := F1.ns
          rw [show pb = L from e] at n
          rw [show h'.get? L = none from n] at ho; cases ho
        · refine Option.eq_none_iff_forall_ne_some.mpr fun o e => ?_
          have := F1.keep _ _ e
          rw [show h'.get? pb = none from n0] at this; cases this
      · rcases List.mem_cons.mp hq with rfl | hq
        · exact ⟨H2 _ (.tail _ (.head _)), (N1 _ (.head _)).2⟩
        · rcases List.mem_cons.mp hq with rfl | hq
          · exact ⟨H2 _ (.tail _ (.tail _ (.head _))), (N1 (dx, _) (.tail _ (.head _))).2⟩
          · have n := N1 q (.tail _ (.tail _ hq))
            exact ⟨st _ _ (hL q hq) n.1, n.2⟩
end Mine

namespace Mine
theorem fillG : (PySem.Challenge.rw_wv0071_01.foot = 3) ∧ (∀ P, hd.heap_39 P = hd.heap_39 P) := by k_fill; exact ⟨rfl, fun _ => rfl⟩
local macro_rules | `(tactic| walk_at "setAttr ref") => `(tactic| (k_here; (with_reducible show wpAny _ _ (setAttr _ (PySem.Str.ofString "read") _) _ _ _); k_dflt (refine' set_fnK ?F ?N ?U ?_; (case F => k_asm); (case N => k_asm); (case U => k_updF); k_whole); intro d' h' t' F' N' l1; (try dsimp only at N'); (try k_lt l1); (try k_sweep)))
local macro_rules | `(tactic| walk_at "call ref") => `(tactic| (k_here; (with_reducible show wpAny _ _ (call (Value.ref 52) [_]) _ _ _); k_dflt (refine' new_lexer ?r ?F ?X ?N ?T ?_; (case F => k_asm); (case N => k_asm); (case X => k_asm); (case T => k_asm); (case r => (simp only [depth_deeper]; omega)); k_whole); intro h' tk' t0 t1 t2 t3 t4 tw pb dx x F' N' l1 l2 l3; (try k_lt l1); (try k_lt2 l2); (try k_lt2 l3); (try k_sweep)))

/-- what a call of read(1) does -/
def ROSpec (w : World) (p : Program) (loose : List Str) (mean : ExcName → Option Value) (mg mb : Str → Option Value) (a : LexA) : Prop :=
  ∀ (A : Around) (s : Shared) (R : Result → Shared → Prop) (σ : LexS) (t1 : Tok), A.handled = none → A.depth + 3 < recursionLimit → A.units + 50 < cLine → a.T.length ≤ 1048576 → σ.p ≤ a.T.length →
    Base (hd.heap_39 w.params) p loose mean mg mb (lexAddrs a) s.heap → Has s.heap (lexLed w.params a σ) →
    (∀ h' tk tr tp, Stay (lexAddrs a) s.heap h' → Has h' (lexLed w.params a { σ with p := σ.p + (signAt a.T σ.p).length, tp := tp }) → R (.ok (.ret (.str (signAt a.T σ.p) tr))) { s with heap := h', toks := tk }) →
    codeAny (model PR w) A (.call (.ref a.fr) ⟨[.int 1 t1], []⟩) R s

/-- the closure's qualified name -/
def roQual : Str := ("_law_lexer" : Str) ++ ".<locals>." ++ "_law_read_on"
/-- a code object that bears the closure's name -/
def RoCode (o : Obj) : Prop := ∃ vs t, o.data = .fields vs ∧ vs[1]? = some (.str roQual t)

abbrev newLed (P : Params) (a : LexA) (cl : Addr) (oL : Obj) (t0 tp : Tok) (tb : Array Value) : List (Addr × Obj) :=
  [(a.pb, W.listOf #[] 0), (a.x, instObj 52 a.dx), (a.dx, dictOf [⟨PyData.keyHash P "lineno", .str "lineno" a.k1, .int 1 t0⟩, ⟨PyData.keyHash P "instream", .str "instream" a.k2, .ref a.st⟩,
  ⟨PyData.keyHash P "whitespace", .str "whitespace" a.k3, .str "\n\t\r " a.kw⟩, ⟨PyData.keyHash P "pushback", .str "pushback" a.k4, .ref a.pb⟩] 4),
  (a.sd, dictOf [⟨PyData.keyHash P "read", .str "read" a.ks, .ref a.fr⟩] 1), (a.st, fnDict a.sd a.fdS), (cl, oL), (a.fr, { cls := .type "function", data := .func a.fdR }), (a.cr, a.oC), (a.at_, W.listOf #[.int 0 tp] 0), (a.ca, a.oA), (a.ct, a.oT), (58, tabObj tb)]

theorem slice_sign {T : Str} {p : Nat} (hp : p ≤ T.length) : Txt.slice T (some (p : Int)) (some ((p : Int) + 1)) = signAt T p := by
  rcases Nat.lt_or_ge p T.length with h | h
  · have := beq_iff_eq.mp (slice_closesL (x := T) (i := (p : Int)) (j := (p : Int) + 1) (by omega) (by omega) (by omega))
    rw [this]
    have e1 : ((p : Int)).toNat = p := by omega
    have e2 : ((p : Int) + 1 - p).toNat = 1 := by omega
    rw [e1, e2]; rfl
  · have hpe : p = T.length := Nat.le_antisymm hp h
    have e : Txt.slice T (some (p : Int)) (some ((p : Int) + 1)) = Txt.slice T (some (p : Int)) (some (p : Int)) := by
      unfold Txt.slice
      have e2 : PySem.Builtin.Str.strSliceIndices (some (p : Int)) (some ((p : Int) + 1)) 1 T.length = PySem.Builtin.Str.strSliceIndices (some (p : Int)) (some (p : Int)) 1 T.length := by
        have h0 : ¬ ((p : Int) < 0) := by omega
        have h1 : ¬ ((p : Int) + 1 < 0) := by omega
        have h2 : (1 : Int) > 0 := by decide
        simp only [PySem.Builtin.Str.strSliceIndices, h0, h1, h2, if_false, if_true]
        congr 1
        omega
      rw [e2]
    rw [e]
    have := beq_iff_eq.mp (slice_closesL (x := T) (i := (p : Int)) (j := (p : Int)) (by omega) (by omega) (by omega))
    rw [this]
    have e2 : ((p : Int) - p).toNat = 0 := by omega
    rw [e2]
    unfold signAt mkS
    have hn : T.cps.toList.drop p = [] := List.drop_eq_nil_of_le (Nat.le_trans (Nat.le_of_eq Array.length_toList) h)
    rw [hn, List.take_zero]
    rfl

theorem use_lookup {K : Frag} {a : Addr} {o o' : Obj} {P : Prop} (h : K.lookup a = some o) (h' : K.lookup a = some o') (k : o' = o → P) : P := k (Option.some.inj (h'.symm.trans h))

set_option maxHeartbeats 1000000 in
theorem ro_spec {w : World} {p : Program} {loose : List Str} {mean : ExcName → Option Value} {mg mb : Str → Option Value} {a : LexA} {n63 q63 name q nm : Str} {p63 params : Arguments} {s0 s2 s3 s4 : Stmt} {body : List Stmt} {scope sc63 : Scope} {pos : Pos}
    {oc dV kV doc63 pm63 cdv ctt dc pm ctv : Value} {od an : Option Addr} {osl : Array (Option Value)} {vs : Array Value} {t tT : Tok}
    (hK : (hd.heap_39 w.params).lookup 63 = some ⟨oc, od, .func (fnOf n63 q63 p63 [s0, .FunctionDef name params body [] none [] scope none nm pos, s2, s3, s4] sc63 dV kV doc63 pm63 an cdv ctt), osl⟩)
    (hR : a.fdR = fnX name q params body scope [("text", a.ct), ("at", a.ca)] .none .none dc pm none (.ref a.cr) ctv)
    (hc : a.oC.data = .fields vs) (hv : vs[1]? = some (.str q t))
    (hT : a.oT.data = .cell (some (.str a.T tT))) (hA : a.oA.data = .cell (some (.ref a.at_))) (O : LexOrd a) : ROSpec w p loose mean mg mb a := by
  refine' use_lookup hK ?e ?_
  case e => k_is
  intro e
  cases e
  clear hK
  intro A s R σ t1 hh hr hu hTl hp G H h
  have hO := O
  unfold LexOrd ltA at hO
  refine' codeS (dyn := lexLed w.params _ σ) G H ((H _ (.tail _ (.tail _ (.tail _ (.tail _ (.tail _ (.head _))))))).trans (by rw [hR])) rfl ?hcd ?room ?bind ?loc ?_ ?c1 ?c2 ?c3 ?c4
  case hcd => exact ⟨_, _, _, _, rfl, H _ (.tail _ (.tail _ (.tail _ (.tail _ (.tail _ (.tail _ (.head _))))))), by assumption, by assumption⟩
  case room => omega
  case bind => exact BindsTo.of_eq rfl
  case loc => exact locs rfl
  case c1 => decide
  case c2 => exact rfl
  case c3 => exact rfl
  case c4 => exact rfl
  intro g' L' h' F' N' X' T' l1 st
  k_lt l1
  have codeHd : CodeHd g' 62 58 := codeHd_of_K X' (by kernel_rfl)
  (try dsimp only)
  (try k_fold)
  dsimp only [lexLed] at N'
  iterate 44 (first | (k_unfold; (try dsimp only)) | (k_end; wrow_close) | walk1 | (dsimp only; walk1) | skip)
  rename News _ _ _ _ => N
  rename Fr _ _ _ _ => F
  rw [slice_sign hp] at N ⊢
  rw [← Int.natCast_add] at N
  exact ⟨_, _, F, fun st' => h _ _ _ _ st' (news_has N)⟩
set_option maxHeartbeats 4000000 in
theorem lexer_new {w : World} {A : Around} {s : Shared} {p : Program} {loose : List Str} {mean : ExcName → Option Value} {mg mb : Str → Option Value} {R : Result → Shared → Prop} {T : Str} {tT : Tok} {c : Addr} {ox : Obj}
    (hh : A.handled = none) (hr : A.depth + 10 < recursionLimit) (hc : ltA 58 c)
    (G : Base (hd.heap_39 w.params) p loose mean mg mb [58, c] s.heap) (H : Has s.heap [(58, tabObj #[]), (c, ox)])
    (h : ∀ h' tk x dx pb st sd fr cr at_ ct ca oT oA fdR oC fdS ks k1 k2 k3 k4 kw cl oL t0 tp, Stay [58, c] s.heap h' → h'.get? c = some ox →
      Has h' (newLed w.params ⟨x, dx, pb, st, sd, fr, cr, at_, ct, ca, T, oT, oA, fdR, oC, fdS, ks, k1, k2, k3, k4, kw⟩ cl oL t0 tp (#[] ++ #[rawInt (49 : Nat), rawInt (4 : Nat), .ref cr] ++ #[rawInt (53 : Nat), rawInt (13 : Nat), .ref cl])) →
      ltA c ct → ltA fr cl → ltA cl st → ltA at_ cr → ltA cr fr → LexOrd ⟨x, dx, pb, st, sd, fr, cr, at_, ct, ca, T, oT, oA, fdR, oC, fdS, ks, k1, k2, k3, k4, kw⟩ →
      ROSpec w p loose mean mg mb ⟨x, dx, pb, st, sd, fr, cr, at_, ct, ca, T, oT, oA, fdR, oC, fdS, ks, k1, k2, k3, k4, kw⟩ →
      (∀ d ∈ [x, dx, pb, st, sd, fr, cr, at_, ct, ca, cl], s.heap.get? d = none) → RoCode oC →
      R (.ok (.ret (.ref x))) { s with heap := h', toks := tk }) :
    codeAny (model PR w) A (.call (.ref 63) ⟨[.str T tT], []⟩) R s := by
  unfold ltA at hc
  refine' code_KC (dyn := [(58, tabObj #[]), (c, ox)]) G H ?ho ?hcd ?hroom ?hbind ?hkind ?hnd ?_ ?c1 ?c2 ?c3
  case ho => k_is
  case hcd => k_is
  case hroom => omega
  case hbind => exact BindsTo.of_eq rfl
  case hkind => exact rfl
  case hnd => decide +kernel
  case c1 => exact rfl
  case c2 => exact rfl
  case c3 => exact rfl
  intro g' L' h' tk' cells' F' N' Y' X' T' l1 st
  k_lt l1
  k_cells Y'
  simp only [List.cons_append, List.nil_append] at N'
  have codeHd : CodeHd g' 62 58 := codeHd_of_K X' (by kernel_rfl)
  (try dsimp only)
  (try k_fold)
  k_steps
  rename News _ _ _ _ => N
  rename Fr _ _ _ _ => F
  refine ⟨_, _, F, fun st' => h _ _ _ _ _ _ _ _ _ _ _ _ _ _ _ _ _ _ _ _ _ _ _ _ _ _ _ st' (news_has N (c, ox) (by simp)) (fun q hq => news_has N q (List.mem_append_left [(c, ox)] hq)) ?_ ?_ ?_ ?_ ?_ ?_ ?_ ?_ ⟨_, _, by assumption, by assumption⟩⟩
  · show @LT.lt Nat instLTNat c _
    omega
  · show @LT.lt Nat instLTNat _ _
    omega
  · show @LT.lt Nat instLTNat _ _
    omega
  · show @LT.lt Nat instLTNat _ _
    omega
  · show @LT.lt Nat instLTNat _ _
    omega
  · unfold LexOrd ltA
    dsimp only
    omega
  · exact ro_spec (by k_is) rfl (by assumption) (by assumption) (by assumption) (by assumption) (by
      unfold LexOrd ltA
      dsimp only
      omega)
  · intro d hd
    simp only [List.mem_cons, List.not_mem_nil, or_false] at hd
    rcases hd with rfl | rfl | rfl | rfl | rfl | rfl | rfl | rfl | rfl | rfl | rfl
    all_goals refine fresh_of N st (by simp) (fun hm => ?_)
    all_goals (simp only [List.map_cons, List.map_nil, List.mem_cons, List.not_mem_nil, or_false] at hm; rcases hm with hm | hm <;> ((replace hm : @Eq Nat _ _ := hm); omega))
end Mine

namespace Mine
theorem fillH : (PySem.Challenge.rw_wv0071_01.foot = 3) ∧ (∀ P, hd.heap_39 P = hd.heap_39 P) := by k_fill; exact ⟨rfl, fun _ => rfl⟩
local macro_rules | `(tactic| walk_at "enterK") => `(tactic| (refine' code_K ?G ?H ?k6 ?k7 ?k8 ?k9 ?kB ?_ ?c5 ?c2 ?c3 ?c4; (case H => assumption); (case G => assumption); (case k6 => k_is); (case k7 => k_is); (case k8 => omega); (case k9 => exact BindsTo.of_eq rfl); (case c5 => decide); (case kB => exact locs rfl); (case c2 => exact rfl); (case c3 => exact rfl); (case c4 => exact rfl); k_whole))

theorem method_fnN {prog : Program} {w : World} {A : Around} {E : Value → Shared → Prop} {s : Shared} {h₀ : Heap} {L : Addr} {news : List (Addr × Obj)} {f d r : Addr} {fd : FuncData} {es : List DictEntry} {n : Nat} {pl : Sem Bool} {Q : Value × List Value → Shared → Prop}
    (N : News h₀ L s.heap news) (m1 : (f, fnDict d fd) ∈ news) (m2 : (d, dictOf es n) ∈ news) (hl : getL "read" es = some (some (.ref r)))
    (h : Q (.ref r, []) { s with toks := s.toks + 1 }) : wpAny (model prog w) A (getMethod (.ref f) "read" pl) Q E s :=
  method_fnobj (N _ m1).1 (N _ m2).1 ((lookIn_dict _ _ _).trans hl) h
local macro_rules | `(tactic| walk_at "getMethod ref") => `(tactic| (k_here; (with_reducible show wpAny _ _ (getMethod _ (PySem.Str.ofString "read") _) _ _ _); k_dflt (refine' method_fnN ?N ?m1 ?m2 ?l ?_; (case N => k_asm); (case m1 => k_mem); (case m2 => k_mem); (case l => k_get); k_whole)))

/-- one for a line's end, else nought -/
def nlOf (c : Str) : Int := if (c == "\n") = true then 1 else 0

/-- the room that a call needs -/
structure Room (A : Around) : Prop where
  hh : A.handled = none
  hd : A.depth + 20 < recursionLimit
  hu : A.units + 200 < cLine

/-- a lexer is well made -/
structure LexOk (w : World) (p : Program) (loose : List Str) (mean : ExcName → Option Value) (mg mb : Str → Option Value) (a : LexA) : Prop where
  ord : LexOrd a
  ro : ROSpec w p loose mean mg mb a
  len : a.T.length ≤ 1048576

section
variable {w : World} {A : Around} {E : Value → Shared → Prop} {s : Shared} {p : Program} {loose : List Str} {mean : ExcName → Option Value} {mg mb : Str → Option Value} {h₀ : Heap} {L : Addr} {m : Str → Option Value} {pre : List (Addr × Obj)} {a : LexA} {σ : LexS}

theorem led_addrs : (lexLed w.params a σ).map (·.1) = lexAddrs a := rfl
/-- a call that turns the lexer alone, seen from a frame -/
theorem lex_behind {σ' : LexS} {h' : Heap} (F : Fr h₀ L s.heap m) (N : News h₀ L s.heap (pre ++ lexLed w.params a σ)) (ne : ∀ q ∈ pre, q.1 ∉ lexAddrs a)
    (st : Stay (lexAddrs a) s.heap h') (H : Has h' (lexLed w.params a σ')) : Fr h₀ L h' m ∧ News h₀ L h' (pre ++ lexLed w.params a σ') := by
  have k : ∀ d ∈ lexAddrs a, d ∈ (pre ++ lexLed w.params a σ).map (·.1) := fun d hd => by
    rw [List.map_append]; exact List.mem_append_right _ (by rw [led_addrs]; exact hd)
  refine ⟨fr_behind F N k st, fun q hq => ?_⟩
  rcases List.mem_append.mp hq with hq | hq
  · have n := N q (List.mem_append_left _ hq)
    exact ⟨st _ _ (ne q hq) n.1, n.2⟩
  · have hm : q.1 ∈ lexAddrs a := by rw [← led_addrs (w := w) (σ := σ')]; exact List.mem_map_of_mem hq
    obtain ⟨x, hx, e⟩ := List.mem_map.mp (k _ hm)
    have n := (N x hx).2
    rw [e] at n
    exact ⟨H q hq, n⟩
theorem lex_base {K : Frag} (F : Fr h₀ L s.heap m) (X : K.In h₀) (N : News h₀ L s.heap (pre ++ lexLed w.params a σ)) (T : Top p loose mean mg mb h₀) : Base K p loose mean mg mb (lexAddrs a) s.heap :=
  Base.of F N X T fun d hd => by rw [List.map_append]; exact List.mem_append_right _ (by rw [led_addrs]; exact hd)
theorem lex_has (N : News h₀ L s.heap (pre ++ lexLed w.params a σ)) : Has s.heap (lexLed w.params a σ) := fun q hq => (N q (List.mem_append_right _ hq)).1

theorem use_ro {t1 : Tok} {Q : Value → Shared → Prop} (pre : List (Addr × Obj)) (σ : LexS) (O : LexOk w p loose mean mg mb a) (F : Fr h₀ L s.heap m) (X : (hd.heap_39 w.params).In h₀) (N : News h₀ L s.heap (pre ++ lexLed w.params a σ)) (T : Top p loose mean mg mb h₀)
    (hh : A.handled = none) (hr : A.depth + 3 < recursionLimit) (hu : A.units + 50 < cLine) (hp : σ.p ≤ a.T.length) (ne : ∀ q ∈ pre, q.1 ∉ lexAddrs a)
    (h : ∀ h' tk tr tp, Fr h₀ L h' m → News h₀ L h' (pre ++ lexLed w.params a { σ with p := σ.p + (signAt a.T σ.p).length, tp := tp }) → Q (.str (signAt a.T σ.p) tr) { s with heap := h', toks := tk }) :
    wpAny (model PR w) A (call (.ref a.fr) [.int 1 t1]) Q E s :=
  wpAny_call (O.ro _ _ _ σ t1 hh hr hu O.len hp (lex_base F X N T) (lex_has N) fun h' tk tr tp st H =>
    h h' tk tr tp (lex_behind F N ne st H).1 (lex_behind F N ne st H).2)
end

set_option maxHeartbeats 2000000 in
theorem read_char_code {w : World} {A : Around} {s : Shared} {p : Program} {loose : List Str} {mean : ExcName → Option Value} {mg mb : Str → Option Value} {R : Result → Shared → Prop} {a : LexA} {σ : LexS}
    (hA : A.handled = none) (hr : A.depth + 5 < recursionLimit) (hu : A.units + 60 < cLine) (O : LexOk w p loose mean mg mb a) (hp : σ.p ≤ a.T.length)
    (G : Base (hd.heap_39 w.params) p loose mean mg mb (lexAddrs a) s.heap) (H : Has s.heap (lexLed w.params a σ))
    (h : ∀ h' tk tr tp tn, Stay (lexAddrs a) s.heap h' → Has h' (lexLed w.params a { σ with p := σ.p + (signAt a.T σ.p).length, tp := tp, n := σ.n + nlOf (signAt a.T σ.p), tn := tn }) →
      R (.ok (.ret (.str (signAt a.T σ.p) tr))) { s with heap := h', toks := tk }) :
    codeAny (model PR w) A (.call (.ref 35) ⟨[.ref a.x], []⟩) R s := by
  have hO := O.ord
  unfold LexOrd ltA at hO
  have H0 : Has s.heap (lexLed w.params a σ) := H
  refine' code_K (dyn := lexLed w.params a σ) G H0 ?k6 ?k7 ?k8 ?k9 ?kB ?_ ?c5 ?c2 ?c3 ?c4
  case k6 => k_is
  case k7 => k_is
  case k8 => omega
  case k9 => exact BindsTo.of_eq rfl
  case c5 => decide
  case kB => exact locs rfl
  case c2 => exact rfl
  case c3 => exact rfl
  case c4 => exact rfl
  intro g' L' h' F' N' X' T' l1 st
  k_lt l1
  dsimp only [lexLed] at N'
  have codeHd : CodeHd g' 62 58 := codeHd_of_K X' (by kernel_rfl)
  (try dsimp only)
  (try k_fold)
  k_steps
  rename News _ _ _ _ => N1
  rename Fr _ _ _ _ => F1
  refine use_ro [] σ O F1 X' N1 T' hA (by simp only [depth_deeper]; omega) (by simp only [units_deeper]; omega) hp (fun _ hq => nomatch hq) ?_
  clear N1 F1
  intro h' tk' tr tp F' N'
  dsimp only [lexLed, List.nil_append] at N'
  k_steps
  · rename News _ _ _ _ => N
    rename Fr _ _ _ _ => F
    rename _ = true => e
    rw [show σ.n + nlOf (signAt a.T σ.p) = σ.n + 1 by unfold nlOf; rw [if_pos e]] at h
    exact ⟨_, _, F, fun st' => h _ _ _ _ _ st' (news_has N)⟩
  · rename News _ _ _ _ => N
    rename Fr _ _ _ _ => F
    rename _ = false => e
    rw [show σ.n + nlOf (signAt a.T σ.p) = σ.n by unfold nlOf; rw [e]; exact Int.add_zero _] at h
    exact ⟨_, _, F, fun st' => h _ _ _ _ _ st' (news_has N)⟩
end Mine

namespace Mine
theorem fillI : (PySem.Challenge.rw_wv0071_01.foot = 3) ∧ (∀ P, hd.heap_39 P = hd.heap_39 P) := by k_fill; exact ⟨rfl, fun _ => rfl⟩

/- THE PLAIN WORDS -/
def isWs (c : Nat) : Bool := c == 10 || c == 9 || c == 13 || c == 32
/-- within quotation marks: the word, what is left -/
def quoted : List Nat → List Nat → List Nat × List Nat
  | [], acc => (acc, [])
  | [c], acc => if c == 34 then (acc, []) else if c == 92 then (acc, []) else (acc ++ [c], [])
  | c :: d :: r, acc => if c == 34 then (acc, d :: r) else if c == 92 then quoted r (acc ++ [d]) else quoted (d :: r) (acc ++ [c])
/-- a bare word -/
def bare : List Nat → List Nat → List Nat × List Nat
  | [], acc => (acc, [])
  | [c], acc => if isWs c then (acc, []) else if c == 92 then (acc, []) else (acc ++ [c], [])
  | c :: d :: r, acc => if isWs c then (acc, d :: r) else if c == 92 then bare r (acc ++ [d]) else bare (d :: r) (acc ++ [c])
/-- one word: blanks, then what the next sign says -/
def word : List Nat → List Nat × List Nat
  | [] => ([], [])
  | c :: r => if isWs c then word r else if c == 34 then quoted r [] else bare (c :: r) []

theorem quoted_nil (acc : List Nat) : quoted [] acc = (acc, []) := by simp [quoted]
theorem quoted_q (r acc : List Nat) : quoted (34 :: r) acc = (acc, r) := by cases r <;> simp [quoted]
theorem quoted_e (acc : List Nat) : quoted [92] acc = (acc, []) := by simp [quoted]
theorem quoted_b (d : Nat) (r acc : List Nat) : quoted (92 :: d :: r) acc = quoted r (acc ++ [d]) := by simp [quoted]
theorem quoted_c {c : Nat} (r acc : List Nat) (h1 : (c == 34) = false) (h2 : (c == 92) = false) : quoted (c :: r) acc = quoted r (acc ++ [c]) := by
  cases r <;> simp [quoted, h1, h2]
theorem bare_nil (acc : List Nat) : bare [] acc = (acc, []) := by simp [bare]
theorem bare_w {c : Nat} (r acc : List Nat) (h : isWs c = true) : bare (c :: r) acc = (acc, r) := by cases r <;> simp [bare, h]
theorem bare_e (acc : List Nat) : bare [92] acc = (acc, []) := by simp [bare, isWs]
theorem bare_b (d : Nat) (r acc : List Nat) : bare (92 :: d :: r) acc = bare r (acc ++ [d]) := by simp [bare, isWs]
theorem bare_c {c : Nat} (r acc : List Nat) (h1 : isWs c = false) (h2 : (c == 92) = false) : bare (c :: r) acc = bare r (acc ++ [c]) := by
  cases r <;> simp [bare, h1, h2]

theorem func_at {K : Frag} {f : Addr} {oc : Value} {od : Option Addr} {fd : FuncData} {osl : Array (Option Value)} (h : K.lookup f = some ⟨oc, od, .func fd, osl⟩) : ∃ o, K.lookup f = some o ∧ ∃ fd, o.data = .func fd := ⟨_, h, _, rfl⟩
/-- the text's signs -/
abbrev LexA.cs (a : LexA) : List Nat := a.T.cps.toList
theorem cs_len (a : LexA) : a.cs.length = a.T.length := Array.length_toList
theorem sign_cons {a : LexA} {k c : Nat} {r : List Nat} (e : a.cs.drop k = c :: r) : signAt a.T k = mkS [c] := by
  unfold signAt; rw [show a.T.cps.toList.drop k = c :: r from e]; rfl
theorem sign_nil {a : LexA} {k : Nat} (e : a.cs.drop k = []) : signAt a.T k = mkS [] := by
  unfold signAt; rw [show a.T.cps.toList.drop k = [] from e]; rfl
theorem mkS_len (l : List Nat) : (mkS l).length = l.length := by show l.toArray.size = _; simp
theorem mkS_one (c d : Nat) : (mkS [c] == mkS [d]) = (c == d) := by
  by_cases h : c = d
  · subst h; simp
  · have : mkS [c] ≠ mkS [d] := fun e => h (by unfold mkS at e; injection e with e; simpa using e)
    rw [beq_eq_false_iff_ne.mpr this, beq_eq_false_iff_ne.mpr h]
theorem lit_nl : ("\n" : Str) = mkS [10] := by decide +kernel
theorem lit_q : ("\"" : Str) = mkS [34] := by decide +kernel
theorem lit_b : ("\\" : Str) = mkS [92] := by decide +kernel
theorem lit_e : ("" : Str) = mkS [] := by decide +kernel
theorem nl_one (c : Nat) : nlOf (mkS [c]) = if (c == 10) = true then 1 else 0 := by unfold nlOf; rw [lit_nl, mkS_one]
theorem nl_none : nlOf (mkS []) = 0 := by decide +kernel
theorem mkS_app (x y : List Nat) : mkS x ++ mkS y = mkS (x ++ y) := by
  show (⟨x.toArray ++ y.toArray⟩ : Str) = ⟨(x ++ y).toArray⟩
  simp

section
variable {w : World} {A : Around} {s : Shared} {p : Program} {loose : List Str} {mean : ExcName → Option Value} {mg mb : Str → Option Value} {h₀ : Heap} {L : Addr} {m : Str → Option Value} {pre : List (Addr × Obj)} {a : LexA} {σ : LexS}

/-- the state behind one sign, where one stands -/
abbrev LexS.step (σ : LexS) (c : Nat) (tp tn : Tok) : LexS := { σ with p := σ.p + 1, tp := tp, n := σ.n + (if (c == 10) = true then 1 else 0), tn := tn }

theorem drop_cons_lt {l : List Nat} {k c : Nat} {r : List Nat} (e : l.drop k = c :: r) : k < l.length := by
  rcases Nat.lt_or_ge k l.length with h | h
  · exact h
  · rw [List.drop_eq_nil_of_le h] at e; cases e
theorem drop_succ {l : List Nat} {k c : Nat} {r : List Nat} (e : l.drop k = c :: r) : l.drop (k + 1) = r := by
  rw [← List.drop_drop, e]; rfl

/-- _read_char, called from a frame -/
theorem use_rc {Q : Value → Shared → Prop} {E : Value → Shared → Prop} (pre : List (Addr × Obj)) (σ : LexS) (O : LexOk w p loose mean mg mb a) (F : Fr h₀ L s.heap m) (X : (hd.heap_39 w.params).In h₀) (N : News h₀ L s.heap (pre ++ lexLed w.params a σ)) (T : Top p loose mean mg mb h₀)
    (hh : A.handled = none) (hr : A.depth + 5 < recursionLimit) (hu : A.units + 60 < cLine) (hp : σ.p ≤ a.T.length) (ne : ∀ q ∈ pre, q.1 ∉ lexAddrs a)
    (h0 : a.cs.drop σ.p = [] → ∀ h' tk tr tp tn, Fr h₀ L h' m → News h₀ L h' (pre ++ lexLed w.params a { σ with tp := tp, tn := tn }) → Q (.str (mkS []) tr) { s with heap := h', toks := tk })
    (h1 : ∀ c r, a.cs.drop σ.p = c :: r → ∀ h' tk tr tp tn, Fr h₀ L h' m → News h₀ L h' (pre ++ lexLed w.params a (σ.step c tp tn)) → Q (.str (mkS [c]) tr) { s with heap := h', toks := tk }) :
    wpAny (model PR w) A (call (.ref 35) [.ref a.x]) Q E s := by
  refine wpAny_call (read_char_code hh hr hu O hp (lex_base F X N T) (lex_has N) fun h' tk tr tp tn st H => ?_)
  obtain ⟨F', N'⟩ := lex_behind F N ne st H
  cases e : a.cs.drop σ.p with
  | nil =>
    rw [sign_nil e, nl_none, show (mkS []).length = 0 from rfl, Nat.add_zero, Int.add_zero] at N'
    rw [sign_nil e]
    exact h0 e h' tk tr tp tn F' N'
  | cons c r =>
    rw [sign_cons e, nl_one, show (mkS [c]).length = 1 from rfl] at N'
    rw [sign_cons e]
    exact h1 c r e h' tk tr tp tn F' N'

/-- next of the iterator over the lexer's signs -/
theorem next_lex {Q : Option Value → Shared → Prop} {E : Value → Shared → Prop} {it q : Addr} {tu : Tok} (σ : LexS) (O : LexOk w p loose mean mg mb a) (F : Fr h₀ L s.heap m) (X : (hd.heap_39 w.params).In h₀)
    (N : News h₀ L s.heap ((it, citObj (.ref q) (.str "" tu) (.bool false)) :: (q, methodObj (.ref 35) (.ref a.x)) :: lexLed w.params a σ)) (T : Top p loose mean mg mb h₀)
    (hh : A.handled = none) (hr : A.depth + 5 < recursionLimit) (hu : A.units + 70 < cLine) (hp : σ.p ≤ a.T.length) (nit : it ∉ lexAddrs a) (nq : q ∉ lexAddrs a) (hne : q ≠ it)
    (h0 : a.cs.drop σ.p = [] → ∀ h' tk tp tn, Fr h₀ L h' m → News h₀ L h' ((it, citObj .none .none (.bool true)) :: (q, methodObj (.ref 35) (.ref a.x)) :: lexLed w.params a { σ with tp := tp, tn := tn }) → Q none { s with heap := h', toks := tk })
    (h1 : ∀ c r, a.cs.drop σ.p = c :: r → ∀ h' tk tr tp tn, Fr h₀ L h' m → News h₀ L h' ((it, citObj (.ref q) (.str "" tu) (.bool false)) :: (q, methodObj (.ref 35) (.ref a.x)) :: lexLed w.params a (σ.step c tp tn)) → Q (some (.str (mkS [c]) tr)) { s with heap := h', toks := tk }) :
    wpAny (model PR w) A (pyNext (.ref it)) Q E s := by
  have hN : News h₀ L s.heap ([(it, citObj (.ref q) (.str "" tu) (.bool false)), (q, methodObj (.ref 35) (.ref a.x))] ++ lexLed w.params a σ) := N
  have ne : ∀ z ∈ [(it, citObj (.ref q) (.str "" tu) (.bool false)), (q, methodObj (.ref 35) (.ref a.x))], z.1 ∉ lexAddrs a := fun z hz => by
    rcases List.mem_cons.mp hz with rfl | hz
    · exact nit
    · rcases List.mem_cons.mp hz with rfl | hz
      · exact nq
      · exact nomatch hz
  have hX : ∃ o, (hd.heap_39 w.params).lookup 35 = some o ∧ ∃ fd, o.data = .func fd := by
    refine' func_at ?e
    case e => k_is
  obtain ⟨o, ho, fd, hd'⟩ := hX
  have hq := (N (q, _) (.tail _ (.head _))).1
  have k35 : s.heap.get? 35 = some o := F.keep _ _ (X _ _ ho)
  refine next_cit hh (N (it, _) (.head _)).1 hq k35 hd' (method_call hq ?_)
  refine read_char_code (A := A.in1) hh hr (by rw [units_in1]; omega) O hp (lex_base F X hN T) (lex_has hN) fun h' tk tr tp tn st H => ?_
  obtain ⟨F', N'⟩ := lex_behind F hN ne st H
  refine ⟨_, _, rfl, (N' (it, _) (.head _)).1, (N' (q, _) (.tail _ (.head _))).1, ⟨o, F'.keep _ _ (X _ _ ho), fd, hd'⟩, ?_⟩
  cases e : a.cs.drop σ.p with
  | nil =>
    rw [sign_nil e, nl_none, show (mkS []).length = 0 from rfl, Nat.add_zero, Int.add_zero] at N'
    rw [sign_nil e, if_pos lit_e]
    intro h2 e2 k2
    refine h0 e h2 tk tp tn ?_ ?_
    · refine ⟨F'.ns.extBut (b := it) (fun b o hb e => k2 b o hb e) (fun q => (N' (it, _) (.head _)).2.1 q.symm), fun b o e => k2 b o (fun q => ?_) (F'.keep b o e), F'.above⟩
      have := (N' (it, _) (.head _)).2.2
      rw [q] at e
      rw [e] at this; cases this
    · intro z hz
      rcases List.mem_cons.mp hz with rfl | hz
      · exact ⟨e2, (N' (it, _) (.head _)).2⟩
      · have n := N' z (.tail _ hz)
        refine ⟨k2 _ _ (fun q => ?_) n.1, n.2⟩
        rcases List.mem_cons.mp hz with rfl | hz
        · exact hne q
        · exact nit (by rw [← q, ← led_addrs (w := w) (σ := { σ with tp := tp, tn := tn })]; exact List.mem_map_of_mem hz)
  | cons c r =>
    rw [sign_cons e, nl_one, show (mkS [c]).length = 1 from rfl] at N'
    rw [sign_cons e, if_neg (by rw [lit_e]; exact fun q => by unfold mkS at q; injection q with q; cases (congrArg Array.size q))]
    exact h1 c r e h' tk tr tp tn F' N'

/-- a for over an iterator, by what holds between its turns -/
theorem for_it {env : Env} {Q : Flow → Shared → Prop} {y f : Str} {py pf pos : Pos} {body : List Stmt} {it : Addr} {fu u e : Value} (I : Nat → Shared → Prop) (n : Nat)
    (hiter : ∀ Q' : Value → Shared → Prop, Q' (.ref it) s → wpAny (model PR w) A (eval (.Name f pf) env) Q' (fun _ _ => False) s)
    (hit : s.heap.get? it = some (citObj fu u e)) (h : I n s)
    (turn : ∀ n s, I n s → wpAny (model PR w) A (pyNext (.ref it)) (fun r s₁ => match r with
      | none => Q .next s₁
      | some v => wpAny (model PR w) A (storeName env y v) (fun _ s₂ => wpAny (model PR w) A (execs body env) (fun f s₃ => match f with
          | .next | .cont => ∃ m, m < n ∧ I m s₃
          | .brk => Q .next s₃
          | .ret v => Q (.ret v) s₃) (fun _ _ => False) s₂) (fun _ _ => False) s₁) (fun _ _ => False) s) :
    wpAny (model PR w) A (exec (.For (.Name y py) (.Name f pf) body [] pos) env) Q (fun _ _ => False) s := by
  refine wpAny_For (hiter _ (pyIter_cit hit ?_))
  refine codeAny_forLoop I (fun n s hI => ?_) n h
  refine wpAny_mono (turn n s hI) (fun r s₁ z => ?_) fun _ _ z => z.elim
  cases r with
  | none => exact wpAny_execs_nil z
  | some v =>
    refine wpAny_assign_Name (wpAny_mono z (fun _ s₂ z => wpAny_mono z (fun f s₃ z => ?_) fun _ _ z => z.elim) fun _ _ z => z.elim)
    cases f <;> exact z
end
end Mine

namespace Mine
theorem fillJ : (PySem.Challenge.rw_wv0071_01.foot = 3) ∧ (∀ P, hd.heap_39 P = hd.heap_39 P) := by k_fill; exact ⟨rfl, fun _ => rfl⟩

section
variable {prog : Program} {w : World} {A : Around} {E : Value → Shared → Prop} {s : Shared} {h₀ : Heap} {L : Addr} {m m' : Str → Option Value} {news : List (Addr × Obj)}
theorem iter2_N {q : Addr} {f x u : Value} {Q : Value → Shared → Prop} (F : Fr h₀ L s.heap m) (N : News h₀ L s.heap news) (mq : (q, methodObj f x) ∈ news)
    (h : ∀ it h', Fr h₀ L h' m → News h₀ L h' ((it, citObj (.ref q) u (.bool false)) :: news) → (∀ z ∈ news, z.1 < it) → Q (.ref it) { s with heap := h' }) :
    wpAny (model prog w) A (call (.builtin "iter") [.ref q, u]) Q E s :=
  call_iter2 (N _ mq).1 (h _ _ (F.push _) (N.push F _) fun z hz => Heap.lt_size (N z hz).1)
theorem fr_eq (F : Fr h₀ L s.heap m) (e : ∀ y, m y = m' y) : Fr h₀ L s.heap m' := (funext e) ▸ F
end
local macro_rules | `(tactic| walk_at "call builtin:iter") => `(tactic| (k_here; (with_reducible show wpAny _ _ (call (Value.builtin _) [Value.ref _, _]) _ _ _); k_dflt (refine' iter2_N ?F ?N ?m ?_; (case F => k_asm); (case N => k_asm); (case m => k_mem); k_whole); intro it' h' F' N' l1; (try k_lt l1); (try k_sweep)))

/-- the frame's names while the word grows -/
abbrev mT (B : Str → Option Value) (tok : Value) (ch : Option Value) : Str → Option Value := fun y => if y = "token" then some tok else if y = "ch" then ch else B y

/-- the lines told are those gone over -/
def LineOk (a : LexA) (σ : LexS) : Prop := σ.n = 1 + ((a.cs.take σ.p).count 10 : Nat)
theorem line_step {a : LexA} {σ : LexS} {c : Nat} {r : List Nat} {tp tn : Tok} (h : LineOk a σ) (e : a.cs.drop σ.p = c :: r) : LineOk a (σ.step c tp tn) := by
  unfold LineOk at h ⊢
  have hl := drop_cons_lt e
  have hc : a.cs[σ.p]? = some c := by rw [← List.head?_drop, e]; rfl
  show σ.n + _ = _
  rw [h, List.take_add_one, hc, Option.toList_some, List.count_append]
  by_cases q : c = 10
  · subst q; simp; omega
  · have : (c == 10) = false := beq_eq_false_iff_ne.mpr q
    rw [this]
    simp [q]

theorem fr_mT {g h : Heap} {L : Addr} {B : Str → Option Value} {tok : Value} (F : Fr g L h B) (ht : B "token" = some tok) : Fr g L h (mT B tok (B "ch")) := by
  have e : B = mT B tok (B "ch") := by
    funext y
    by_cases h1 : y = "token"
    · subst h1; rw [ht]; rfl
    · by_cases h2 : y = "ch"
      · subst h2; rfl
      · show B y = if y = "token" then some tok else if y = "ch" then B "ch" else B y
        rw [if_neg h1, if_neg h2]
  rw [← e]; exact F
theorem fr_to {g h : Heap} {L : Addr} {B m : Str → Option Value} {tok : Value} (F : Fr g L h m) (h1 : m "token" = some tok) (h2 : ∀ y : Str, y ≠ "token" → y ≠ "ch" → m y = B y) : Fr g L h (mT B tok (m "ch")) := by
  have e : m = mT B tok (m "ch") := by
    funext y
    by_cases n1 : y = "token"
    · subst n1; rw [h1]; rfl
    · by_cases n2 : y = "ch"
      · subst n2; rfl
      · show m y = if y = "token" then some tok else if y = "ch" then m "ch" else B y
        rw [if_neg n1, if_neg n2, h2 y n1 n2]
  rw [← e]; exact F
theorem iadd_mk {prog : Program} {w : World} {A : Around} {E : Value → Shared → Prop} {s : Shared} {x y : List Nat} {t u : Tok} {Q : Value → Shared → Prop} (hsz : x.length + y.length ≤ sizeLine) (h : ∀ t' tk, Q (.str (mkS (x ++ y)) t') { s with toks := tk }) :
    wpAny (model prog w) A (inplaceOp .Add (.str (mkS x) t) (.str (mkS y) u)) Q E s :=
  PyProof.Rows.iadd_str (fun t' tk => by rw [mkS_app]; exact h t' tk) (by rw [mkS_len, mkS_len]; exact hsz)
theorem ws_in (c : Nat) : (Builtin.Str.occurrences "\n\t\r " (mkS [c]) 0 (Str.length "\n\t\r ") 1).isEmpty = !isWs c := by
  have k := StrLaws.found_one "\n\t\r " c
  have e : (("\n\t\r " : Str)).cps.toList = [10, 9, 13, 32] := by decide +kernel
  rw [e] at k
  have k2 : (!(Builtin.Str.occurrences "\n\t\r " (mkS [c]) 0 (Str.length "\n\t\r ") 1).isEmpty) = decide (c ∈ [10, 9, 13, 32]) := k
  have k3 : decide (c ∈ [10, 9, 13, 32]) = isWs c := by
    rw [Bool.eq_iff_iff]
    simp [isWs, or_assoc]
  rw [k3] at k2
  rw [← k2, Bool.not_not]
theorem mT_ch {B : Str → Option Value} {tok v : Value} {ch : Option Value} : (fun y => if y = ("ch" : Str) then some v else mT B tok ch y) = mT B tok (some v) := by
  funext y
  by_cases h1 : y = "token"
  · subst h1; rfl
  · by_cases h2 : y = "ch"
    · subst h2; rfl
    · simp only [mT, if_neg h1, if_neg h2]
theorem mT_tok {B : Str → Option Value} {tok t2 : Value} {ch : Option Value} : (fun y => if y = ("token" : Str) then some t2 else mT B tok ch y) = mT B t2 ch := by
  funext y
  by_cases h1 : y = "token"
  · subst h1; rfl
  · simp only [mT, if_neg h1]

/- the walk, up to a loop, a call of _read_char, or what the loop's turn owes -/
local macro_rules | `(tactic| walk_at "go") => `(tactic| repeat' (first | ((fail_if_success (with_reducible show wpAny _ _ (exec (PySem.Stmt.For _ _ _ _ _) _) _ _ _)); (fail_if_success (with_reducible show wpAny _ _ (call (Value.ref 35) _) _ _ _)); (fail_if_success (with_reducible show Exists _)); first | (k_unfold; (try dsimp only)) | (k_end; wrow_close) | walk1 | (dsimp only; walk1) | (leave1; walk_say "STEP leave1"; try dsimp only)) | fail "no step"))

local macro_rules | `(tactic| walk_at "inplaceOp Add str str") => `(tactic| (k_here; (refine' iadd_mk ?z ?_; (case z => (rw [sizeLine_eq]; (try simp only [List.length_append, List.length_cons, List.length_nil]); omega)); k_whole); intro t' tk'))
local macro_rules | `(tactic| walk_at "eval Name") => `(tactic| (k_here; k_dflt (refine' nameX_L ?F ?v ?_ ?a ?b; (case F => k_asm); (case a => rfl); (case b => rfl); (case v => assumption); k_whole)))

theorem ne_pair {a : LexA} {it q : Addr} {o1 o2 : Obj} (nit : it ∉ lexAddrs a) (nq : q ∉ lexAddrs a) : ∀ z ∈ [(it, o1), (q, o2)], z.1 ∉ lexAddrs a := fun z hz => by
  rcases List.mem_cons.mp hz with rfl | hz
  · exact nit
  · rcases List.mem_cons.mp hz with rfl | hz
    · exact nq
    · exact nomatch hz
theorem ws_of {c : Nat} {b : Bool} (h : (Builtin.Str.occurrences "\n\t\r " (mkS [c]) 0 (Str.length "\n\t\r ") 1).isEmpty = b) : isWs c = !b := by
  rw [ws_in] at h; rw [← h, Bool.not_not]
theorem eq_of_q {c : Nat} (h : (mkS [c] == ("\"" : Str)) = true) : c = 34 := by rw [lit_q, mkS_one] at h; exact eq_of_beq h
theorem ne_of_q {c : Nat} (h : (mkS [c] == ("\"" : Str)) = false) : (c == 34) = false := by rw [lit_q, mkS_one] at h; exact h
theorem eq_of_b {c : Nat} (h : (mkS [c] == ("\\" : Str)) = true) : c = 92 := by rw [lit_b, mkS_one] at h; exact eq_of_beq h
theorem ne_of_b {c : Nat} (h : (mkS [c] == ("\\" : Str)) = false) : (c == 92) = false := by rw [lit_b, mkS_one] at h; exact h
theorem word_ws {c : Nat} {r : List Nat} (h : isWs c = true) : word (c :: r) = word r := by simp [word, h]
theorem word_q {r : List Nat} : word (34 :: r) = quoted r [] := by simp [word, isWs]
theorem word_c {c : Nat} {r : List Nat} (h : isWs c = false) (h2 : (c == 34) = false) : word (c :: r) = bare (c :: r) [] := by simp only [word, h, h2, Bool.false_eq_true, if_false]

/-- between two signs: the word so far, the iterator alive -/
def LexLive (w : World) (a : LexA) (g : Heap) (L : Addr) (B : Str → Option Value) (it q : Addr) (tu : Tok) (s s' : Shared) (σ : LexS) (acc : List Nat) : Prop :=
  ∃ h' tk tt ch, s' = { s with heap := h', toks := tk } ∧ Fr g L h' (mT B (.str (mkS acc) tt) ch) ∧
    News g L h' ((it, citObj (.ref q) (.str "" tu) (.bool false)) :: (q, methodObj (.ref 35) (.ref a.x)) :: lexLed w.params a σ) ∧ σ.p ≤ a.T.length ∧ LineOk a σ ∧ σ.ws = [] ∧ acc.length ≤ σ.p
/-- the iterator has ended -/
def LexDone (w : World) (a : LexA) (g : Heap) (L : Addr) (B : Str → Option Value) (it q : Addr) (s s' : Shared) (σ : LexS) (acc : List Nat) : Prop :=
  ∃ h' tk tt ch, s' = { s with heap := h', toks := tk } ∧ Fr g L h' (mT B (.str (mkS acc) tt) ch) ∧
    News g L h' ((it, citObj .none .none (.bool true)) :: (q, methodObj (.ref 35) (.ref a.x)) :: lexLed w.params a σ) ∧ σ.p ≤ a.T.length ∧ LineOk a σ ∧ σ.ws = []

set_option maxHeartbeats 2000000 in
theorem get_token_code {w : World} {A : Around} {s : Shared} {p : Program} {loose : List Str} {mean : ExcName → Option Value} {mg mb : Str → Option Value} {R : Result → Shared → Prop} {a : LexA} {σ : LexS}
    (hA : A.handled = none) (hr : A.depth + 10 < recursionLimit) (hu : A.units + 100 < cLine) (O : LexOk w p loose mean mg mb a) (hp : σ.p ≤ a.T.length) (hws : σ.ws = []) (hln : LineOk a σ)
    (G : Base (hd.heap_39 w.params) p loose mean mg mb (lexAddrs a) s.heap) (H : Has s.heap (lexLed w.params a σ))
    (h : ∀ h' tk tw σ', Stay (lexAddrs a) s.heap h' → Has h' (lexLed w.params a σ') → σ'.p ≤ a.T.length → LineOk a σ' → σ'.ws = [] → a.cs.drop σ'.p = (word (a.cs.drop σ.p)).2 →
      R (.ok (.ret (.str (mkS (word (a.cs.drop σ.p)).1) tw))) { s with heap := h', toks := tk }) :
    codeAny (model PR w) A (.call (.ref 42) ⟨[.ref a.x], []⟩) R s := by
  have hO := O.ord
  unfold LexOrd ltA at hO
  obtain ⟨σp, σtp, σn, σtn, σws, σwn⟩ := σ
  dsimp only at hws hp
  subst hws
  have H0 : Has s.heap (lexLed w.params a ⟨σp, σtp, σn, σtn, [], σwn⟩) := H
  refine' code_K (dyn := lexLed w.params a ⟨σp, σtp, σn, σtn, [], σwn⟩) G H0 ?k6 ?k7 ?k8 ?k9 ?kB ?_ ?c5 ?c2 ?c3 ?c4
  case k6 => k_is
  case k7 => k_is
  case k8 => omega
  case k9 => exact BindsTo.of_eq rfl
  case c5 => decide
  case kB => exact locs rfl
  case c2 => exact rfl
  case c3 => exact rfl
  case c4 => exact rfl
  intro g' L' h' F' N' X' T' l1 st
  k_lt l1
  dsimp only [lexLed] at N'
  have codeHd : CodeHd g' 62 58 := codeHd_of_K X' (by kernel_rfl)
  (try dsimp only)
  (try k_fold)
  walk_at "go"
  rename News _ _ _ _ => N
  rename Fr _ _ _ _ => F
  rename _ ∧ _ => l2
  rename_i tk0 hA1 q hA2 lq it hA3 hC
  generalize hW : word (a.cs.drop σp) = W at h
  have nit : it ∉ lexAddrs a := fun hm => by
    simp only [lexAddrs, List.mem_cons, List.not_mem_nil, or_false] at hm
    (replace hm : (@Eq Nat it a.x ∨ @Eq Nat it a.dx ∨ @Eq Nat it a.pb ∨ @Eq Nat it a.st ∨ @Eq Nat it a.sd ∨ @Eq Nat it a.fr ∨ @Eq Nat it a.cr ∨ @Eq Nat it a.at_ ∨ @Eq Nat it a.ca ∨ @Eq Nat it a.ct) := hm)
    omega
  have nq : q ∉ lexAddrs a := fun hm => by
    simp only [lexAddrs, List.mem_cons, List.not_mem_nil, or_false] at hm
    (replace hm : (@Eq Nat q a.x ∨ @Eq Nat q a.dx ∨ @Eq Nat q a.pb ∨ @Eq Nat q a.st ∨ @Eq Nat q a.sd ∨ @Eq Nat q a.fr ∨ @Eq Nat q a.cr ∨ @Eq Nat q a.at_ ∨ @Eq Nat q a.ca ∨ @Eq Nat q a.ct) := hm)
    omega
  have hne : q ≠ it := fun e => by
    (replace e : @Eq Nat q it := e)
    omega
  obtain ⟨B, hBs, hBf, F0⟩ : ∃ B, B "self" = some (.ref a.x) ∧ B "fiter" = some (.ref it) ∧ Fr g' L' hC (mT B (.str (mkS []) tk0) (B "ch")) :=
    ⟨_, rfl, rfl, fr_mT F (congrArg (fun x => some (Value.str x _)) lit_e)⟩
  obtain ⟨tu, N0⟩ : ∃ tu, News g' L' hC ((it, citObj (.ref q) (.str "" tu) (.bool false)) :: (q, methodObj (.ref 35) (.ref a.x)) :: lexLed w.params a ⟨σp, σtp, σn, σtn, [], σwn⟩) := ⟨_, N⟩
  clear F N
  refine for_it (fun n s' => (∃ σ', LexLive w a g' L' B it q tu s s' σ' [] ∧ word (a.cs.drop σ'.p) = W ∧ n = a.T.length + 2 - σ'.p) ∨ (∃ σ', LexDone w a g' L' B it q s s' σ' W.1 ∧ a.cs.drop σ'.p = W.2 ∧ n = 0)) (a.T.length + 2 - σp)
    (fun Q' hQ => ?_) (N0 (it, _) (.head _)).1 (.inl ⟨⟨σp, σtp, σn, σtn, [], σwn⟩, ⟨_, _, _, _, rfl, F0, N0, hp, hln, rfl, Nat.zero_le _⟩, hW, rfl⟩) ?_
  · exact ld F0 hBf hQ
  · clear N0 F0 hln
    rintro n s1 (⟨σ', ⟨h1, tk1, tt1, ch1, rfl, F1, N1, hp1, hl1, hw1, ha1⟩, hW1, hn1⟩ | ⟨σ', ⟨h1, tk1, tt1, ch1, rfl, F1, N1, hp1, hl1, hw1⟩, hW1, hn1⟩)
    · refine next_lex σ' O F1 X' N1 T' hA (by simp only [depth_deeper]; omega) (by simp only [units_deeper]; omega) hp1 nit nq hne ?_ ?_
      · intro e h2 tk2 tp2 tn2 F2 N2
        rw [e, show word [] = ([], []) from rfl] at hW1
        subst hW1
        (try dsimp only)
        walk_at "go"
        exact ⟨_, _, F2, fun st' => h _ _ _ { σ' with tp := tp2, tn := tn2 } st' ((news_has N2).sub fun z hz => .tail _ (.tail _ hz)) hp1 hl1 hw1 e⟩
      · intro c r e h2 tk2 tr2 tp2 tn2 F2 N2
        (try dsimp only)
        dsimp only [lexLed] at N2
        have hTl := O.len
        have hlt := drop_cons_lt e
        rw [cs_len] at hlt
        walk_at "go"
        · rename News _ _ _ _ => N3
          rename Fr _ _ _ _ => F3
          have hw := ws_of (by assumption)
          have hq := eq_of_q (by assumption)
          subst hq
          rw [e, word_q] at hW1
          have F4 := fr_to (B := B) F3 rfl (fun y n1 n2 => by simp only [mT, if_neg n1, if_neg n2])
          refine for_it (fun k s' => ∃ σ1 acc, LexLive w a g' L' B it q tu s s' σ1 acc ∧ quoted (a.cs.drop σ1.p) acc = W ∧ k = a.T.length + 1 - σ1.p) (a.T.length + 1 - (σ'.p + 1)) (fun Q' hQ => ld F4 hBf hQ) (N3 (it, _) (.head _)).1
            ⟨σ'.step 34 tp2 tn2, [], ⟨_, _, _, _, rfl, F4, N3, hlt, line_step hl1 e, hw1, Nat.zero_le _⟩, by rw [show (σ'.step 34 tp2 tn2).p = σ'.p + 1 from rfl, drop_succ e]; exact hW1, rfl⟩ ?_
          clear N3 F3 F4
          rintro k s4 ⟨σ1, acc, ⟨h4, tk4, tt4, ch4, rfl, F5, N5, hp5, hl5, hw5, ha5⟩, hW5, hk5⟩
          refine next_lex σ1 O F5 X' N5 T' hA (by simp only [depth_deeper]; omega) (by simp only [units_deeper]; omega) hp5 nit nq hne ?_ ?_
          · intro e5 h6 tk6 tp6 tn6 F6 N6
            rw [e5, quoted_nil] at hW5
            (try dsimp only)
            walk_at "go"
            exact ⟨0, by omega, .inr ⟨{ σ1 with tp := tp6, tn := tn6 }, ⟨_, _, _, _, rfl, by rw [← hW5]; exact F6, N6, hp5, hl5, hw5⟩, by rw [← hW5]; exact e5, rfl⟩⟩
          · intro c5 r5 e5 h6 tk6 tr6 tp6 tn6 F6 N6
            dsimp only [lexLed] at N6
            (try dsimp only)
            have hlt5 := drop_cons_lt e5
            rw [cs_len] at hlt5
            have hdr5 := drop_succ e5
            walk_at "go"
            · rename News _ _ _ _ => N7
              rename Fr _ _ _ _ => F7
              have hq := eq_of_q (by assumption)
              subst hq
              rw [e5, quoted_q] at hW5
              subst hW5
              exact ⟨_, _, F7, fun st' => h _ _ _ (σ1.step _ tp6 tn6) st' ((news_has N7).sub fun z hz => .tail _ (.tail _ hz)) hlt5 (line_step hl5 e5) hw5 hdr5⟩
            · rename News _ _ _ _ => N7
              rename Fr _ _ _ _ => F7
              have hb := eq_of_b (by assumption)
              subst hb
              rw [e5] at hW5
              refine use_rc [_, _] (σ1.step 92 tp6 tn6) O F7 X' N7 T' hA (by simp only [depth_deeper]; omega) (by simp only [units_deeper]; omega) hlt5 (ne_pair nit nq) ?_ ?_
              · intro e8 h8 tk8 tr8 tp8 tn8 F8 N8
                have e9 : r5 = [] := hdr5.symm.trans e8
                rw [e9, quoted_e] at hW5
                clear F7 N7
                dsimp only [lexLed, List.cons_append, List.nil_append] at N8
                (try dsimp only)
                walk_at "go"
                rename News _ _ _ _ => N9
                rename Fr _ _ _ _ => F9
                exact ⟨a.T.length + 1 - (σ1.p + 1), by omega, { (σ1.step 92 tp6 tn6) with tp := tp8, tn := tn8 }, acc ++ [], ⟨_, _, _, _, rfl, fr_to F9 rfl (fun y n1 n2 => by simp only [mT, if_neg n1, if_neg n2]), N9, hlt5, line_step hl5 e5, hw5, by rw [List.append_nil]; exact Nat.le_succ_of_le ha5⟩, by rw [show a.cs.drop _ = [] from e8, quoted_nil, List.append_nil]; exact hW5, rfl⟩
              · intro d8 r8 e8 h8 tk8 tr8 tp8 tn8 F8 N8
                have e9 : r5 = d8 :: r8 := hdr5.symm.trans e8
                rw [e9, quoted_b] at hW5
                have hlt8 := drop_cons_lt e8
                rw [cs_len] at hlt8
                clear F7 N7
                dsimp only [lexLed, List.cons_append, List.nil_append] at N8
                (try dsimp only)
                walk_at "go"
                rename News _ _ _ _ => N9
                rename Fr _ _ _ _ => F9
                exact ⟨a.T.length + 1 - (σ1.p + 1 + 1), by omega, (σ1.step 92 tp6 tn6).step d8 tp8 tn8, acc ++ [d8], ⟨_, _, _, _, rfl, fr_to F9 rfl (fun y n1 n2 => by simp only [mT, if_neg n1, if_neg n2]), N9, hlt8, line_step (line_step hl5 e5) e8, hw5, by simp only [List.length_append, List.length_cons, List.length_nil]; show _ ≤ σ1.p + 1 + 1; omega⟩, by rw [show a.cs.drop _ = r8 from drop_succ e8]; exact hW5, rfl⟩
            · rename News _ _ _ _ => N9
              rename Fr _ _ _ _ => F9
              have hq := ne_of_q (by assumption)
              have hb := ne_of_b (by assumption)
              rw [e5, quoted_c _ _ hq hb] at hW5
              exact ⟨a.T.length + 1 - (σ1.p + 1), by omega, σ1.step c5 tp6 tn6, acc ++ [c5], ⟨_, _, _, _, rfl, fr_to F9 rfl (fun y n1 n2 => by simp only [mT, if_neg n1, if_neg n2]), N9, hlt5, line_step hl5 e5, hw5, by simp only [List.length_append, List.length_cons, List.length_nil]; show _ ≤ σ1.p + 1; omega⟩, by rw [show a.cs.drop _ = r5 from hdr5]; exact hW5, rfl⟩
        · rename News _ _ _ _ => N3
          rename Fr _ _ _ _ => F3
          have hw := ws_of (by assumption)
          have hq := ne_of_q (by assumption)
          have hb := eq_of_b (by assumption)
          subst hb
          rw [e, word_c hw hq] at hW1
          have hdr := drop_succ e
          refine use_rc [_, _] (σ'.step 92 tp2 tn2) O F3 X' N3 T' hA (by simp only [depth_deeper]; omega) (by simp only [units_deeper]; omega) hlt (ne_pair nit nq) ?_ ?_
          · intro e3 h3 tk3 tr3 tp3 tn3 F8 N8
            have e9 : r = [] := hdr.symm.trans e3
            rw [e9, bare_e] at hW1
            clear F3 N3
            dsimp only [lexLed, List.cons_append, List.nil_append] at N8
            (try dsimp only)
            walk_at "go"
            rename News _ _ _ _ => N3
            rename Fr _ _ _ _ => F3
            have F4 := fr_to (B := B) F3 rfl (fun y n1 n2 => by simp only [mT, if_neg n1, if_neg n2])
            refine for_it (fun k s' => ∃ σ1 acc, LexLive w a g' L' B it q tu s s' σ1 acc ∧ bare (a.cs.drop σ1.p) acc = W ∧ k = a.T.length + 1 - σ1.p) _ (fun Q' hQ => ld F4 hBf hQ) (N3 (it, _) (.head _)).1
              ⟨{ (σ'.step 92 tp2 tn2) with tp := tp3, tn := tn3 }, [] ++ [], ⟨_, _, _, _, rfl, F4, N3, hlt, line_step hl1 e, hw1, Nat.zero_le _⟩, by rw [show a.cs.drop _ = [] from e3, bare_nil]; exact hW1, rfl⟩ ?_
            clear N3 F3 F4
            rintro k s4 ⟨σ1, acc, ⟨h4, tk4, tt4, ch4, rfl, F5, N5, hp5, hl5, hw5, ha5⟩, hW5, hk5⟩
            refine next_lex σ1 O F5 X' N5 T' hA (by simp only [depth_deeper]; omega) (by simp only [units_deeper]; omega) hp5 nit nq hne ?_ ?_
            · intro e5 h6 tk6 tp6 tn6 F6 N6
              rw [e5, bare_nil] at hW5
              (try dsimp only)
              walk_at "go"
              exact ⟨0, by omega, .inr ⟨{ σ1 with tp := tp6, tn := tn6 }, ⟨_, _, _, _, rfl, by rw [← hW5]; exact F6, N6, hp5, hl5, hw5⟩, by rw [← hW5]; exact e5, rfl⟩⟩
            · intro c5 r5 e5 h6 tk6 tr6 tp6 tn6 F6 N6
              dsimp only [lexLed] at N6
              (try dsimp only)
              have hlt5 := drop_cons_lt e5
              rw [cs_len] at hlt5
              have hdr5 := drop_succ e5
              walk_at "go"
              · rename News _ _ _ _ => N7
                rename Fr _ _ _ _ => F7
                have hb := eq_of_b (by assumption)
                subst hb
                rw [e5] at hW5
                refine use_rc [_, _] (σ1.step 92 tp6 tn6) O F7 X' N7 T' hA (by simp only [depth_deeper]; omega) (by simp only [units_deeper]; omega) hlt5 (ne_pair nit nq) ?_ ?_
                · intro e8 h8 tk8 tr8 tp8 tn8 F8 N8
                  have e9 : r5 = [] := hdr5.symm.trans e8
                  rw [e9, bare_e] at hW5
                  clear F7 N7
                  dsimp only [lexLed, List.cons_append, List.nil_append] at N8
                  (try dsimp only)
                  walk_at "go"
                  rename News _ _ _ _ => N9
                  rename Fr _ _ _ _ => F9
                  exact ⟨a.T.length + 1 - (σ1.p + 1), by omega, { (σ1.step 92 tp6 tn6) with tp := tp8, tn := tn8 }, acc ++ [], ⟨_, _, _, _, rfl, fr_to F9 rfl (fun y n1 n2 => by simp only [mT, if_neg n1, if_neg n2]), N9, hlt5, line_step hl5 e5, hw5, by rw [List.append_nil]; exact Nat.le_succ_of_le ha5⟩, by rw [show a.cs.drop _ = [] from e8, bare_nil, List.append_nil]; exact hW5, rfl⟩
                · intro d8 r8 e8 h8 tk8 tr8 tp8 tn8 F8 N8
                  have e9 : r5 = d8 :: r8 := hdr5.symm.trans e8
                  rw [e9, bare_b] at hW5
                  have hlt8 := drop_cons_lt e8
                  rw [cs_len] at hlt8
                  clear F7 N7
                  dsimp only [lexLed, List.cons_append, List.nil_append] at N8
                  (try dsimp only)
                  walk_at "go"
                  rename News _ _ _ _ => N9
                  rename Fr _ _ _ _ => F9
                  exact ⟨a.T.length + 1 - (σ1.p + 1 + 1), by omega, (σ1.step 92 tp6 tn6).step d8 tp8 tn8, acc ++ [d8], ⟨_, _, _, _, rfl, fr_to F9 rfl (fun y n1 n2 => by simp only [mT, if_neg n1, if_neg n2]), N9, hlt8, line_step (line_step hl5 e5) e8, hw5, by simp only [List.length_append, List.length_cons, List.length_nil]; show _ ≤ σ1.p + 1 + 1; omega⟩, by rw [show a.cs.drop _ = r8 from drop_succ e8]; exact hW5, rfl⟩
              · rename News _ _ _ _ => N9
                rename Fr _ _ _ _ => F9
                have hq := ws_of (by assumption)
                have hb := ne_of_b (by assumption)
                rw [e5, bare_c _ _ hq hb] at hW5
                exact ⟨a.T.length + 1 - (σ1.p + 1), by omega, σ1.step c5 tp6 tn6, acc ++ [c5], ⟨_, _, _, _, rfl, fr_to F9 rfl (fun y n1 n2 => by simp only [mT, if_neg n1, if_neg n2]), N9, hlt5, line_step hl5 e5, hw5, by simp only [List.length_append, List.length_cons, List.length_nil]; show _ ≤ σ1.p + 1; omega⟩, by rw [show a.cs.drop _ = r5 from hdr5]; exact hW5, rfl⟩
              · rename News _ _ _ _ => N7
                rename Fr _ _ _ _ => F7
                have hq := ws_of (by assumption)
                rw [e5, bare_w _ _ hq] at hW5
                subst hW5
                exact ⟨_, _, F7, fun st' => h _ _ _ (σ1.step _ tp6 tn6) st' ((news_has N7).sub fun z hz => .tail _ (.tail _ hz)) hlt5 (line_step hl5 e5) hw5 hdr5⟩
          · intro d3 r3 e3 h3 tk3 tr3 tp3 tn3 F8 N8
            have e9 : r = d3 :: r3 := hdr.symm.trans e3
            rw [e9, bare_b] at hW1
            have hlt3 := drop_cons_lt e3
            rw [cs_len] at hlt3
            clear F3 N3
            dsimp only [lexLed, List.cons_append, List.nil_append] at N8
            (try dsimp only)
            walk_at "go"
            rename News _ _ _ _ => N3
            rename Fr _ _ _ _ => F3
            have F4 := fr_to (B := B) F3 rfl (fun y n1 n2 => by simp only [mT, if_neg n1, if_neg n2])
            refine for_it (fun k s' => ∃ σ1 acc, LexLive w a g' L' B it q tu s s' σ1 acc ∧ bare (a.cs.drop σ1.p) acc = W ∧ k = a.T.length + 1 - σ1.p) _ (fun Q' hQ => ld F4 hBf hQ) (N3 (it, _) (.head _)).1
              ⟨(σ'.step 92 tp2 tn2).step d3 tp3 tn3, [] ++ [d3], ⟨_, _, _, _, rfl, F4, N3, hlt3, line_step (line_step hl1 e) e3, hw1, Nat.succ_le_succ (Nat.zero_le _)⟩, by rw [show a.cs.drop _ = r3 from drop_succ e3]; exact hW1, rfl⟩ ?_
            clear N3 F3 F4
            rintro k s4 ⟨σ1, acc, ⟨h4, tk4, tt4, ch4, rfl, F5, N5, hp5, hl5, hw5, ha5⟩, hW5, hk5⟩
            refine next_lex σ1 O F5 X' N5 T' hA (by simp only [depth_deeper]; omega) (by simp only [units_deeper]; omega) hp5 nit nq hne ?_ ?_
            · intro e5 h6 tk6 tp6 tn6 F6 N6
              rw [e5, bare_nil] at hW5
              (try dsimp only)
              walk_at "go"
              exact ⟨0, by omega, .inr ⟨{ σ1 with tp := tp6, tn := tn6 }, ⟨_, _, _, _, rfl, by rw [← hW5]; exact F6, N6, hp5, hl5, hw5⟩, by rw [← hW5]; exact e5, rfl⟩⟩
            · intro c5 r5 e5 h6 tk6 tr6 tp6 tn6 F6 N6
              dsimp only [lexLed] at N6
              (try dsimp only)
              have hlt5 := drop_cons_lt e5
              rw [cs_len] at hlt5
              have hdr5 := drop_succ e5
              walk_at "go"
              · rename News _ _ _ _ => N7
                rename Fr _ _ _ _ => F7
                have hb := eq_of_b (by assumption)
                subst hb
                rw [e5] at hW5
                refine use_rc [_, _] (σ1.step 92 tp6 tn6) O F7 X' N7 T' hA (by simp only [depth_deeper]; omega) (by simp only [units_deeper]; omega) hlt5 (ne_pair nit nq) ?_ ?_
                · intro e8 h8 tk8 tr8 tp8 tn8 F8 N8
                  have e9 : r5 = [] := hdr5.symm.trans e8
                  rw [e9, bare_e] at hW5
                  clear F7 N7
                  dsimp only [lexLed, List.cons_append, List.nil_append] at N8
                  (try dsimp only)
                  walk_at "go"
                  rename News _ _ _ _ => N9
                  rename Fr _ _ _ _ => F9
                  exact ⟨a.T.length + 1 - (σ1.p + 1), by omega, { (σ1.step 92 tp6 tn6) with tp := tp8, tn := tn8 }, acc ++ [], ⟨_, _, _, _, rfl, fr_to F9 rfl (fun y n1 n2 => by simp only [mT, if_neg n1, if_neg n2]), N9, hlt5, line_step hl5 e5, hw5, by rw [List.append_nil]; exact Nat.le_succ_of_le ha5⟩, by rw [show a.cs.drop _ = [] from e8, bare_nil, List.append_nil]; exact hW5, rfl⟩
                · intro d8 r8 e8 h8 tk8 tr8 tp8 tn8 F8 N8
                  have e9 : r5 = d8 :: r8 := hdr5.symm.trans e8
                  rw [e9, bare_b] at hW5
                  have hlt8 := drop_cons_lt e8
                  rw [cs_len] at hlt8
                  clear F7 N7
                  dsimp only [lexLed, List.cons_append, List.nil_append] at N8
                  (try dsimp only)
                  walk_at "go"
                  rename News _ _ _ _ => N9
                  rename Fr _ _ _ _ => F9
                  exact ⟨a.T.length + 1 - (σ1.p + 1 + 1), by omega, (σ1.step 92 tp6 tn6).step d8 tp8 tn8, acc ++ [d8], ⟨_, _, _, _, rfl, fr_to F9 rfl (fun y n1 n2 => by simp only [mT, if_neg n1, if_neg n2]), N9, hlt8, line_step (line_step hl5 e5) e8, hw5, by simp only [List.length_append, List.length_cons, List.length_nil]; show _ ≤ σ1.p + 1 + 1; omega⟩, by rw [show a.cs.drop _ = r8 from drop_succ e8]; exact hW5, rfl⟩
              · rename News _ _ _ _ => N9
                rename Fr _ _ _ _ => F9
                have hq := ws_of (by assumption)
                have hb := ne_of_b (by assumption)
                rw [e5, bare_c _ _ hq hb] at hW5
                exact ⟨a.T.length + 1 - (σ1.p + 1), by omega, σ1.step c5 tp6 tn6, acc ++ [c5], ⟨_, _, _, _, rfl, fr_to F9 rfl (fun y n1 n2 => by simp only [mT, if_neg n1, if_neg n2]), N9, hlt5, line_step hl5 e5, hw5, by simp only [List.length_append, List.length_cons, List.length_nil]; show _ ≤ σ1.p + 1; omega⟩, by rw [show a.cs.drop _ = r5 from hdr5]; exact hW5, rfl⟩
              · rename News _ _ _ _ => N7
                rename Fr _ _ _ _ => F7
                have hq := ws_of (by assumption)
                rw [e5, bare_w _ _ hq] at hW5
                subst hW5
                exact ⟨_, _, F7, fun st' => h _ _ _ (σ1.step _ tp6 tn6) st' ((news_has N7).sub fun z hz => .tail _ (.tail _ hz)) hlt5 (line_step hl5 e5) hw5 hdr5⟩
        · rename News _ _ _ _ => N3
          rename Fr _ _ _ _ => F3
          have hw := ws_of (by assumption)
          have hq := ne_of_q (by assumption)
          have hb := ne_of_b (by assumption)
          rw [e, word_c hw hq, bare_c _ _ hw hb] at hW1
          have F4 := fr_to (B := B) F3 rfl (fun y n1 n2 => by simp only [mT, if_neg n1, if_neg n2])
          refine for_it (fun k s' => ∃ σ1 acc, LexLive w a g' L' B it q tu s s' σ1 acc ∧ bare (a.cs.drop σ1.p) acc = W ∧ k = a.T.length + 1 - σ1.p) _ (fun Q' hQ => ld F4 hBf hQ) (N3 (it, _) (.head _)).1
            ⟨σ'.step c tp2 tn2, [] ++ [c], ⟨_, _, _, _, rfl, F4, N3, hlt, line_step hl1 e, hw1, Nat.succ_le_succ (Nat.zero_le _)⟩, by rw [show a.cs.drop _ = r from drop_succ e]; exact hW1, rfl⟩ ?_
          clear N3 F3 F4
          rintro k s4 ⟨σ1, acc, ⟨h4, tk4, tt4, ch4, rfl, F5, N5, hp5, hl5, hw5, ha5⟩, hW5, hk5⟩
          refine next_lex σ1 O F5 X' N5 T' hA (by simp only [depth_deeper]; omega) (by simp only [units_deeper]; omega) hp5 nit nq hne ?_ ?_
          · intro e5 h6 tk6 tp6 tn6 F6 N6
            rw [e5, bare_nil] at hW5
            (try dsimp only)
            walk_at "go"
            exact ⟨0, by omega, .inr ⟨{ σ1 with tp := tp6, tn := tn6 }, ⟨_, _, _, _, rfl, by rw [← hW5]; exact F6, N6, hp5, hl5, hw5⟩, by rw [← hW5]; exact e5, rfl⟩⟩
          · intro c5 r5 e5 h6 tk6 tr6 tp6 tn6 F6 N6
            dsimp only [lexLed] at N6
            (try dsimp only)
            have hlt5 := drop_cons_lt e5
            rw [cs_len] at hlt5
            have hdr5 := drop_succ e5
            walk_at "go"
            · rename News _ _ _ _ => N7
              rename Fr _ _ _ _ => F7
              have hb := eq_of_b (by assumption)
              subst hb
              rw [e5] at hW5
              refine use_rc [_, _] (σ1.step 92 tp6 tn6) O F7 X' N7 T' hA (by simp only [depth_deeper]; omega) (by simp only [units_deeper]; omega) hlt5 (ne_pair nit nq) ?_ ?_
              · intro e8 h8 tk8 tr8 tp8 tn8 F8 N8
                have e9 : r5 = [] := hdr5.symm.trans e8
                rw [e9, bare_e] at hW5
                clear F7 N7
                dsimp only [lexLed, List.cons_append, List.nil_append] at N8
                (try dsimp only)
                walk_at "go"
                rename News _ _ _ _ => N9
                rename Fr _ _ _ _ => F9
                exact ⟨a.T.length + 1 - (σ1.p + 1), by omega, { (σ1.step 92 tp6 tn6) with tp := tp8, tn := tn8 }, acc ++ [], ⟨_, _, _, _, rfl, fr_to F9 rfl (fun y n1 n2 => by simp only [mT, if_neg n1, if_neg n2]), N9, hlt5, line_step hl5 e5, hw5, by rw [List.append_nil]; exact Nat.le_succ_of_le ha5⟩, by rw [show a.cs.drop _ = [] from e8, bare_nil, List.append_nil]; exact hW5, rfl⟩
              · intro d8 r8 e8 h8 tk8 tr8 tp8 tn8 F8 N8
                have e9 : r5 = d8 :: r8 := hdr5.symm.trans e8
                rw [e9, bare_b] at hW5
                have hlt8 := drop_cons_lt e8
                rw [cs_len] at hlt8
                clear F7 N7
                dsimp only [lexLed, List.cons_append, List.nil_append] at N8
                (try dsimp only)
                walk_at "go"
                rename News _ _ _ _ => N9
                rename Fr _ _ _ _ => F9
                exact ⟨a.T.length + 1 - (σ1.p + 1 + 1), by omega, (σ1.step 92 tp6 tn6).step d8 tp8 tn8, acc ++ [d8], ⟨_, _, _, _, rfl, fr_to F9 rfl (fun y n1 n2 => by simp only [mT, if_neg n1, if_neg n2]), N9, hlt8, line_step (line_step hl5 e5) e8, hw5, by simp only [List.length_append, List.length_cons, List.length_nil]; show _ ≤ σ1.p + 1 + 1; omega⟩, by rw [show a.cs.drop _ = r8 from drop_succ e8]; exact hW5, rfl⟩
            · rename News _ _ _ _ => N9
              rename Fr _ _ _ _ => F9
              have hq := ws_of (by assumption)
              have hb := ne_of_b (by assumption)
              rw [e5, bare_c _ _ hq hb] at hW5
              exact ⟨a.T.length + 1 - (σ1.p + 1), by omega, σ1.step c5 tp6 tn6, acc ++ [c5], ⟨_, _, _, _, rfl, fr_to F9 rfl (fun y n1 n2 => by simp only [mT, if_neg n1, if_neg n2]), N9, hlt5, line_step hl5 e5, hw5, by simp only [List.length_append, List.length_cons, List.length_nil]; show _ ≤ σ1.p + 1; omega⟩, by rw [show a.cs.drop _ = r5 from hdr5]; exact hW5, rfl⟩
            · rename News _ _ _ _ => N7
              rename Fr _ _ _ _ => F7
              have hq := ws_of (by assumption)
              rw [e5, bare_w _ _ hq] at hW5
              subst hW5
              exact ⟨_, _, F7, fun st' => h _ _ _ (σ1.step _ tp6 tn6) st' ((news_has N7).sub fun z hz => .tail _ (.tail _ hz)) hlt5 (line_step hl5 e5) hw5 hdr5⟩
        · rename News _ _ _ _ => N3
          rename Fr _ _ _ _ => F3
          have hw := ws_of (by assumption)
          rw [e, word_ws hw] at hW1
          exact ⟨a.T.length + 2 - (σ'.p + 1), by omega, .inl ⟨σ'.step c tp2 tn2, ⟨_, _, _, _, rfl, fr_to F3 rfl (fun y n1 n2 => by simp only [mT, if_neg n1, if_neg n2]), N3, hlt, line_step hl1 e, hw1, Nat.zero_le _⟩, by rw [show a.cs.drop _ = r from drop_succ e]; exact hW1, rfl⟩⟩
    · refine next_ended hA (N1 (it, _) (.head _)).1 fun h2 k2 => ?_
      have F2 : Fr g' L' h2 (mT B (.str (mkS W.1) tt1) ch1) := ⟨F1.ns.keeps k2, fun b o e => k2 _ _ (F1.keep b o e), F1.above⟩
      have H2 : Has h2 (lexLed w.params a σ') := fun z hz => k2 _ _ (N1 z (.tail _ (.tail _ hz))).1
      clear F1 N1
      (try dsimp only)
      walk_at "go"
      exact ⟨_, _, F2, fun st' => h _ _ _ σ' st' H2 hp1 hl1 hw1 hW1⟩
end Mine

namespace Mine
theorem fillK : (PySem.Challenge.rw_wv0071_01.foot = 3) ∧ (∀ P, hd.heap_39 P = hd.heap_39 P) := by k_fill; exact ⟨rfl, fun _ => rfl⟩

section
variable {prog : Program} {w : World} {A : Around} {E : Value → Shared → Prop} {s : Shared} {h₀ : Heap} {L : Addr} {m : Str → Option Value} {news news' : List (Addr × Obj)}
theorem pop_mapSeq (v : Value) (vs : List Value) (n : Nat) : Obj.mapSeq (fun xs => xs.eraseIdxIfInBounds 0) (W.listOf (v :: vs).toArray n) = W.listOf vs.toArray (n + 1) := by
  have e : (v :: vs).toArray.eraseIdxIfInBounds 0 = vs.toArray := by simp [Array.eraseIdxIfInBounds]
  unfold Obj.mapSeq
  dsimp only
  rw [e]
  have hne : ((vs.toArray).size == (v :: vs).toArray.size) = false := by simp
  rw [hne]
  rfl
theorem pop_N {l : Addr} {v : Value} {vs : List Value} {n : Nat} {u : Tok} {Q : Value → Shared → Prop} (F : Fr h₀ L s.heap m) (N : News h₀ L s.heap news) (U : Upd l (W.listOf (v :: vs).toArray n) (W.listOf vs.toArray (n + 1)) news news') (hsz : vs.length ≤ 1000)
    (h : ∀ h', Fr h₀ L h' m → News h₀ L h' news' → Q v { s with heap := h' }) : wpAny (model prog w) A (call (.builtin "list.pop") [.ref l, .int 0 u]) Q E s := by
  obtain ⟨pre, post, rfl, rfl, h1, h2⟩ := U.split
  have hl := (N (l, W.listOf (v :: vs).toArray n) (List.mem_append_right _ (.head _))).1
  obtain ⟨F', N'⟩ := news_upd F N h1 h2 (pop_mapSeq v vs n) rfl
  refine call_meets PySem.F.slot_list_pop ⟨_, hl, rfl⟩ PySem.F.entry_list_pop (PySem.F.args_list_pop_2 _ _) (MeetsSeq.list_pop_at l (v :: vs).toArray n 0 u 0 v (by decide +kernel) ?_ (by simp) ?_) ⟨hl, h _ F' N'⟩
  · unfold seqIndex?; simp
  · rw [sizeLine_eq]; simp only [List.size_toArray, List.length_cons]; omega
theorem truthy_cons {l : Addr} {v : Value} {vs : List Value} {n : Nat} {Q : Bool → Shared → Prop} (N : News h₀ L s.heap news) (hm : (l, W.listOf (v :: vs).toArray n) ∈ news) (hsz : vs.length ≤ 1000)
    (h : Q true { s with toks := s.toks + 1 + 1 }) : wpAny (model prog w) A (truthy (.ref l)) Q E s :=
  wpAny_truthy_list ⟨_, (N _ hm).1, rfl, _, rfl⟩ (by simp only [List.size_toArray, List.length_cons]; omega) (by
    have e : (!(v :: vs).toArray.isEmpty) = true := by simp
    rw [e]; exact h)
end
local macro_rules | `(tactic| walk_at "call builtin:list.pop") => `(tactic| (k_here; (with_reducible show wpAny _ _ (call (Value.builtin _) [Value.ref _, Value.int _ _]) _ _ _); k_dflt (refine' pop_N ?F ?N ?U ?z ?_; (case F => k_asm); (case N => k_asm); (case U => k_upd); (case z => omega); k_whole); intro h' F' N'; (try k_sweep)))
local macro_rules | `(tactic| walk_at "truthy ref") => `(tactic| (k_here; k_dflt (refine' truthy_cons ?k1 ?k2 ?k3 ?_; (case k1 => k_asm); (case k2 => k_mem); (case k3 => omega); k_whole)))

set_option maxHeartbeats 2000000 in
theorem push_code {w : World} {A : Around} {s : Shared} {p : Program} {loose : List Str} {mean : ExcName → Option Value} {mg mb : Str → Option Value} {R : Result → Shared → Prop} {a : LexA} {σ : LexS} {v : Str} {tv : Tok}
    (hA : A.handled = none) (hr : A.depth + 10 < recursionLimit) (hu : A.units + 100 < cLine) (O : LexOrd a) (hl : σ.ws.length ≤ 1000)
    (G : Base (hd.heap_39 w.params) p loose mean mg mb (lexAddrs a) s.heap) (H : Has s.heap (lexLed w.params a σ))
    (h : ∀ h' tk wn, Stay (lexAddrs a) s.heap h' → Has h' (lexLed w.params a { σ with ws := σ.ws ++ [.str v tv], wn := wn }) → R (.ok (.ret .none)) { s with heap := h', toks := tk }) :
    codeAny (model PR w) A (.call (.ref 49) ⟨[.ref a.x, .str v tv], []⟩) R s := by
  have hO := O
  unfold LexOrd ltA at hO
  have H0 : Has s.heap (lexLed w.params a σ) := H
  refine' code_K (dyn := lexLed w.params a σ) G H0 ?k6 ?k7 ?k8 ?k9 ?kB ?_ ?c5 ?c2 ?c3 ?c4
  case k6 => k_is
  case k7 => k_is
  case k8 => omega
  case k9 => exact BindsTo.of_eq rfl
  case c5 => decide
  case kB => exact locs rfl
  case c2 => exact rfl
  case c3 => exact rfl
  case c4 => exact rfl
  intro g' L' h' F' N' X' T' l1 st
  k_lt l1
  dsimp only [lexLed] at N'
  have codeHd : CodeHd g' 62 58 := codeHd_of_K X' (by kernel_rfl)
  (try dsimp only)
  (try k_fold)
  k_steps
  rename News _ _ _ _ => N
  rename Fr _ _ _ _ => F
  rw [List.push_toArray] at N
  exact ⟨_, _, F, fun st' => h _ _ (σ.wn + 1) st' (news_has N)⟩

set_option maxHeartbeats 2000000 in
theorem pop_code {w : World} {A : Around} {s : Shared} {p : Program} {loose : List Str} {mean : ExcName → Option Value} {mg mb : Str → Option Value} {R : Result → Shared → Prop} {a : LexA} {σ : LexS} {v : Value} {ws : List Value}
    (hA : A.handled = none) (hr : A.depth + 10 < recursionLimit) (hu : A.units + 100 < cLine) (O : LexOrd a) (hl : σ.ws.length ≤ 1000) (hws : σ.ws = v :: ws)
    (G : Base (hd.heap_39 w.params) p loose mean mg mb (lexAddrs a) s.heap) (H : Has s.heap (lexLed w.params a σ))
    (h : ∀ h' tk wn, Stay (lexAddrs a) s.heap h' → Has h' (lexLed w.params a { σ with ws := ws, wn := wn }) → R (.ok (.ret v)) { s with heap := h', toks := tk }) :
    codeAny (model PR w) A (.call (.ref 42) ⟨[.ref a.x], []⟩) R s := by
  have hO := O
  unfold LexOrd ltA at hO
  obtain ⟨σp, σtp, σn, σtn, σws, σwn⟩ := σ
  dsimp only at hws hl
  subst hws
  rw [List.length_cons] at hl
  have H0 : Has s.heap (lexLed w.params a ⟨σp, σtp, σn, σtn, v :: ws, σwn⟩) := H
  refine' code_K (dyn := lexLed w.params a ⟨σp, σtp, σn, σtn, v :: ws, σwn⟩) G H0 ?k6 ?k7 ?k8 ?k9 ?kB ?_ ?c5 ?c2 ?c3 ?c4
  case k6 => k_is
  case k7 => k_is
  case k8 => omega
  case k9 => exact BindsTo.of_eq rfl
  case c5 => decide
  case kB => exact locs rfl
  case c2 => exact rfl
  case c3 => exact rfl
  case c4 => exact rfl
  intro g' L' h' F' N' X' T' l1 st
  k_lt l1
  dsimp only [lexLed] at N'
  have codeHd : CodeHd g' 62 58 := codeHd_of_K X' (by kernel_rfl)
  (try dsimp only)
  (try k_fold)
  k_steps
  rename News _ _ _ _ => N
  rename Fr _ _ _ _ => F
  exact ⟨_, _, F, fun st' => h _ _ (σwn + 1) st' (news_has N)⟩
end Mine

namespace Mine
theorem fillL : (PySem.Challenge.rw_wv0071_01.foot = 3) ∧ (∀ P, hd.heap_39 P = hd.heap_39 P) := by k_fill; exact ⟨rfl, fun _ => rfl⟩
local macro_rules | `(tactic| walk_at "setAttr ref") => `(tactic| (k_here; (with_reducible show wpAny _ _ (setAttr _ (PySem.Str.ofString "read") _) _ _ _); k_dflt (refine' set_fnK ?F ?N ?U ?_; (case F => k_asm); (case N => k_asm); (case U => k_updF); k_whole); intro d' h' t' F' N' l1; (try dsimp only at N'); (try k_lt l1); (try k_sweep)))
local macro_rules | `(tactic| walk_at "call ref") => `(tactic| (k_here; (with_reducible show wpAny _ _ (call (Value.ref 52) [_]) _ _ _); k_dflt (refine' new_lexer ?r ?F ?X ?N ?T ?_; (case F => k_asm); (case N => k_asm); (case X => k_asm); (case T => k_asm); (case r => (simp only [depth_deeper]; omega)); k_whole); intro h' tk' t0 t1 t2 t3 t4 tw pb dx x F' N' l1 l2 l3; (try k_lt l1); (try k_lt2 l2); (try k_lt2 l3); (try k_sweep)))

/-- _law_lexer's table of codes behind its first call -/
abbrev tab2 (cr cl : Addr) : Array Value := #[] ++ #[rawInt (49 : Nat), rawInt (4 : Nat), .ref cr] ++ #[rawInt (53 : Nat), rawInt (13 : Nat), .ref cl]
abbrev newLed2 (P : Params) (a : LexA) (cl : Addr) (oL : Obj) (t0 tp : Tok) : List (Addr × Obj) :=
  [(a.pb, W.listOf #[] 0), (a.x, instObj 52 a.dx), (a.dx, dictOf [⟨PyData.keyHash P "lineno", .str "lineno" a.k1, .int 1 t0⟩, ⟨PyData.keyHash P "instream", .str "instream" a.k2, .ref a.st⟩,
  ⟨PyData.keyHash P "whitespace", .str "whitespace" a.k3, .str "\n\t\r " a.kw⟩, ⟨PyData.keyHash P "pushback", .str "pushback" a.k4, .ref a.pb⟩] 4),
  (a.sd, dictOf [⟨PyData.keyHash P "read", .str "read" a.ks, .ref a.fr⟩] 1), (a.st, fnDict a.sd a.fdS), (a.fr, { cls := .type "function", data := .func a.fdR }), (a.at_, W.listOf #[.int 0 tp] 0), (a.ca, a.oA), (a.ct, a.oT), (58, tabObj (tab2 a.cr cl)), (a.cr, a.oC), (cl, oL)]
set_option maxHeartbeats 4000000 in
theorem lexer_again {w : World} {A : Around} {s : Shared} {p : Program} {loose : List Str} {mean : ExcName → Option Value} {mg mb : Str → Option Value} {R : Result → Shared → Prop} {T : Str} {tT : Tok} {cr cl : Addr} {oC oL : Obj}
    (hr : A.depth + 10 < recursionLimit) (hc1 : ltA 58 cr) (hc2 : ltA cr cl) (hC : RoCode oC)
    (G : Base (hd.heap_39 w.params) p loose mean mg mb [58, cr, cl] s.heap) (H : Has s.heap [(58, tabObj (tab2 cr cl)), (cr, oC), (cl, oL)])
    (h : ∀ h' tk x dx pb st sd fr at_ ct ca oT oA fdR fdS ks k1 k2 k3 k4 kw t0 tp, Stay [58, cr, cl] s.heap h' →
      Has h' (newLed2 w.params ⟨x, dx, pb, st, sd, fr, cr, at_, ct, ca, T, oT, oA, fdR, oC, fdS, ks, k1, k2, k3, k4, kw⟩ cl oL t0 tp) →
      ltA cl ct → LexOrd ⟨x, dx, pb, st, sd, fr, cr, at_, ct, ca, T, oT, oA, fdR, oC, fdS, ks, k1, k2, k3, k4, kw⟩ →
      ROSpec w p loose mean mg mb ⟨x, dx, pb, st, sd, fr, cr, at_, ct, ca, T, oT, oA, fdR, oC, fdS, ks, k1, k2, k3, k4, kw⟩ →
      (∀ d ∈ [x, dx, pb, st, sd, fr, at_, ct, ca], s.heap.get? d = none) →
      R (.ok (.ret (.ref x))) { s with heap := h', toks := tk })
    : codeAny (model PR w) A (.call (.ref 63) ⟨[.str T tT], []⟩) R s := by
  unfold ltA at hc1 hc2
  refine' code_KC (dyn := [(58, tabObj (tab2 cr cl)), (cr, oC), (cl, oL)]) G H ?ho ?hcd ?hroom ?hbind ?hkind ?hnd ?_ ?c1 ?c2 ?c3
  case ho => k_is
  case hcd => k_is
  case hroom => omega
  case hbind => exact BindsTo.of_eq rfl
  case hkind => exact rfl
  case hnd => decide +kernel
  case c1 => exact rfl
  case c2 => exact rfl
  case c3 => exact rfl
  intro g' L' h' tk' cells' F' N' Y' X' T' l1 st
  k_lt l1
  k_cells Y'
  simp only [List.cons_append, List.nil_append] at N'
  have codeHd : CodeHd g' 62 58 := codeHd_of_K X' (by kernel_rfl)
  (try dsimp only)
  (try k_fold)
  k_steps
  rename News _ _ _ _ => N
  rename Fr _ _ _ _ => F
  obtain ⟨vC, tC, eC1, eC2⟩ := hC
  refine ⟨_, _, F, fun st' => h _ _ _ _ _ _ _ _ _ _ _ _ _ _ _ _ _ _ _ _ _ _ _ st' (news_has N) ?_ ?_ ?_ ?_⟩
  · show @LT.lt Nat instLTNat cl _
    omega
  · unfold LexOrd ltA
    dsimp only
    omega
  · exact ro_spec (by k_is) rfl eC1 eC2 (by assumption) (by assumption) (by
      unfold LexOrd ltA
      dsimp only
      omega)
  · intro d hd
    simp only [List.mem_cons, List.not_mem_nil, or_false] at hd
    rcases hd with rfl | rfl | rfl | rfl | rfl | rfl | rfl | rfl | rfl
    all_goals refine fresh_of N st (by simp) (fun hm => ?_)
    all_goals (simp only [List.map_cons, List.map_nil, List.mem_cons, List.not_mem_nil, or_false] at hm; rcases hm with hm | hm | hm <;> ((replace hm : @Eq Nat _ _ := hm); omega))
end Mine

namespace Mine
theorem fillM : (PySem.Challenge.rw_wv0071_01.foot = 3) ∧ (∀ P, hd.heap_39 P = hd.heap_39 P) := by k_fill; exact ⟨rfl, fun _ => rfl⟩
local macro_rules | `(tactic| walk_at "eval Name") => `(tactic| (k_here; k_dflt (refine' nameX_L ?F ?v ?_ ?a ?b; (case F => k_asm); (case a => rfl); (case b => rfl); (case v => assumption); k_whole)))
/- the walk, up to a loop, or what the loop's turn owes -/
theorem min_F {prog : Program} {w : World} {A : Around} {E : Value → Shared → Prop} {s : Shared} {h₀ : Heap} {L : Addr} {m : Str → Option Value} {news : List (Addr × Obj)} {a b : Int} {t u : Tok} {Q : Value → Shared → Prop} (hh : A.handled = none) (F : Fr h₀ L s.heap m) (N : News h₀ L s.heap news)
    (h : ∀ h' tk tv, Fr h₀ L h' m → News h₀ L h' news → Q (.int (if b < a then b else a) tv) { s with heap := h', toks := tk }) : wpAny (model prog w) A (call (.builtin "min") [.int a t, .int b u]) Q E s := by
  refine min_two_ints hh fun h' tk k => ?_
  have F' : Fr h₀ L h' m := ⟨F.ns.keeps k, fun b o e => k _ _ (F.keep b o e), F.above⟩
  have N' : News h₀ L h' news := fun z hz => ⟨k _ _ (N z hz).1, (N z hz).2⟩
  by_cases hc : b < a
  · rw [if_pos hc]; have := h h' tk u F' N'; rwa [if_pos hc] at this
  · rw [if_neg hc]; have := h h' tk t F' N'; rwa [if_neg hc] at this
theorem add_mk {prog : Program} {w : World} {A : Around} {E : Value → Shared → Prop} {s : Shared} {x y : List Nat} {t u : Tok} {Q : Value → Shared → Prop} (hsz : x.length + y.length ≤ sizeLine) (h : ∀ t' tk, Q (.str (mkS (x ++ y)) t') { s with toks := tk }) :
    wpAny (model prog w) A (binaryOp .Add (.str (mkS x) t) (.str (mkS y) u)) Q E s :=
  PyProof.Rows.add_str (fun t' tk => by rw [mkS_app]; exact h t' tk) (by rw [mkS_len, mkS_len]; exact hsz)
local macro_rules | `(tactic| walk_at "call builtin:min") => `(tactic| (k_here; (with_reducible show wpAny _ _ (call (Value.builtin _) [Value.int _ _, Value.int _ _]) _ _ _); k_dflt (refine' min_F ?hh ?F ?N ?_; (case hh => assumption); (case F => k_asm); (case N => k_asm); k_whole); intro h' tk' tv' F' N'; (try k_sweep)))
local macro_rules | `(tactic| walk_at "go") => `(tactic| repeat' (first | ((fail_if_success (with_reducible show wpAny _ _ (exec (PySem.Stmt.For _ _ _ _ _) _) _ _ _)); (fail_if_success (with_reducible show wpAny _ _ (exec (PySem.Stmt.While _ _ _ _) _) _ _ _)); (fail_if_success (with_reducible show wpAny _ _ (binaryOp PySem.Operator.Add (Value.str _ _) (Value.str _ _)) _ _ _)); (fail_if_success (with_reducible show Exists _)); first | (k_unfold; (try dsimp only)) | (k_end; wrow_close) | walk1 | (dsimp only; walk1) | (leave1; walk_say "STEP leave1"; try dsimp only)) | fail "no step"))

section
variable {w : World} {A : Around} {s : Shared}
/-- a while, by what holds between its turns -/
theorem while_it {env : Env} {Q : Flow → Shared → Prop} {test : PySem.Expr} {pos : Pos} {body : List Stmt} (I : Nat → Shared → Prop) (n : Nat) (h : I n s)
    (turn : ∀ n s, I n s → wpAny (model PR w) A (isTrue test env (eval test env)) (fun b s₂ => if b = true then wpAny (model PR w) A (execs body env) (fun f s₃ => match f with
          | .next | .cont => ∃ m, m < n ∧ I m s₃
          | .brk => Q .next s₃
          | .ret v => Q (.ret v) s₃) (fun _ _ => False) s₂ else Q .next s₂) (fun _ _ => False) s) :
    wpAny (model PR w) A (exec (.While test body [] pos) env) Q (fun _ _ => False) s := by
  refine wpAny_While (codeAny_whileLoop I (fun n s hI => ?_) n h)
  refine wpAny_mono (turn n s hI) (fun b s₂ z => ?_) fun _ _ z => z.elim
  cases b with
  | false => simp only [Bool.false_eq_true, if_false] at z ⊢; exact wpAny_execs_nil z
  | true =>
    simp only [if_true] at z ⊢
    refine wpAny_mono z (fun f s₃ z => ?_) fun _ _ z => z.elim
    cases f <;> exact z
end
abbrev mP (B : Str → Option Value) (v : Value) : Str → Option Value := fun y => if y = "place" then some v else B y
theorem fr_mP {g h : Heap} {L : Addr} {B m : Str → Option Value} {v : Value} (F : Fr g L h m) (h1 : m "place" = some v) (h2 : ∀ y : Str, y ≠ "place" → m y = B y) : Fr g L h (mP B v) := by
  have e : m = mP B v := by
    funext y
    by_cases n1 : y = "place"
    · subst n1; rw [h1]; rfl
    · show m y = if y = "place" then some v else B y
      rw [if_neg n1, h2 y n1]
  rw [← e]; exact F

/-- the second loop's reading: within marks, or bare -/
def scan (b : Bool) (l acc : List Nat) : List Nat × List Nat := match b with | true => quoted l acc | false => bare l acc
def ends (b : Bool) (c : Nat) : Bool := match b with | true => c == 34 | false => isWs c
theorem scan_nil (b : Bool) (acc : List Nat) : scan b [] acc = (acc, []) := by cases b; exact bare_nil acc; exact quoted_nil acc
theorem scan_end {b : Bool} {c : Nat} (r acc : List Nat) (h : ends b c = true) : scan b (c :: r) acc = (acc, r) := by
  cases b
  · exact bare_w r acc h
  · rw [show c = 34 from eq_of_beq h]; exact quoted_q r acc
theorem scan_e (b : Bool) (acc : List Nat) : scan b [92] acc = (acc, []) := by cases b; exact bare_e acc; exact quoted_e acc
theorem scan_b (b : Bool) (d : Nat) (r acc : List Nat) : scan b (92 :: d :: r) acc = scan b r (acc ++ [d]) := by cases b; exact bare_b d r acc; exact quoted_b d r acc
theorem scan_c {b : Bool} {c : Nat} (r acc : List Nat) (h1 : ends b c = false) (h2 : (c == 92) = false) : scan b (c :: r) acc = scan b r (acc ++ [c]) := by
  cases b
  · exact bare_c r acc h1 h2
  · exact quoted_c r acc h1 h2
abbrev mW (B : Str → Option Value) (wd pl : Value) (sg en : Option Value) : Str → Option Value := fun y => if y = "word" then some wd else if y = "place" then some pl else if y = "sign" then sg else if y = "ends" then en else B y
theorem fr_mW {g h : Heap} {L : Addr} {B m : Str → Option Value} {wd pl : Value} (F : Fr g L h m) (h1 : m "word" = some wd) (h2 : m "place" = some pl) (h3 : ∀ y : Str, y ≠ "word" → y ≠ "place" → y ≠ "sign" → y ≠ "ends" → m y = B y) : Fr g L h (mW B wd pl (m "sign") (m "ends")) := by
  have e : m = mW B wd pl (m "sign") (m "ends") := by
    funext y
    show m y = if y = "word" then some wd else if y = "place" then some pl else if y = "sign" then m "sign" else if y = "ends" then m "ends" else B y
    by_cases n1 : y = "word"
    · subst n1; rw [h1, if_pos rfl]
    · by_cases n2 : y = "place"
      · subst n2; rw [h2, if_neg n1, if_pos rfl]
      · by_cases n3 : y = "sign"
        · subst n3; rw [if_neg n1, if_neg n2, if_pos rfl]
        · by_cases n4 : y = "ends"
          · subst n4; rw [if_neg n1, if_neg n2, if_neg n3, if_pos rfl]
          · rw [if_neg n1, if_neg n2, if_neg n3, if_neg n4, h3 y n1 n2 n3 n4]
  rw [← e]; exact F
theorem item_sign {T : Str} {k c : Nat} {r : List Nat} (e : T.cps.toList.drop k = c :: r) : Txt.item T (k : Int) = mkS [c] := by
  have hc : T.cps.toList[k]? = some c := by rw [← List.head?_drop, e]; rfl
  rw [Array.getElem?_toList] at hc
  exact item_meets (by omega) (by rw [Int.toNat_natCast]; exact hc)
theorem slice_cons {T : Str} {k c : Nat} {r : List Nat} (e : T.cps.toList.drop k = c :: r) : Txt.slice T (some (k : Int)) (some ((k : Int) + 1)) = mkS [c] := by
  have hl := drop_cons_lt e
  rw [Array.length_toList] at hl
  rw [slice_sign (Nat.le_of_lt hl)]
  unfold signAt; rw [e]; rfl
theorem slice_none {T : Str} {k : Nat} (hk : k ≤ T.length) (e : T.cps.toList.drop k = []) : Txt.slice T (some (k : Int)) (some ((k : Int) + 1)) = mkS [] := by
  rw [slice_sign hk]
  unfold signAt; rw [e]; rfl
theorem drop_lt {T : Str} {k : Nat} (h : (k : Int) < T.length) : ∃ c r, T.cps.toList.drop k = c :: r := by
  cases e : T.cps.toList.drop k with
  | cons c r => exact ⟨c, r, rfl⟩
  | nil =>
    have := List.drop_eq_nil_iff.mp e
    rw [Array.length_toList] at this
    have h2 : T.cps.size = T.length := rfl
    omega
theorem drop_ge {T : Str} {k : Nat} (h : ¬ (k : Int) < T.length) : T.cps.toList.drop k = [] := by
  refine List.drop_eq_nil_of_le ?_
  rw [Array.length_toList]
  have h2 : T.cps.size = T.length := rfl
  omega
theorem ws2_of {c : Nat} {b : Bool} (h : (Builtin.Str.occurrences " \t\r\n" (mkS [c]) 0 (Str.length " \t\r\n") 1).isEmpty = b) : isWs c = !b := by
  have k := StrLaws.found_one " \t\r\n" c
  have e : ((" \t\r\n" : Str)).cps.toList = [32, 9, 13, 10] := by decide +kernel
  rw [e] at k
  have k2 : (!(Builtin.Str.occurrences " \t\r\n" (mkS [c]) 0 (Str.length " \t\r\n") 1).isEmpty) = decide (c ∈ [32, 9, 13, 10]) := k
  have k3 : decide (c ∈ [32, 9, 13, 10]) = isWs c := by
    rw [Bool.eq_iff_iff]
    simp [isWs]
    omega
  rw [k3] at k2
  rw [← k2, h]

set_option maxHeartbeats 4000000 in
theorem word_code {w : World} {A : Around} {s : Shared} {p : Program} {loose : List Str} {mean : ExcName → Option Value} {mg mb : Str → Option Value} {R : Result → Shared → Prop} {T : Str} {tT tk0 : Tok} {k : Nat}
    (hA : A.handled = none) (hr : A.depth + 10 < recursionLimit) (hu : A.units + 100 < cLine) (hTl : T.length ≤ 1048576) (hk : k ≤ T.length)
    (G : Base (hd.heap_39 w.params) p loose mean mg mb [] s.heap) (H : Has s.heap [])
    (h : ∀ h' tk q tw tp k', Stay [] s.heap h' → s.heap.get? q = none → h'.get? q = some { cls := .type "tuple", data := .seq #[.str (mkS (word (T.cps.toList.drop k)).1) tw, .int (k' : Nat) tp] } → k' ≤ T.length → T.cps.toList.drop k' = (word (T.cps.toList.drop k)).2 →
      R (.ok (.ret (.ref q))) { s with heap := h', toks := tk }) :
    codeAny (model PR w) A (.call (.ref 70) ⟨[.str T tT, .int (k : Nat) tk0], []⟩) R s := by
  refine' code_K (dyn := []) G H ?k6 ?k7 ?k8 ?k9 ?kB ?_ ?c5 ?c2 ?c3 ?c4
  case k6 => k_is
  case k7 => k_is
  case k8 => omega
  case k9 => exact BindsTo.of_eq rfl
  case c5 => decide
  case kB => exact locs rfl
  case c2 => exact rfl
  case c3 => exact rfl
  case c4 => exact rfl
  intro g' L' h' F' N' X' T' l1 st
  clear l1
  (try dsimp only)
  (try k_fold)
  walk_at "go"
  rename News _ _ _ _ => N
  rename Fr _ _ _ _ => F
  obtain ⟨B, hB, F0⟩ : ∃ B, B "text" = some (.str T tT) ∧ Fr g' L' _ (mP B (.int k tk0)) := ⟨_, rfl, fr_mP F rfl (fun y n => if_neg n)⟩
  generalize hW : word (T.cps.toList.drop k) = W at h
  refine while_it (fun n s' => ∃ h' tk t k', s' = { s with heap := h', toks := tk } ∧ Fr g' L' h' (mP B (.int (k' : Nat) t)) ∧ News g' L' h' [] ∧ k' ≤ T.length ∧ word (T.cps.toList.drop k') = W ∧ n = T.length - k') (T.length - k) ⟨_, _, _, k, rfl, F0, N, hk, hW, rfl⟩ ?_
  clear F F0 N
  rintro n s1 ⟨h1, tk1, t1, k1, rfl, F1, N1, hk1, hW1, hn1⟩
  walk_at "go"
  · rename News _ _ _ _ => N2
    rename Fr _ _ _ _ => F2
    rename (k1 : Int) < _ => hlt
    obtain ⟨c, r, e⟩ := drop_lt hlt
    rename List.isEmpty _ = true => hw
    rw [item_sign e] at hw
    have hw := ws2_of hw
    have hl := drop_cons_lt e
    rw [Array.length_toList] at hl
    rw [slice_cons e, lit_q, mkS_one] at F2
    obtain ⟨b, k2, eb, ek, hk2, hW2⟩ : ∃ (b : Bool) (k2 : Nat), (c == 34) = b ∧ ((k1 : Int) + if (c == 34) = true then 1 else 0) = (k2 : Nat) ∧ k2 ≤ T.length ∧ scan b (T.cps.toList.drop k2) [] = W := by
      cases hb : (c == 34) with
      | true =>
        have hc : c = 34 := eq_of_beq hb
        subst hc
        refine ⟨true, k1 + 1, rfl, rfl, hl, ?_⟩
        rw [e, word_q] at hW1
        rw [drop_succ e]; exact hW1
      | false =>
        refine ⟨false, k1, rfl, by simp, hk1, ?_⟩
        rw [e, word_c hw hb] at hW1
        rw [e]; exact hW1
    rw [eb] at ek
    rw [eb, ek] at F2
    obtain ⟨B2, hB2, hB3, F3⟩ : ∃ B2, B2 "text" = some (.str T tT) ∧ B2 "marked" = some (.bool b) ∧ Fr g' L' _ (mW B2 (.str (mkS []) _) (.int (k2 : Nat) _) (B2 "sign") (B2 "ends")) :=
      ⟨_, hB, rfl, fr_mW F2 (congrArg (fun x => some (Value.str x _)) lit_e) rfl (fun _ _ _ _ _ => rfl)⟩
    clear F2
    refine while_it (fun n s' => ∃ h' tk t tw k' acc sg en, s' = { s with heap := h', toks := tk } ∧ Fr g' L' h' (mW B2 (.str (mkS acc) tw) (.int (k' : Nat) t) sg en) ∧ News g' L' h' [] ∧ k' ≤ T.length ∧ acc.length ≤ k' ∧ scan b (T.cps.toList.drop k') acc = W ∧ n = T.length - k') (T.length - k2) ⟨_, _, _, _, k2, [], _, _, rfl, F3, N2, hk2, Nat.zero_le _, hW2, rfl⟩ ?_
    clear F3 N2
    rintro n4 s4 ⟨h4, tk4, t4, tw4, k4, acc, sg4, en4, rfl, F4, N4, hk4, ha4, hW4, hn4⟩
    walk_at "go"
    · rename News _ _ _ _ => N5
      rename Fr _ _ _ _ => F5
      rename (k4 : Int) < _ => hlt4
      obtain ⟨c4, r4, e4⟩ := drop_lt hlt4
      have hl4 := drop_cons_lt e4
      rw [Array.length_toList] at hl4
      rename b = true => hbb
      subst hbb
      rename (Txt.item _ _ == _) = true => hq
      rw [item_sign e4] at hq
      have hq := eq_of_q hq
      rw [e4, scan_end (b := true) _ _ (by rw [hq]; rfl)] at hW4
      subst hW4
      exact ⟨_, _, F5, fun st' => h _ _ _ _ _ (k4 + 1) st' (fresh_of N5 st (by simp) (fun q => nomatch q)) (N5 _ (.head _)).1 hl4 (drop_succ e4)⟩
    · rename News _ _ _ _ => N5
      rename Fr _ _ _ _ => F5
      rename (k4 : Int) < _ => hlt4
      obtain ⟨c4, r4, e4⟩ := drop_lt hlt4
      have hl4 := drop_cons_lt e4
      rw [Array.length_toList] at hl4
      rename b = true => hbb
      subst hbb
      rename (_ == (PySem.Str.ofString "\\")) = true => hb
      rw [item_sign e4] at hb
      have hb := eq_of_b hb
      subst hb
      rw [e4] at hW4
      cases e6 : r4 with
      | nil =>
        rw [e6, scan_e] at hW4
        have e7 : T.cps.toList.drop (k4 + 1) = [] := (drop_succ e4).trans e6
        have e8 : Txt.slice T (some ((k4 : Int) + 1)) (some ((k4 : Int) + 1 + 1)) = mkS [] := slice_none (k := k4 + 1) hl4 e7
        rw [e8]
        refine add_mk (by rw [sizeLine_eq, List.length_nil]; omega) ?_
        intro t5 tk5
        walk_at "go"
        rename News _ _ _ _ => N6
        rename Fr _ _ _ _ => F6
        have hmin : (if (k4 : Int) + 1 + 1 < T.length then (k4 : Int) + 1 + 1 else T.length) = ((k4 + 1 : Nat) : Int) := by
          have hn : T.cps.toList.length ≤ k4 + 1 := List.drop_eq_nil_iff.mp e7
          rw [Array.length_toList] at hn
          have h2 : T.cps.size = T.length := rfl
          split <;> omega
        rw [hmin] at F6
        exact ⟨T.length - (k4 + 1), by omega, _, _, _, _, k4 + 1, acc ++ [], _, _, rfl, fr_mW F6 rfl rfl (fun y n1 n2 n3 n4 => by simp only [mW, if_neg n1, if_neg n2, if_neg n3, if_neg n4]), N6, hl4, by rw [List.append_nil]; omega, by rw [e7, scan_nil, List.append_nil]; exact hW4, rfl⟩
      | cons d r6 =>
        rw [e6, scan_b] at hW4
        have e7 : T.cps.toList.drop (k4 + 1) = d :: r6 := (drop_succ e4).trans e6
        have e8 : Txt.slice T (some ((k4 : Int) + 1)) (some ((k4 : Int) + 1 + 1)) = mkS [d] := slice_cons (k := k4 + 1) e7
        rw [e8]
        refine add_mk (by rw [sizeLine_eq, List.length_cons, List.length_nil]; omega) ?_
        intro t5 tk5
        walk_at "go"
        rename News _ _ _ _ => N6
        rename Fr _ _ _ _ => F6
        have hl7 := drop_cons_lt e7
        rw [Array.length_toList] at hl7
        have hl8 : k4 + 1 < T.length := hl7
        have hmin : (if (k4 : Int) + 1 + 1 < T.length then (k4 : Int) + 1 + 1 else T.length) = ((k4 + 1 + 1 : Nat) : Int) := by
          split <;> omega
        rw [hmin] at F6
        exact ⟨T.length - (k4 + 1 + 1), by omega, _, _, _, _, k4 + 1 + 1, acc ++ [d], _, _, rfl, fr_mW F6 rfl rfl (fun y n1 n2 n3 n4 => by simp only [mW, if_neg n1, if_neg n2, if_neg n3, if_neg n4]), N6, hl8, by simp only [List.length_append, List.length_cons, List.length_nil]; omega, by rw [drop_succ e7]; exact hW4, rfl⟩
    · rename News _ _ _ _ => N5
      rename Fr _ _ _ _ => F5
      rename (k4 : Int) < _ => hlt4
      obtain ⟨c4, r4, e4⟩ := drop_lt hlt4
      have hl4 := drop_cons_lt e4
      rw [Array.length_toList] at hl4
      rename b = true => hbb
      subst hbb
      rename (_ == (PySem.Str.ofString "\"")) = false => hq
      rw [item_sign e4] at hq
      have hq : ends true c4 = false := ne_of_q hq
      rename (_ == (PySem.Str.ofString "\\")) = false => hb
      rw [item_sign e4] at hb
      have hb := ne_of_b hb
      rw [e4, scan_c _ _ hq hb] at hW4
      rw [item_sign e4]
      refine add_mk (by rw [sizeLine_eq, List.length_cons, List.length_nil]; omega) ?_
      intro t5 tk5
      walk_at "go"
      rename News _ _ _ _ => N6
      rename Fr _ _ _ _ => F6
      exact ⟨T.length - (k4 + 1), by omega, _, _, _, _, k4 + 1, acc ++ [c4], _, _, rfl, fr_mW F6 rfl rfl (fun y n1 n2 n3 n4 => by simp only [mW, if_neg n1, if_neg n2, if_neg n3, if_neg n4]), N6, hl4, by simp only [List.length_append, List.length_cons, List.length_nil]; omega, by rw [drop_succ e4]; exact hW4, rfl⟩
    · rename News _ _ _ _ => N5
      rename Fr _ _ _ _ => F5
      rename (k4 : Int) < _ => hlt4
      obtain ⟨c4, r4, e4⟩ := drop_lt hlt4
      have hl4 := drop_cons_lt e4
      rw [Array.length_toList] at hl4
      rename b = false => hbb
      subst hbb
      rename (_ == (PySem.Str.ofString "\\")) = true => hb
      rw [item_sign e4] at hb
      have hb := eq_of_b hb
      subst hb
      rw [e4] at hW4
      cases e6 : r4 with
      | nil =>
        rw [e6, scan_e] at hW4
        have e7 : T.cps.toList.drop (k4 + 1) = [] := (drop_succ e4).trans e6
        have e8 : Txt.slice T (some ((k4 : Int) + 1)) (some ((k4 : Int) + 1 + 1)) = mkS [] := slice_none (k := k4 + 1) hl4 e7
        rw [e8]
        refine add_mk (by rw [sizeLine_eq, List.length_nil]; omega) ?_
        intro t5 tk5
        walk_at "go"
        rename News _ _ _ _ => N6
        rename Fr _ _ _ _ => F6
        have hmin : (if (k4 : Int) + 1 + 1 < T.length then (k4 : Int) + 1 + 1 else T.length) = ((k4 + 1 : Nat) : Int) := by
          have hn : T.cps.toList.length ≤ k4 + 1 := List.drop_eq_nil_iff.mp e7
          rw [Array.length_toList] at hn
          have h2 : T.cps.size = T.length := rfl
          split <;> omega
        rw [hmin] at F6
        exact ⟨T.length - (k4 + 1), by omega, _, _, _, _, k4 + 1, acc ++ [], _, _, rfl, fr_mW F6 rfl rfl (fun y n1 n2 n3 n4 => by simp only [mW, if_neg n1, if_neg n2, if_neg n3, if_neg n4]), N6, hl4, by rw [List.append_nil]; omega, by rw [e7, scan_nil, List.append_nil]; exact hW4, rfl⟩
      | cons d r6 =>
        rw [e6, scan_b] at hW4
        have e7 : T.cps.toList.drop (k4 + 1) = d :: r6 := (drop_succ e4).trans e6
        have e8 : Txt.slice T (some ((k4 : Int) + 1)) (some ((k4 : Int) + 1 + 1)) = mkS [d] := slice_cons (k := k4 + 1) e7
        rw [e8]
        refine add_mk (by rw [sizeLine_eq, List.length_cons, List.length_nil]; omega) ?_
        intro t5 tk5
        walk_at "go"
        rename News _ _ _ _ => N6
        rename Fr _ _ _ _ => F6
        have hl7 := drop_cons_lt e7
        rw [Array.length_toList] at hl7
        have hl8 : k4 + 1 < T.length := hl7
        have hmin : (if (k4 : Int) + 1 + 1 < T.length then (k4 : Int) + 1 + 1 else T.length) = ((k4 + 1 + 1 : Nat) : Int) := by
          split <;> omega
        rw [hmin] at F6
        exact ⟨T.length - (k4 + 1 + 1), by omega, _, _, _, _, k4 + 1 + 1, acc ++ [d], _, _, rfl, fr_mW F6 rfl rfl (fun y n1 n2 n3 n4 => by simp only [mW, if_neg n1, if_neg n2, if_neg n3, if_neg n4]), N6, hl8, by simp only [List.length_append, List.length_cons, List.length_nil]; omega, by rw [drop_succ e7]; exact hW4, rfl⟩
    · rename News _ _ _ _ => N5
      rename Fr _ _ _ _ => F5
      rename (k4 : Int) < _ => hlt4
      obtain ⟨c4, r4, e4⟩ := drop_lt hlt4
      have hl4 := drop_cons_lt e4
      rw [Array.length_toList] at hl4
      rename b = false => hbb
      subst hbb
      rename List.isEmpty _ = true => hq
      rw [item_sign e4] at hq
      have hq : ends false c4 = false := ws2_of hq
      rename (_ == (PySem.Str.ofString "\\")) = false => hb
      rw [item_sign e4] at hb
      have hb := ne_of_b hb
      rw [e4, scan_c _ _ hq hb] at hW4
      rw [item_sign e4]
      refine add_mk (by rw [sizeLine_eq, List.length_cons, List.length_nil]; omega) ?_
      intro t5 tk5
      walk_at "go"
      rename News _ _ _ _ => N6
      rename Fr _ _ _ _ => F6
      exact ⟨T.length - (k4 + 1), by omega, _, _, _, _, k4 + 1, acc ++ [c4], _, _, rfl, fr_mW F6 rfl rfl (fun y n1 n2 n3 n4 => by simp only [mW, if_neg n1, if_neg n2, if_neg n3, if_neg n4]), N6, hl4, by simp only [List.length_append, List.length_cons, List.length_nil]; omega, by rw [drop_succ e4]; exact hW4, rfl⟩
    · rename News _ _ _ _ => N5
      rename Fr _ _ _ _ => F5
      rename (k4 : Int) < _ => hlt4
      obtain ⟨c4, r4, e4⟩ := drop_lt hlt4
      have hl4 := drop_cons_lt e4
      rw [Array.length_toList] at hl4
      rename b = false => hbb
      subst hbb
      rename List.isEmpty _ = false => hq
      rw [item_sign e4] at hq
      have hq := ws2_of hq
      rw [e4, scan_end (b := false) _ _ (by exact hq)] at hW4
      subst hW4
      exact ⟨_, _, F5, fun st' => h _ _ _ _ _ (k4 + 1) st' (fresh_of N5 st (by simp) (fun q => nomatch q)) (N5 _ (.head _)).1 hl4 (drop_succ e4)⟩
    · rename News _ _ _ _ => N5
      rename Fr _ _ _ _ => F5
      rename ¬ (k4 : Int) < _ => hlt4
      have e4 := drop_ge hlt4
      rw [e4, scan_nil] at hW4
      subst hW4
      exact ⟨_, _, F5, fun st' => h _ _ _ _ _ k4 st' (fresh_of N5 st (by simp) (fun q => nomatch q)) (N5 _ (.head _)).1 hk4 e4⟩
  · rename News _ _ _ _ => N2
    rename Fr _ _ _ _ => F2
    rename (k1 : Int) < _ => hlt
    obtain ⟨c, r, e⟩ := drop_lt hlt
    rename List.isEmpty _ = false => hw
    rw [item_sign e] at hw
    have hw := ws2_of hw
    rw [e, word_ws hw] at hW1
    have hl := drop_cons_lt e
    rw [Array.length_toList] at hl
    exact ⟨T.length - (k1 + 1), by omega, _, _, _, k1 + 1, rfl, fr_mP F2 rfl (fun y n => by simp only [mP, if_neg n]), N2, hl, by rw [drop_succ e]; exact hW1, rfl⟩
  · rename News _ _ _ _ => N2
    rename Fr _ _ _ _ => F2
    rename ¬ (k1 : Int) < _ => hlt
    have e := drop_ge hlt
    rw [slice_none hk1 e, show (mkS [] == ("\"" : Str)) = false by decide +kernel] at F2
    rw [e, show word [] = ([], []) from rfl] at hW1
    obtain ⟨b, k2, eb, ek, hk2, hW2⟩ : ∃ (b : Bool) (k2 : Nat), false = b ∧ ((k1 : Int) + if false = true then 1 else 0) = (k2 : Nat) ∧ k2 ≤ T.length ∧ scan b (T.cps.toList.drop k2) [] = W :=
      ⟨false, k1, rfl, by simp, hk1, by rw [e]; exact hW1⟩
    rw [ek, eb] at F2
    obtain ⟨B2, hB2, hB3, F3⟩ : ∃ B2, B2 "text" = some (.str T tT) ∧ B2 "marked" = some (.bool b) ∧ Fr g' L' _ (mW B2 (.str (mkS []) _) (.int (k2 : Nat) _) (B2 "sign") (B2 "ends")) :=
      ⟨_, hB, rfl, fr_mW F2 (congrArg (fun x => some (Value.str x _)) lit_e) rfl (fun _ _ _ _ _ => rfl)⟩
    clear F2
    refine while_it (fun n s' => ∃ h' tk t tw k' acc sg en, s' = { s with heap := h', toks := tk } ∧ Fr g' L' h' (mW B2 (.str (mkS acc) tw) (.int (k' : Nat) t) sg en) ∧ News g' L' h' [] ∧ k' ≤ T.length ∧ acc.length ≤ k' ∧ scan b (T.cps.toList.drop k') acc = W ∧ n = T.length - k') (T.length - k2) ⟨_, _, _, _, k2, [], _, _, rfl, F3, N2, hk2, Nat.zero_le _, hW2, rfl⟩ ?_
    clear F3 N2
    rintro n4 s4 ⟨h4, tk4, t4, tw4, k4, acc, sg4, en4, rfl, F4, N4, hk4, ha4, hW4, hn4⟩
    walk_at "go"
    · rename News _ _ _ _ => N5
      rename Fr _ _ _ _ => F5
      rename (k4 : Int) < _ => hlt4
      obtain ⟨c4, r4, e4⟩ := drop_lt hlt4
      have hl4 := drop_cons_lt e4
      rw [Array.length_toList] at hl4
      rename b = true => hbb
      subst hbb
      rename (Txt.item _ _ == _) = true => hq
      rw [item_sign e4] at hq
      have hq := eq_of_q hq
      rw [e4, scan_end (b := true) _ _ (by rw [hq]; rfl)] at hW4
      subst hW4
      exact ⟨_, _, F5, fun st' => h _ _ _ _ _ (k4 + 1) st' (fresh_of N5 st (by simp) (fun q => nomatch q)) (N5 _ (.head _)).1 hl4 (drop_succ e4)⟩
    · rename News _ _ _ _ => N5
      rename Fr _ _ _ _ => F5
      rename (k4 : Int) < _ => hlt4
      obtain ⟨c4, r4, e4⟩ := drop_lt hlt4
      have hl4 := drop_cons_lt e4
      rw [Array.length_toList] at hl4
      rename b = true => hbb
      subst hbb
      rename (_ == (PySem.Str.ofString "\\")) = true => hb
      rw [item_sign e4] at hb
      have hb := eq_of_b hb
      subst hb
      rw [e4] at hW4
      cases e6 : r4 with
      | nil =>
        rw [e6, scan_e] at hW4
        have e7 : T.cps.toList.drop (k4 + 1) = [] := (drop_succ e4).trans e6
        have e8 : Txt.slice T (some ((k4 : Int) + 1)) (some ((k4 : Int) + 1 + 1)) = mkS [] := slice_none (k := k4 + 1) hl4 e7
        rw [e8]
        refine add_mk (by rw [sizeLine_eq, List.length_nil]; omega) ?_
        intro t5 tk5
        walk_at "go"
        rename News _ _ _ _ => N6
        rename Fr _ _ _ _ => F6
        have hmin : (if (k4 : Int) + 1 + 1 < T.length then (k4 : Int) + 1 + 1 else T.length) = ((k4 + 1 : Nat) : Int) := by
          have hn : T.cps.toList.length ≤ k4 + 1 := List.drop_eq_nil_iff.mp e7
          rw [Array.length_toList] at hn
          have h2 : T.cps.size = T.length := rfl
          split <;> omega
        rw [hmin] at F6
        exact ⟨T.length - (k4 + 1), by omega, _, _, _, _, k4 + 1, acc ++ [], _, _, rfl, fr_mW F6 rfl rfl (fun y n1 n2 n3 n4 => by simp only [mW, if_neg n1, if_neg n2, if_neg n3, if_neg n4]), N6, hl4, by rw [List.append_nil]; omega, by rw [e7, scan_nil, List.append_nil]; exact hW4, rfl⟩
      | cons d r6 =>
        rw [e6, scan_b] at hW4
        have e7 : T.cps.toList.drop (k4 + 1) = d :: r6 := (drop_succ e4).trans e6
        have e8 : Txt.slice T (some ((k4 : Int) + 1)) (some ((k4 : Int) + 1 + 1)) = mkS [d] := slice_cons (k := k4 + 1) e7
        rw [e8]
        refine add_mk (by rw [sizeLine_eq, List.length_cons, List.length_nil]; omega) ?_
        intro t5 tk5
        walk_at "go"
        rename News _ _ _ _ => N6
        rename Fr _ _ _ _ => F6
        have hl7 := drop_cons_lt e7
        rw [Array.length_toList] at hl7
        have hl8 : k4 + 1 < T.length := hl7
        have hmin : (if (k4 : Int) + 1 + 1 < T.length then (k4 : Int) + 1 + 1 else T.length) = ((k4 + 1 + 1 : Nat) : Int) := by
          split <;> omega
        rw [hmin] at F6
        exact ⟨T.length - (k4 + 1 + 1), by omega, _, _, _, _, k4 + 1 + 1, acc ++ [d], _, _, rfl, fr_mW F6 rfl rfl (fun y n1 n2 n3 n4 => by simp only [mW, if_neg n1, if_neg n2, if_neg n3, if_neg n4]), N6, hl8, by simp only [List.length_append, List.length_cons, List.length_nil]; omega, by rw [drop_succ e7]; exact hW4, rfl⟩
    · rename News _ _ _ _ => N5
      rename Fr _ _ _ _ => F5
      rename (k4 : Int) < _ => hlt4
      obtain ⟨c4, r4, e4⟩ := drop_lt hlt4
      have hl4 := drop_cons_lt e4
      rw [Array.length_toList] at hl4
      rename b = true => hbb
      subst hbb
      rename (_ == (PySem.Str.ofString "\"")) = false => hq
      rw [item_sign e4] at hq
      have hq : ends true c4 = false := ne_of_q hq
      rename (_ == (PySem.Str.ofString "\\")) = false => hb
      rw [item_sign e4] at hb
      have hb := ne_of_b hb
      rw [e4, scan_c _ _ hq hb] at hW4
      rw [item_sign e4]
      refine add_mk (by rw [sizeLine_eq, List.length_cons, List.length_nil]; omega) ?_
      intro t5 tk5
      walk_at "go"
      rename News _ _ _ _ => N6
      rename Fr _ _ _ _ => F6
      exact ⟨T.length - (k4 + 1), by omega, _, _, _, _, k4 + 1, acc ++ [c4], _, _, rfl, fr_mW F6 rfl rfl (fun y n1 n2 n3 n4 => by simp only [mW, if_neg n1, if_neg n2, if_neg n3, if_neg n4]), N6, hl4, by simp only [List.length_append, List.length_cons, List.length_nil]; omega, by rw [drop_succ e4]; exact hW4, rfl⟩
    · rename News _ _ _ _ => N5
      rename Fr _ _ _ _ => F5
      rename (k4 : Int) < _ => hlt4
      obtain ⟨c4, r4, e4⟩ := drop_lt hlt4
      have hl4 := drop_cons_lt e4
      rw [Array.length_toList] at hl4
      rename b = false => hbb
      subst hbb
      rename (_ == (PySem.Str.ofString "\\")) = true => hb
      rw [item_sign e4] at hb
      have hb := eq_of_b hb
      subst hb
      rw [e4] at hW4
      cases e6 : r4 with
      | nil =>
        rw [e6, scan_e] at hW4
        have e7 : T.cps.toList.drop (k4 + 1) = [] := (drop_succ e4).trans e6
        have e8 : Txt.slice T (some ((k4 : Int) + 1)) (some ((k4 : Int) + 1 + 1)) = mkS [] := slice_none (k := k4 + 1) hl4 e7
        rw [e8]
        refine add_mk (by rw [sizeLine_eq, List.length_nil]; omega) ?_
        intro t5 tk5
        walk_at "go"
        rename News _ _ _ _ => N6
        rename Fr _ _ _ _ => F6
        have hmin : (if (k4 : Int) + 1 + 1 < T.length then (k4 : Int) + 1 + 1 else T.length) = ((k4 + 1 : Nat) : Int) := by
          have hn : T.cps.toList.length ≤ k4 + 1 := List.drop_eq_nil_iff.mp e7
          rw [Array.length_toList] at hn
          have h2 : T.cps.size = T.length := rfl
          split <;> omega
        rw [hmin] at F6
        exact ⟨T.length - (k4 + 1), by omega, _, _, _, _, k4 + 1, acc ++ [], _, _, rfl, fr_mW F6 rfl rfl (fun y n1 n2 n3 n4 => by simp only [mW, if_neg n1, if_neg n2, if_neg n3, if_neg n4]), N6, hl4, by rw [List.append_nil]; omega, by rw [e7, scan_nil, List.append_nil]; exact hW4, rfl⟩
      | cons d r6 =>
        rw [e6, scan_b] at hW4
        have e7 : T.cps.toList.drop (k4 + 1) = d :: r6 := (drop_succ e4).trans e6
        have e8 : Txt.slice T (some ((k4 : Int) + 1)) (some ((k4 : Int) + 1 + 1)) = mkS [d] := slice_cons (k := k4 + 1) e7
        rw [e8]
        refine add_mk (by rw [sizeLine_eq, List.length_cons, List.length_nil]; omega) ?_
        intro t5 tk5
        walk_at "go"
        rename News _ _ _ _ => N6
        rename Fr _ _ _ _ => F6
        have hl7 := drop_cons_lt e7
        rw [Array.length_toList] at hl7
        have hl8 : k4 + 1 < T.length := hl7
        have hmin : (if (k4 : Int) + 1 + 1 < T.length then (k4 : Int) + 1 + 1 else T.length) = ((k4 + 1 + 1 : Nat) : Int) := by
          split <;> omega
        rw [hmin] at F6
        exact ⟨T.length - (k4 + 1 + 1), by omega, _, _, _, _, k4 + 1 + 1, acc ++ [d], _, _, rfl, fr_mW F6 rfl rfl (fun y n1 n2 n3 n4 => by simp only [mW, if_neg n1, if_neg n2, if_neg n3, if_neg n4]), N6, hl8, by simp only [List.length_append, List.length_cons, List.length_nil]; omega, by rw [drop_succ e7]; exact hW4, rfl⟩
    · rename News _ _ _ _ => N5
      rename Fr _ _ _ _ => F5
      rename (k4 : Int) < _ => hlt4
      obtain ⟨c4, r4, e4⟩ := drop_lt hlt4
      have hl4 := drop_cons_lt e4
      rw [Array.length_toList] at hl4
      rename b = false => hbb
      subst hbb
      rename List.isEmpty _ = true => hq
      rw [item_sign e4] at hq
      have hq : ends false c4 = false := ws2_of hq
      rename (_ == (PySem.Str.ofString "\\")) = false => hb
      rw [item_sign e4] at hb
      have hb := ne_of_b hb
      rw [e4, scan_c _ _ hq hb] at hW4
      rw [item_sign e4]
      refine add_mk (by rw [sizeLine_eq, List.length_cons, List.length_nil]; omega) ?_
      intro t5 tk5
      walk_at "go"
      rename News _ _ _ _ => N6
      rename Fr _ _ _ _ => F6
      exact ⟨T.length - (k4 + 1), by omega, _, _, _, _, k4 + 1, acc ++ [c4], _, _, rfl, fr_mW F6 rfl rfl (fun y n1 n2 n3 n4 => by simp only [mW, if_neg n1, if_neg n2, if_neg n3, if_neg n4]), N6, hl4, by simp only [List.length_append, List.length_cons, List.length_nil]; omega, by rw [drop_succ e4]; exact hW4, rfl⟩
    · rename News _ _ _ _ => N5
      rename Fr _ _ _ _ => F5
      rename (k4 : Int) < _ => hlt4
      obtain ⟨c4, r4, e4⟩ := drop_lt hlt4
      have hl4 := drop_cons_lt e4
      rw [Array.length_toList] at hl4
      rename b = false => hbb
      subst hbb
      rename List.isEmpty _ = false => hq
      rw [item_sign e4] at hq
      have hq := ws2_of hq
      rw [e4, scan_end (b := false) _ _ (by exact hq)] at hW4
      subst hW4
      exact ⟨_, _, F5, fun st' => h _ _ _ _ _ (k4 + 1) st' (fresh_of N5 st (by simp) (fun q => nomatch q)) (N5 _ (.head _)).1 hl4 (drop_succ e4)⟩
    · rename News _ _ _ _ => N5
      rename Fr _ _ _ _ => F5
      rename ¬ (k4 : Int) < _ => hlt4
      have e4 := drop_ge hlt4
      rw [e4, scan_nil] at hW4
      subst hW4
      exact ⟨_, _, F5, fun st' => h _ _ _ _ _ k4 st' (fresh_of N5 st (by simp) (fun q => nomatch q)) (N5 _ (.head _)).1 hk4 e4⟩
end Mine

namespace Mine
/- THE PLAIN LAW -/
theorem quoted_len (l acc : List Nat) : (quoted l acc).2.length ≤ l.length := by
  fun_induction quoted l acc <;> simp_all <;> omega
theorem bare_len' (l acc : List Nat) : (bare l acc).2.length < l.length ∨ l = [] := by
  fun_induction bare l acc
  · exact .inr rfl
  all_goals first
    | (left; simp_all; done)
    | (left; simp; done)
    | skip
  · rename_i ih
    left
    rcases ih with ih | ih
    · simp only [List.length_cons] at *; omega
    · subst ih; simp [bare]
  · rename_i ih
    left
    rcases ih with ih | ih
    · simp only [List.length_cons] at *; omega
    · cases ih
theorem bare_len (l acc : List Nat) (h : l ≠ []) : (bare l acc).2.length < l.length := (bare_len' l acc).resolve_right h
theorem word_len (l : List Nat) (h : l ≠ []) : (word l).2.length < l.length := by
  induction l with
  | nil => exact absurd rfl h
  | cons c r ih =>
    unfold word
    by_cases h1 : isWs c = true
    · rw [if_pos h1]
      by_cases hr : r = []
      · subst hr; simp [word]
      · exact Nat.lt_succ_of_lt (ih hr)
    · rw [if_neg h1]
      by_cases h2 : (c == 34) = true
      · rw [if_pos h2]; exact Nat.lt_succ_of_le (quoted_len r [])
      · rw [if_neg h2]; exact bare_len (c :: r) [] (by simp)

/-- a word written within marks -/
def esc : List Nat → List Nat
  | [] => []
  | c :: r => if c = 92 then 92 :: 92 :: esc r else if c = 34 then 92 :: 34 :: esc r else c :: esc r
/-- a word written bare -/
def bs : List Nat → List Nat
  | [] => []
  | c :: r => 92 :: c :: bs r
theorem quoted_esc (p : List Nat) : ∀ acc rest, quoted (esc p ++ 34 :: rest) acc = (acc ++ p, rest) := by
  induction p with
  | nil => intro acc rest; show quoted (34 :: rest) acc = _; rw [quoted_q, List.append_nil]
  | cons c r ih =>
    intro acc rest
    unfold esc
    by_cases h1 : c = 92
    · subst h1
      rw [if_pos rfl]
      show quoted (92 :: 92 :: (esc r ++ 34 :: rest)) acc = _
      rw [quoted_b, ih]; simp
    · rw [if_neg h1]
      by_cases h2 : c = 34
      · subst h2
        rw [if_pos rfl]
        show quoted (92 :: 34 :: (esc r ++ 34 :: rest)) acc = _
        rw [quoted_b, ih]; simp
      · rw [if_neg h2]
        show quoted (c :: (esc r ++ 34 :: rest)) acc = _
        rw [quoted_c _ _ (by simpa using h2) (by simpa using h1), ih]; simp
theorem bare_bs (p : List Nat) {v : Nat} (hv : isWs v = true) : ∀ acc rest, bare (bs p ++ v :: rest) acc = (acc ++ p, rest) := by
  induction p with
  | nil => intro acc rest; show bare (v :: rest) acc = _; rw [bare_w _ _ hv, List.append_nil]
  | cons c r ih =>
    intro acc rest
    show bare (92 :: c :: (bs r ++ v :: rest)) acc = _
    rw [bare_b, ih]; simp
theorem word_esc (p rest : List Nat) : word (34 :: esc p ++ 34 :: rest) = (p, rest) := by
  show word (34 :: (esc p ++ 34 :: rest)) = _
  unfold word
  rw [if_neg (by decide), if_pos (by decide), quoted_esc]; rfl
theorem word_bs (p : List Nat) (h : p ≠ []) {v : Nat} (hv : isWs v = true) (rest : List Nat) : word (bs p ++ v :: rest) = (p, rest) := by
  cases p with
  | nil => exact absurd rfl h
  | cons c r =>
    show word (92 :: (c :: (bs r ++ v :: rest))) = _
    unfold word
    rw [if_neg (by decide), if_neg (by decide)]
    have := bare_bs (c :: r) hv [] rest
    exact this
/-- these words are read, and then none -/
def rd : List (List Nat) → List Nat → Prop
  | [], l => word l = ([], [])
  | d :: ds, l => (word l).1 = d ∧ rd ds (word l).2
theorem rd_ws {c : Nat} (h : isWs c = true) (l : List Nat) : ∀ ds, rd ds l → rd ds (c :: l) := by
  have e : word (c :: l) = word l := by rw [word]; rw [if_pos h]
  intro ds
  cases ds with
  | nil => intro k; show word (c :: l) = _; rw [e]; exact k
  | cons d ds => intro k; show (word (c :: l)).1 = d ∧ rd ds (word (c :: l)).2; rw [e]; exact k
/-- what is written is read as it was, whatever follows -/
def Good (ds : List (List Nat)) (l : List Nat) : Prop := ∀ es k, rd es k → rd (ds ++ es) (l ++ k)
theorem Good.nil : Good [] [] := fun _ _ h => h
theorem Good.marked {ds : List (List Nat)} {l : List Nat} (g : Good ds l) (p : List Nat) {v : Nat} (hv : isWs v = true) : Good (ds ++ [p]) (l ++ (34 :: esc p ++ [34]) ++ [v]) := fun es k h => by
  have := g (p :: es) (34 :: esc p ++ 34 :: v :: k) ⟨by rw [word_esc], by rw [word_esc]; exact rd_ws hv k es h⟩
  simpa using this
theorem Good.bare {ds : List (List Nat)} {l : List Nat} (g : Good ds l) (p : List Nat) (hp : p ≠ []) {v : Nat} (hv : isWs v = true) : Good (ds ++ [p]) (l ++ bs p ++ [v]) := fun es k h => by
  have := g (p :: es) (bs p ++ v :: k) ⟨by rw [word_bs p hp hv], by rw [word_bs p hp hv]; exact h⟩
  simpa using this
theorem Good.rd {ds : List (List Nat)} {l : List Nat} (g : Good ds l) : rd ds l := by
  have := g [] [] rfl
  simpa using this

theorem dbl_esc (l : List Nat) : ∀ l' : List Nat, l' = StrLaws.dbl 92 l → (l'.flatMap fun c => if c = 34 then [92, 34] else [c]) = esc l := by
  induction l with
  | nil => rintro _ rfl; rfl
  | cons c r ih =>
    rintro _ rfl
    unfold StrLaws.dbl esc
    by_cases h : c = 92
    · subst h
      rw [if_pos rfl, if_pos rfl, List.flatMap_cons, List.flatMap_cons, ih _ rfl]; rfl
    · rw [if_neg h, if_neg h, List.flatMap_cons, ih _ rfl]
      by_cases h2 : c = 34
      · subst h2; rw [if_pos rfl, if_pos rfl]; rfl
      · rw [if_neg h2, if_neg h2]; rfl
theorem flat_free {c : Nat} {z : List Nat} : ∀ l : List Nat, c ∉ l → (l.flatMap fun d => if d = c then z else [d]) = l
  | [], _ => rfl
  | k :: r, h => by
    rw [List.flatMap_cons, flat_free r fun m => h (List.mem_cons_of_mem _ m), if_neg (fun e : k = c => h (e ▸ List.mem_cons_self ..))]; rfl
theorem flat_join {c : Nat} (z : Str) : ∀ parts : List Str, (∀ p ∈ parts, c ∉ p.cps.toList) → ((Str.join ⟨#[c]⟩ parts).cps.toList.flatMap fun d => if d = c then z.cps.toList else [d]) = (Str.join z parts).cps.toList
  | [], _ => rfl
  | [p], h => flat_free _ (h p (List.mem_singleton.mpr rfl))
  | p :: q :: r, h => by
    have ih := flat_join z (q :: r) fun a ha => h a (List.mem_cons_of_mem _ ha)
    show ((p ++ ⟨#[c]⟩ ++ Str.join ⟨#[c]⟩ (q :: r)).cps.toList.flatMap _) = (p ++ z ++ Str.join z (q :: r)).cps.toList
    simp only [Str.cps_append, Array.toList_append, List.flatMap_append]
    rw [ih, flat_free _ (h p (List.mem_cons_self ..))]
    simp
theorem replace_cps (x z : Str) (c : Nat) : (Txt.replace x ⟨#[c]⟩ z).cps.toList = x.cps.toList.flatMap fun d => if d = c then z.cps.toList else [d] := by
  rw [StrLaws.replace_one, ← flat_join z _ (StrLaws.split_free x c), StrLaws.join_split]
/-- the two replacements write the escapes -/
theorem replace_esc (x : Str) : (Txt.replace (Txt.replace x "\\" "\\\\") "\"" "\\\"") = mkS (esc x.cps.toList) := by
  have e1 : ("\\" : Str) = ⟨#[92]⟩ := by decide +kernel
  have e2 : ("\\\\" : Str) = ⟨#[92, 92]⟩ := by decide +kernel
  have e3 : ("\"" : Str) = ⟨#[34]⟩ := by decide +kernel
  have e4 : ("\\\"" : Str).cps.toList = [92, 34] := by decide +kernel
  have k : (Txt.replace (Txt.replace x "\\" "\\\\") "\"" "\\\"").cps.toList = esc x.cps.toList := by
    rw [e3, replace_cps, e4, e1, e2]
    exact dbl_esc _ _ (StrLaws.replace_double x 92)
  show _ = (⟨(esc x.cps.toList).toArray⟩ : Str)
  rw [← k]
theorem esc_len (l : List Nat) : (esc l).length ≤ 2 * l.length := by
  induction l with
  | nil => exact Nat.le_refl _
  | cons c r ih =>
    unfold esc
    split
    · simp only [List.length_cons]; omega
    · split <;> simp only [List.length_cons] <;> omega
theorem bs_len (l : List Nat) : (bs l).length = 2 * l.length := by
  induction l with
  | nil => rfl
  | cons c r ih => show (bs r).length + 1 + 1 = _; rw [ih, List.length_cons]; omega
theorem mk_cps (x : Str) : mkS x.cps.toList = x := by unfold mkS; rfl
theorem cps_mk (l : List Nat) : (mkS l).cps.toList = l := by unfold mkS; rfl
/-- lines of a text -/
theorem count_mk (x : Str) : Txt.count x "\n" = ((x.cps.toList.count 10 : Nat) : Int) := by
  have e1 : ("\n" : Str) = ⟨#[10]⟩ := by decide +kernel
  rw [e1, count_cnt]
  generalize x.cps.toList = l
  induction l with
  | nil => rfl
  | cons c r ih =>
    rw [cnt_cons, ih, List.count_cons]
    by_cases h : c = 10
    · subst h; simp; omega
    · have h2 : (c == 10) = false := by simpa using h
      rw [if_neg h, h2]; simp
/-- a text up to a place -/
theorem slice_take {T : Str} {k : Nat} (h : k ≤ T.length) : Txt.slice T none (some (k : Int)) = mkS (T.cps.toList.take k) := by
  have := beq_iff_eq.mp (slice_closes_toL (x := T) (j := (k : Int)) (by omega) (by omega))
  rw [this, show ((k : Int) - 0).toNat = k by omega]
  rfl
end Mine

namespace Mine
theorem fillC1 : (PySem.Challenge.rw_wv0071_01.foot = 3) ∧ (∀ P, hd.heap_39 P = hd.heap_39 P) := by k_fill; exact ⟨rfl, fun _ => rfl⟩

/- a block's turns, by what holds between them -/
section
variable {prog : Program} {w : World} {A : Around} {h₀ : Heap} {L : Addr} {m : Str → Option Value} {env : Env}
theorem turns {elt : PySem.Expr} {x : Str} {scope : Scope} {cl : List (Str × Addr)} {s : Shared} {S : List (Addr × Obj) → Prop} {P : Nat → Value → Prop} {Fin : List Value → List (Addr × Obj) → Prop}
    (J : Nat → List Value → List (Addr × Obj) → Prop) (n : Nat) {news : List (Addr × Obj)} (h0 : J 0 [] news)
    (turn : ∀ i ys news v I oI C oC D m₂ h tk (E' : Value → Shared → Prop), i < n → J i ys news → P i v → LCg.NsObj oC m₂ → m₂ x = some v → Fr h₀ L h m → News h₀ L h ((I, oI) :: (C, oC) :: (D, LCg.lst ys) :: news) → LCg.Off3 I C D news → ((@Ne Nat I C) ∧ (@Ne Nat I D) ∧ (@Ne Nat C D)) →
      wpAny (model prog w) A (eval elt (compEnvC scope cl C env)) (fun y s₂ => ∃ h' tk news', s₂ = { s with heap := h', toks := tk } ∧ Fr h₀ L h' m ∧ News h₀ L h' ((I, oI) :: (C, oC) :: (D, LCg.lst ys) :: news') ∧ LCg.Off3 I C D news' ∧ S news' ∧ J (i + 1) (ys ++ [y]) news') E' { s with heap := h, toks := tk })
    (fin : ∀ ys news, J n ys news → Fin ys news) : LCg.CompRest prog w A h₀ L m env elt x scope cl s S P Fin n 0 [] news := by
  have key : ∀ k i ys news, i + k = n → J i ys news → LCg.CompRest prog w A h₀ L m env elt x scope cl s S P Fin k i ys news := by
    intro k
    induction k with
    | zero => intro i ys news e j; exact LCg.CompRest.zero (fin _ _ (by rw [← e]; exact j))
    | succ k ih =>
      intro i ys news e j
      refine LCg.CompRest.succ fun v I oI C oC D m₂ h tk E' p hC hx F N off ne => ?_
      refine wpAny_mono (turn i ys news v I oI C oC D m₂ h tk E' (by omega) j p hC hx F N off ne) (fun y s₂ z => ?_) fun _ _ z => z
      obtain ⟨h', tk', news', rfl, F', N', off', hS, j'⟩ := z
      exact ⟨h', tk', news', rfl, F', N', off', hS, ih (i + 1) _ _ (by omega) j'⟩
  exact key n 0 [] news (Nat.zero_add n) h0
end

theorem strs_snoc {ys : List Value} {zs : List Str} {z : Str} {t : Tok} (h : StrsAre ys zs) : StrsAre (ys ++ [.str z t]) (zs ++ [z]) := by
  induction h with
  | nil => exact .cons _ _ .nil
  | cons _ _ _ ih => exact .cons _ _ ih
local macro_rules | `(tactic| walk_at "eval ListComp") => `(tactic| (k_here; k_dflt (refine LCg.ListComp_U (F₀ := by k_asm) (by with_unfolding_all rfl) (by decide) (by rfl) (by decide) (by rfl) ?_)))
local macro_rules | `(tactic| walk_at "eval Name") => `(tactic| (k_here; (with_reducible show wpAny _ _ (eval (Expr.Name _ _) (envOfC _ _ _ _ _)) _ _ _); k_dflt (refine' nameX_L ?F ?v ?_ ?a ?b; (case F => k_asm); (case a => rfl); (case b => rfl); (case v => assumption); k_whole)))

local macro_rules | `(tactic| walk_at "go") => `(tactic| repeat' (first | ((fail_if_success (with_reducible show Exists _)); (fail_if_success (with_reducible show LCg.CompSrc _ _ _ _ _ _ _ _ _ _ _ _ _ _)); first | (k_unfold; (try dsimp only)) | (k_end; wrow_close) | walk1 | (dsimp only; walk1) | (leave1; walk_say "STEP leave1"; try dsimp only)) | fail "no step"))

set_option maxHeartbeats 4000000 in
theorem seg1 {w : World} {s : Shared} {p : Program} {loose : List Str} {mean : ExcName → Option Value} {mg mb : Str → Option Value} {n75 q75 : Str} {p75 : Arguments} {s1 s2 s3 s4 s5 s6 s7 s8 s9 s10 s11 s12 s13 s14 s15 : Stmt} {sc75 : Scope} {oc dV kV doc pm cdv ct : Value} {od an : Option Addr} {osl : Array (Option Value)}
    {g : Heap} {L fa sa : Addr} {cd : Value} {m : Str → Option Value} {news : List (Addr × Obj)} {vs : List Value} {ns : List Int} {Q : Flow → Shared → Prop}
    (hK : (hd.heap_39 w.params).lookup 75 = some ⟨oc, od, .func (fnOf n75 q75 p75 [s1, s2, s3, s4, s5, s6, s7, s8, s9, s10, s11, s12, s13, s14, s15] sc75 dV kV doc pm an cdv ct), osl⟩)
    (codeHd : CodeHd g 62 58) (X : (hd.heap_39 w.params).In g) (T : Top p loose mean mg mb g) (F : Fr g L s.heap m) (N : News g L s.heap news) (hs : m "script" = some (.ref sa)) (hl : g.IsList sa vs.toArray) (hI : IntsAre vs ns) (hn : ns.length ≤ 63)
    (h : ∀ h' tk m' T t, Fr g L h' m' → News g L h' news → T.length ≤ 63 → m' "text" = some (.str T t) → Q .next { s with heap := h', toks := tk }) :
    wpAny (model PR w) (callerA.deeper (envOfC q75 sc75 L fa cd)) (exec s1 (envOfC q75 sc75 L fa cd)) Q (fun _ _ => False) s := by
  refine' use_lookup hK ?e ?_
  case e => k_is
  intro e
  cases e
  clear hK
  (try dsimp only)
  (try k_fold)
  walk_at "go"
  refine LCg.CompSrc.base rfl F N hl (by have := hI.length; rw [List.size_toArray, sizeLine_eq]; omega) ?_
  intro g1
  refine turns (fun i ys nw => nw = news ∧ ∃ zs, StrsAre ys zs ∧ zs.length = i ∧ (zs.map (·.length)).sum ≤ i) vs.toArray.size ⟨rfl, [], .nil, rfl, Nat.le_refl _⟩ ?_ ?_
  · rintro i ys _ v I oI C oC D m₂ h1 tk1 E' hi ⟨rfl, zs, hz, hzl, hzs⟩ hv hC hx F1 N1 off ne
    obtain ⟨k, t, e, hk⟩ := IntsAre.at hI i v (by simpa using hv)
    subst e
    walk_at "go"
    rename Str.length _ = 1 => hone
    exact ⟨_, _, _, rfl, F1, N1, off, .inl hl, rfl, zs ++ [_], strs_snoc hz, by simp [hzl], by rw [List.map_append, List.sum_append]; simp only [List.map_cons, List.map_nil, List.sum_cons, List.sum_nil, hone]; omega⟩
  · rintro ys _ ⟨rfl, zs, hz, hzl, hzs⟩ D h1 tk1 F1 N1 off
    have hvl := hI.length
    rw [List.size_toArray] at hzl hzs
    walk_at "go"
    refine join_listW (News.isList N1 (.head _)) hz (by decide) (by omega) ?_
    intro t' tk'
    walk_at "go"
    rename News _ _ _ _ => N2
    rename Fr _ _ _ _ => F2
    refine h _ _ _ _ _ F2 (fun q hq => N2 q (.tail _ hq)) ?_ rfl
    have e := StrLaws.join_length_le "" zs
    rw [show ("" : Str).length = 0 from rfl, Nat.mul_zero] at e
    rw [show Txt.join "" zs = Str.join "" zs from StrLaws.glued_eq_join _ _]
    omega
end Mine

namespace Mine
theorem fillC2 : (PySem.Challenge.rw_wv0071_01.foot = 3) ∧ (∀ P, hd.heap_39 P = hd.heap_39 P) := by k_fill; exact ⟨rfl, fun _ => rfl⟩
local macro_rules | `(tactic| walk_at "eval Name") => `(tactic| (k_here; (with_reducible show wpAny _ _ (eval (Expr.Name _ _) (envOfC _ _ _ _ _)) _ _ _); k_dflt (refine' nameX_L ?F ?v ?_ ?a ?b; (case F => k_asm); (case a => rfl); (case b => rfl); (case v => assumption); k_whole)))
local macro_rules | `(tactic| walk_at "go") => `(tactic| repeat' (first | ((fail_if_success (with_reducible show Exists _)); (fail_if_success (with_reducible show wpAny _ _ (call (Value.ref 63) _) _ _ _)); first | (k_unfold; (try dsimp only)) | (k_end; wrow_close) | walk1 | (dsimp only; walk1) | (leave1; walk_say "STEP leave1"; try dsimp only)) | fail "no step"))

theorem caller_depth {q : Str} {sc : Scope} {L fa : Addr} {cd : Value} {n : Nat} (h : n ≤ 500) : (callerA.deeper (envOfC q sc L fa cd)).depth + n < recursionLimit := by
  have e : (callerA.deeper (envOfC q sc L fa cd)).depth + 500 < recursionLimit := Nat.le_of_ble_eq_true rfl
  omega
theorem caller_units {q : Str} {sc : Scope} {L fa : Addr} {cd : Value} {n : Nat} (h : n ≤ 500) : (callerA.deeper (envOfC q sc L fa cd)).units + n < cLine := by
  have e : (callerA.deeper (envOfC q sc L fa cd)).units + 500 < cLine := Nat.le_of_ble_eq_true rfl
  omega

theorem lex_fresh {g h : Heap} {L d : Addr} {m : Str → Option Value} (F : Fr g L h m) (hd : h.get? d = none) : d ≠ L ∧ g.get? d = none := by
  constructor
  · rintro rfl
    obtain ⟨o, _, _, ho, _⟩ := F.ns
    rw [hd] at ho; cases ho
  · refine Option.eq_none_iff_forall_ne_some.mpr fun o e => ?_
    have := F.keep _ _ e
    rw [hd] at this; cases this

/-- the lexer's place in the law: below its cell, after the table -/
structure LawAt (L : Nat) (a : LexA) (cl : Nat) : Prop where
  h1 : ltA 58 (L + 1)
  h2 : ltA (L + 1) a.ct
  h3 : ltA a.at_ a.cr
  h4 : ltA a.cr a.fr
  h5 : ltA a.fr cl
  h6 : ltA cl a.st

abbrev lawPre (L : Addr) (oX : Obj) (a : LexA) (cl : Addr) (oL : Obj) : List (Addr × Obj) := [(L + 1, oX), (58, tabObj (tab2 a.cr cl)), (cl, oL)]

set_option maxHeartbeats 4000000 in
theorem seg2 {w : World} {s : Shared} {p : Program} {loose : List Str} {mean : ExcName → Option Value} {mg mb : Str → Option Value} {n75 q75 : Str} {p75 : Arguments} {s1 s2 s3 s4 s5 s6 s7 s8 s9 s10 s11 s12 s13 s14 s15 : Stmt} {sc75 : Scope} {oc dV kV doc pm cdv ct : Value} {od an : Option Addr} {osl : Array (Option Value)}
    {g : Heap} {L fa : Addr} {cd : Value} {m : Str → Option Value} {u : Option Value} {oX : Obj} {T : Str} {tT : Tok} {Q : Flow → Shared → Prop}
    (hK : (hd.heap_39 w.params).lookup 75 = some ⟨oc, od, .func (fnOf n75 q75 p75 [s1, s2, s3, s4, s5, s6, s7, s8, s9, s10, s11, s12, s13, s14, s15] sc75 dV kV doc pm an cdv ct), osl⟩)
    (codeHd : CodeHd g 62 58) (X : (hd.heap_39 w.params).In g) (Tp : Top p loose mean mg mb g) (F : Fr g L s.heap m) (N : News g L s.heap [(L + 1, oX), (58, tabObj #[])]) (hc : oX.data = .cell u) (hL : ltA 58 L) (ht : m "text" = some (.str T tT)) (hT : T.length ≤ 63)
    (h : ∀ h' tk a cl oL oX' tp t0, Fr g L h' m → News g L h' (lawPre L oX' a cl oL ++ lexLed w.params a ⟨0, tp, 1, t0, [], 0⟩) → oX'.data = .cell (some (.ref a.x)) → a.T = T → LexOk w p loose mean mg mb a → LawAt L a cl → RoCode a.oC → Q .next { s with heap := h', toks := tk }) :
    wpAny (model PR w) (callerA.deeper (envOfC q75 sc75 L fa cd)) (exec s2 (envOfC q75 sc75 L fa cd)) Q (fun _ _ => False) s := by
  have hL2 := hL
  unfold ltA at hL2
  refine' use_lookup hK ?e ?_
  case e => k_is
  intro e
  cases e
  clear hK
  (try dsimp only)
  (try k_fold)
  walk_at "go"
  refine wpAny_call (lexer_new (c := L + 1) (ox := oX) rfl (caller_depth (by decide)) (Nat.lt_succ_of_lt hL) (Base.of F N X Tp (by simp)) (fun q hq => news_has N q (by simp only [List.mem_cons, List.not_mem_nil, or_false] at hq ⊢; exact hq.symm)) ?_)
  intro h1 tk1 x dx pb st sd fr cr at_ ct ca oT oA fdR oC fdS ks k1 k2 k3 k4 kw cl oL t0 tp hst hcx H l1 l2 l3 l4 l5 O ro fresh hC
  have F1 := fr_behind F N (ds := [58, L + 1]) (by simp) hst
  have N1 : News g L h1 (lawPre L oX ⟨x, dx, pb, st, sd, fr, cr, at_, ct, ca, T, oT, oA, fdR, oC, fdS, ks, k1, k2, k3, k4, kw⟩ cl oL ++ lexLed w.params ⟨x, dx, pb, st, sd, fr, cr, at_, ct, ca, T, oT, oA, fdR, oC, fdS, ks, k1, k2, k3, k4, kw⟩ ⟨0, tp, 1, t0, [], 0⟩) := by
    intro q hq
    simp only [lawPre, List.mem_append, List.mem_cons, List.not_mem_nil, or_false] at hq
    rcases hq with (rfl | rfl | rfl) | rfl | rfl | rfl | rfl | rfl | rfl | rfl | rfl | rfl | rfl
    · exact ⟨hcx, (N (L + 1, oX) (.head _)).2⟩
    · exact ⟨H (58, _) (by simp), (N (58, _) (.tail _ (.head _))).2⟩
    all_goals exact ⟨H _ (by simp), lex_fresh F (fresh _ (by simp))⟩
  clear F N
  have hO := O
  unfold LexOrd ltA at hO
  dsimp only at hO
  unfold ltA at l1 l2 l3 l4 l5
  dsimp only [lawPre, lexLed, List.cons_append, List.nil_append] at N1
  walk_at "go"
  rename News _ _ _ _ => N2
  rename Fr _ _ _ _ => F2
  exact h _ _ ⟨x, dx, pb, st, sd, fr, cr, at_, ct, ca, T, oT, oA, fdR, oC, fdS, ks, k1, k2, k3, k4, kw⟩ cl oL _ tp t0 F2 N2 (by assumption) rfl ⟨O, ro, by show T.length ≤ _; omega⟩ ⟨Nat.lt_succ_of_lt hL, l1, l4, l5, l2, l3⟩ hC
end Mine

namespace Mine
section
variable {w : World} {A : Around} {g : Heap} {L : Addr} {env : Env}
/-- a for's turns, by what holds between them: the frame's names and the ledger -/
theorem for_U {R : Result → Shared → Prop} {x : Str} {px : Pos} {body : List Stmt} {s₂ : Shared} {I : Addr} {fp : List Addr} {n : Nat} {P : Nat → Value → Prop} {St : Nat → Heap → Prop} {S : List (Addr × Obj) → Prop} {m : Str → Option Value} {news : List (Addr × Obj)}
    (J : Nat → (Str → Option Value) → List (Addr × Obj) → Prop)
    (W : Walks PR w A I fp [I] n P St) (hIo : ∀ i h, St i h → ∃ o, h.get? I = some o)
    (hSt : ∀ i h h' o nw, St i h → h.get? I = some o → h'.get? I = some o → (∀ b o, g.get? b = some o → h'.get? b = some o) → News g L h' nw → S nw → St i h')
    (hx : env.kindOf x = some .local) (hp : (env.scope.kind == .class || (env.scope.kind == .module && env.locals != env.globals)) = false) (hLe : env.locals = L) (hLf : L ∉ fp)
    (hS : ∀ i m nw, J i m nw → S nw) (st0 : St 0 s₂.heap) (F : Fr g L s₂.heap m) (N : News g L s₂.heap news) (hI₀ : g.get? I = none) (off : ∀ q ∈ news, q.1 ≠ I) (j0 : J 0 m news)
    (turn : ∀ i m' nw v oI h tk, i < n → J i m' nw → P i v → Fr g L h (fun z => if z = x then some v else m' z) → News g L h ((I, oI) :: nw) → (∀ q ∈ nw, q.1 ≠ I) →
      wpAny (model PR w) A (execs body env) (fun f s₃ => match f with
        | .next | .cont => ∃ h' tk' m'' nw', s₃ = { s₂ with heap := h', toks := tk' } ∧ Fr g L h' m'' ∧ News g L h' ((I, oI) :: nw') ∧ (∀ q ∈ nw', q.1 ≠ I) ∧ J (i + 1) m'' nw'
        | .brk => False
        | .ret v => R (.ok (.ret v)) s₃) (fun _ _ => False) { s₂ with heap := h, toks := tk })
    (fin : ∀ m' nw h tk, J n m' nw → Fr g L h m' → News g L h nw → R (.ok .next) { s₂ with heap := h, toks := tk }) :
    codeAny (model PR w) A (.forLoop (.Name x px) (.ref I) body [] env) R s₂ := by
  subst hLe
  have hIf : I ∈ fp := W.sub I (List.mem_singleton.mpr rfl)
  have hIL : env.locals ≠ I := fun q => hLf (by rw [q]; exact hIf)
  refine codeAny_forLoop (fun k s' => ∃ h' tk i m' nw, s' = { s₂ with heap := h', toks := tk } ∧ i ≤ n ∧ k = n - i ∧ St i h' ∧ Fr g env.locals h' m' ∧ News g env.locals h' nw ∧ (∀ q ∈ nw, q.1 ≠ I) ∧ J i m' nw) (fun k s hI => ?_) n ⟨_, _, 0, m, news, rfl, Nat.zero_le _, rfl, st0, F, N, off, j0⟩
  obtain ⟨h', tk, i, m', nw, rfl, hi, rfl, st, F', N', off', j⟩ := hI
  by_cases hlt : i < n
  · refine W.item i _ _ _ hlt st fun v h₂ tk₂ hPv st₂ hk₂ => ?_
    have F₂ : Fr g env.locals h₂ m' := LCg.fr_but F' hk₂ hIL hI₀
    have N₂ : News g env.locals h₂ nw := LCg.news_but N' hk₂ off'
    refine wpAny_assign_Name (wpAny_storeName_local hx F₂.ns (fun h₃ hn₃ hs₃ => ?_) hp)
    have hL₀ : g.get? env.locals = none := Heap.get?_none_of_le F₂.above
    have F₃ : Fr g env.locals h₃ (fun z => if z = x then some v else m' z) := ⟨hn₃, fun b o e => hs₃.extBut b o (fun q => by rw [q, hL₀] at e; cases e) (F₂.keep b o e), F₂.above⟩
    have st₃ : St (i + 1) h₃ := W.frame _ _ _ st₂ fun b hb o e => hs₃.extBut b o (fun q => hLf (by rw [← q]; exact hb)) e
    obtain ⟨oI, heI⟩ := hIo _ _ st₃
    have N₃ : News g env.locals h₃ ((I, oI) :: nw) := fun q hq => by
      rcases List.mem_cons.mp hq with rfl | hq
      · exact ⟨heI, Ne.symm hIL, hI₀⟩
      · exact ⟨hs₃.extBut _ _ (N₂ q hq).2.1 (N₂ q hq).1, (N₂ q hq).2⟩
    refine wpAny_mono (turn i m' nw v oI h₃ _ hlt j hPv F₃ N₃ off') (fun f s₃ z => ?_) fun _ _ z => z.elim
    have next : (∃ h' tk' m'' nw', s₃ = { s₂ with heap := h', toks := tk' } ∧ Fr g env.locals h' m'' ∧ News g env.locals h' ((I, oI) :: nw') ∧ (∀ q ∈ nw', q.1 ≠ I) ∧ J (i + 1) m'' nw') →
        ∃ m, m < n - i ∧ ∃ h' tk i m' nw, s₃ = { s₂ with heap := h', toks := tk } ∧ i ≤ n ∧ m = n - i ∧ St i h' ∧ Fr g env.locals h' m' ∧ News g env.locals h' nw ∧ (∀ q ∈ nw, q.1 ≠ I) ∧ J i m' nw := by
      rintro ⟨h₄, tk₄, m₄, nw₄, rfl, F₄, N₄, off₄, j₄⟩
      have N₅ : News g env.locals h₄ nw₄ := fun q hq => N₄ q (.tail _ hq)
      exact ⟨n - (i + 1), by omega, h₄, tk₄, i + 1, m₄, nw₄, rfl, hlt, rfl, hSt _ _ _ _ _ st₃ heI (N₄ (I, oI) (.head _)).1 F₄.keep N₅ (hS _ _ _ j₄), F₄, N₅, off₄, j₄⟩
    cases f with
    | next => exact next z
    | cont => exact next z
    | brk => exact z.elim
    | ret v => exact z
  · obtain rfl : i = n := Nat.le_antisymm hi (Nat.not_lt.mp hlt)
    refine W.done _ _ _ st fun h₂ tk₂ hk₂ => ?_
    exact wpAny_execs_nil (fin _ _ _ _ j (LCg.fr_but F' hk₂ hIL hI₀) (LCg.news_but N' hk₂ off'))

/-- a for over a list of the ledger -/
theorem for_list {R : Result → Shared → Prop} {E : Value → Shared → Prop} {x : Str} {px : Pos} {body : List Stmt} {s : Shared} {l : Addr} {items : Array Value} {o : Obj} {m : Str → Option Value} {news : List (Addr × Obj)}
    (J : Nat → (Str → Option Value) → List (Addr × Obj) → Prop) (hh : A.handled = none)
    (hx : env.kindOf x = some .local) (hp : (env.scope.kind == .class || (env.scope.kind == .module && env.locals != env.globals)) = false) (hLe : env.locals = L)
    (hc : o.cls = .type "list") (hd : ∃ n, o.data = .seq items n) (hS : ∀ i m nw, J i m nw → (l, o) ∈ nw) (F : Fr g L s.heap m) (N : News g L s.heap news) (j0 : J 0 m news)
    (turn : ∀ I s₂ i m' nw v oI h tk, (∃ h, s₂ = { s with heap := h }) → i < items.size → J i m' nw → items[i]? = some v → Fr g L h (fun z => if z = x then some v else m' z) → News g L h ((I, oI) :: nw) → (∀ q ∈ nw, q.1 ≠ I) →
      wpAny (model PR w) A (execs body env) (fun f s₃ => match f with
        | .next | .cont => ∃ h' tk' m'' nw', s₃ = { s₂ with heap := h', toks := tk' } ∧ Fr g L h' m'' ∧ News g L h' ((I, oI) :: nw') ∧ (∀ q ∈ nw', q.1 ≠ I) ∧ J (i + 1) m'' nw'
        | .brk => False
        | .ret v => R (.ok (.ret v)) s₃) (fun _ _ => False) { s₂ with heap := h, toks := tk })
    (fin : ∀ m' nw h tk, J items.size m' nw → Fr g L h m' → News g L h nw → R (.ok .next) { s with heap := h, toks := tk }) :
    wpAny (model PR w) A (pyIter (.ref l)) (fun it s₂ => codeAny (model PR w) A (.forLoop (.Name x px) it body [] env) R s₂) E s := by
  have hm := hS _ _ _ j0
  have hl : s.heap.IsList l items := ⟨o, (N _ hm).1, hc, hd⟩
  have hlt : l < s.heap.objs.size := Heap.lt_size (N _ hm).1
  refine wpAny_pyIter_list hl ?_
  have up : ∀ b o, s.heap.get? b = some o → (s.heap.push { cls := .type "list_iterator", data := .fields #[.ref l, .int 0 0] }).get? b = some o := fun b o e => Heap.get?_push_of_some _ e
  refine for_U (S := LCg.SrcAt g l items) J (Walks.list hh s.heap.objs.size l (Nat.ne_of_lt hlt) items) (fun i h st => by obtain ⟨o, e, _⟩ := st.1; exact ⟨o, e⟩) LCg.list_st hx hp hLe ?_ (fun i m nw j => .inr ⟨o, hS _ _ _ j, hc, hd⟩) ⟨⟨_, Heap.get?_push_size _ rfl, rfl, rfl⟩, hl.push _⟩
    (F.keeps up) (N.grown up) (next_is_new F) (fun q hq => Nat.ne_of_lt (Heap.lt_size (N q hq).1)) j0 (fun i m' nw v oI h tk a b c d e f => turn _ _ i m' nw v oI h tk ⟨_, rfl⟩ a b c d e f) (fun m' nw h tk a b c => fin m' nw h tk a b c)
  intro hq
  simp only [List.mem_cons, List.not_mem_nil, or_false] at hq
  rcases hq with hq | hq
  · exact Nat.ne_of_lt F.ns.lt hq
  · exact (N _ hm).2.1 hq.symm

/-- a for over a range -/
theorem for_range {R : Result → Shared → Prop} {E : Value → Shared → Prop} {x : Str} {px : Pos} {body : List Stmt} {s : Shared} {r : Addr} {a b : Int} {t u v : Tok} {n : Nat} {m : Str → Option Value} {news : List (Addr × Obj)}
    (J : Nat → (Str → Option Value) → List (Addr × Obj) → Prop) (hh : A.handled = none)
    (hx : env.kindOf x = some .local) (hp : (env.scope.kind == .class || (env.scope.kind == .module && env.locals != env.globals)) = false) (hLe : env.locals = L)
    (hr : IsRange s.heap r a b 1 t u v) (hsm : Builtin.Range.small a b 1 = true) (hn : Builtin.Range.rangeSize a b 1 = ((n : Nat) : Int)) (F : Fr g L s.heap m) (N : News g L s.heap news) (j0 : J 0 m news)
    (turn : ∀ I s₂ i m' nw v oI h tk, (∃ h, s₂ = { s with heap := h }) → i < n → J i m' nw → (∃ t, v = .int (a + (i : Int)) t) → Fr g L h (fun z => if z = x then some v else m' z) → News g L h ((I, oI) :: nw) → (∀ q ∈ nw, q.1 ≠ I) →
      wpAny (model PR w) A (execs body env) (fun f s₃ => match f with
        | .next | .cont => ∃ h' tk' m'' nw', s₃ = { s₂ with heap := h', toks := tk' } ∧ Fr g L h' m'' ∧ News g L h' ((I, oI) :: nw') ∧ (∀ q ∈ nw', q.1 ≠ I) ∧ J (i + 1) m'' nw'
        | .brk => False
        | .ret v => R (.ok (.ret v)) s₃) (fun _ _ => False) { s₂ with heap := h, toks := tk })
    (fin : ∀ m' nw h tk, J n m' nw → Fr g L h m' → News g L h nw → R (.ok .next) { s with heap := h, toks := tk }) :
    wpAny (model PR w) A (pyIter (.ref r)) (fun it s₂ => codeAny (model PR w) A (.forLoop (.Name x px) it body [] env) R s₂) E s := by
  refine wpAny_pyIter_range hr hsm ?_
  refine for_U (S := fun _ => True) J (LCg.range_walks hh a n) (fun i h st => ⟨_, st⟩) LCg.range_st hx hp hLe ?_ (fun _ _ _ _ => trivial) (by show IsRangeIter _ _ _ _ _; rw [hn]; simpa using Heap.get?_push_size _ rfl)
    (F.keeps fun _ _ e => Heap.get?_push_of_some _ e) (N.grown fun _ _ e => Heap.get?_push_of_some _ e) (next_is_new F) (fun q hq => Nat.ne_of_lt (Heap.lt_size (N q hq).1)) j0 (fun i m' nw v oI h tk a b c d e f => turn _ _ i m' nw v oI h tk ⟨_, rfl⟩ a b c d e f) (fun m' nw h tk a b c => fin m' nw h tk a b c)
  intro hq
  rw [List.mem_singleton] at hq
  exact Nat.ne_of_lt F.ns.lt hq
end

section
variable {w : World} {A : Around} {s : Shared} {p : Program} {loose : List Str} {mean : ExcName → Option Value} {mg mb : Str → Option Value} {h₀ : Heap} {L : Addr} {m : Str → Option Value} {a : LexA}
variable {Q : Value → Shared → Prop} {E : Value → Shared → Prop}
/-- get_token, nothing pushed back -/
theorem use_gt (pre : List (Addr × Obj)) (σ : LexS) (O : LexOk w p loose mean mg mb a) (F : Fr h₀ L s.heap m) (X : (hd.heap_39 w.params).In h₀) (N : News h₀ L s.heap (pre ++ lexLed w.params a σ)) (T : Top p loose mean mg mb h₀)
    (hh : A.handled = none) (hr : A.depth + 10 < recursionLimit) (hu : A.units + 100 < cLine) (hp : σ.p ≤ a.T.length) (hws : σ.ws = []) (hln : LineOk a σ) (ne : ∀ q ∈ pre, q.1 ∉ lexAddrs a)
    (h : ∀ h' tk tw σ', Fr h₀ L h' m → News h₀ L h' (pre ++ lexLed w.params a σ') → σ'.p ≤ a.T.length → LineOk a σ' → σ'.ws = [] → a.cs.drop σ'.p = (word (a.cs.drop σ.p)).2 → Q (.str (mkS (word (a.cs.drop σ.p)).1) tw) { s with heap := h', toks := tk }) :
    wpAny (model PR w) A (call (.ref 42) [.ref a.x]) Q E s := by
  refine wpAny_call (get_token_code hh hr hu O hp hws hln (lex_base F X N T) (lex_has N) fun h' tk tw σ' st H a1 a2 a3 a4 => ?_)
  obtain ⟨F', N'⟩ := lex_behind F N ne st H
  exact h h' tk tw σ' F' N' a1 a2 a3 a4
/-- push_token -/
theorem use_push (pre : List (Addr × Obj)) (σ : LexS) {v : Str} {tv : Tok} (O : LexOk w p loose mean mg mb a) (F : Fr h₀ L s.heap m) (X : (hd.heap_39 w.params).In h₀) (N : News h₀ L s.heap (pre ++ lexLed w.params a σ)) (T : Top p loose mean mg mb h₀)
    (hh : A.handled = none) (hr : A.depth + 10 < recursionLimit) (hu : A.units + 100 < cLine) (hl : σ.ws.length ≤ 1000) (ne : ∀ q ∈ pre, q.1 ∉ lexAddrs a)
    (h : ∀ h' tk wn, Fr h₀ L h' m → News h₀ L h' (pre ++ lexLed w.params a { σ with ws := σ.ws ++ [.str v tv], wn := wn }) → Q .none { s with heap := h', toks := tk }) :
    wpAny (model PR w) A (call (.ref 49) [.ref a.x, .str v tv]) Q E s := by
  refine wpAny_call (push_code hh hr hu O.ord hl (lex_base F X N T) (lex_has N) fun h' tk wn st H => ?_)
  obtain ⟨F', N'⟩ := lex_behind F N ne st H
  exact h h' tk wn F' N'
/-- get_token, a word pushed back -/
theorem use_pop (pre : List (Addr × Obj)) (σ : LexS) {v : Value} {ws : List Value} (O : LexOk w p loose mean mg mb a) (F : Fr h₀ L s.heap m) (X : (hd.heap_39 w.params).In h₀) (N : News h₀ L s.heap (pre ++ lexLed w.params a σ)) (T : Top p loose mean mg mb h₀)
    (hh : A.handled = none) (hr : A.depth + 10 < recursionLimit) (hu : A.units + 100 < cLine) (hl : σ.ws.length ≤ 1000) (hws : σ.ws = v :: ws) (ne : ∀ q ∈ pre, q.1 ∉ lexAddrs a)
    (h : ∀ h' tk wn, Fr h₀ L h' m → News h₀ L h' (pre ++ lexLed w.params a { σ with ws := ws, wn := wn }) → Q v { s with heap := h', toks := tk }) :
    wpAny (model PR w) A (call (.ref 42) [.ref a.x]) Q E s := by
  refine wpAny_call (pop_code hh hr hu O.ord hl hws (lex_base F X N T) (lex_has N) fun h' tk wn st H => ?_)
  obtain ⟨F', N'⟩ := lex_behind F N ne st H
  exact h h' tk wn F' N'
/-- _law_word -/
theorem use_word {news : List (Addr × Obj)} {T : Str} {tT tk0 : Tok} {k : Nat} (F : Fr h₀ L s.heap m) (X : (hd.heap_39 w.params).In h₀) (N : News h₀ L s.heap news) (Tp : Top p loose mean mg mb h₀)
    (hh : A.handled = none) (hr : A.depth + 10 < recursionLimit) (hu : A.units + 100 < cLine) (hTl : T.length ≤ 1048576) (hk : k ≤ T.length)
    (h : ∀ h' tk q tw tp k', Fr h₀ L h' m → News h₀ L h' ((q, { cls := .type "tuple", data := .seq #[.str (mkS (word (T.cps.toList.drop k)).1) tw, .int (k' : Nat) tp] }) :: news) → k' ≤ T.length → T.cps.toList.drop k' = (word (T.cps.toList.drop k)).2 →
      Q (.ref q) { s with heap := h', toks := tk }) :
    wpAny (model PR w) A (call (.ref 70) [.str T tT, .int (k : Nat) tk0]) Q E s := by
  refine wpAny_call (word_code hh hr hu hTl hk (Base.of F N X Tp (fun _ hd => nomatch hd)) (fun _ hq => nomatch hq) fun h' tk q tw tp k' st hq0 hq1 a1 a2 => ?_)
  have up : ∀ b o, s.heap.get? b = some o → h'.get? b = some o := fun b o e => st b o (fun hm => nomatch hm) e
  refine h h' tk q tw tp k' (F.keeps up) (fun z hz => ?_) a1 a2
  rcases List.mem_cons.mp hz with rfl | hz
  · exact ⟨hq1, lex_fresh F hq0⟩
  · exact ⟨up _ _ (N z hz).1, (N z hz).2⟩
end
end Mine

namespace Mine
theorem fillC4 : (PySem.Challenge.rw_wv0071_01.foot = 3) ∧ (∀ P, hd.heap_39 P = hd.heap_39 P) := by k_fill; exact ⟨rfl, fun _ => rfl⟩
local macro_rules | `(tactic| walk_at "eval Name") => `(tactic| (k_here; (with_reducible show wpAny _ _ (eval (Expr.Name _ _) (envOfC _ _ _ _ _)) _ _ _); k_dflt (refine' nameX_L ?F ?v ?_ ?a ?b; (case F => k_asm); (case a => rfl); (case b => rfl); (case v => assumption); k_whole)))
local macro_rules | `(tactic| walk_at "go") => `(tactic| repeat' (first | ((fail_if_success (with_reducible show Exists _)); (fail_if_success (with_reducible show wpAny _ _ (call (Value.ref 63) _) _ _ _)); (fail_if_success (with_reducible show wpAny _ _ (call (Value.ref 70) _) _ _ _)); (fail_if_success (with_reducible show wpAny _ _ (call (Value.ref 42) _) _ _ _)); (fail_if_success (with_reducible show wpAny _ _ (exec (PySem.Stmt.While _ _ _ _) _) _ _ _)); first | (k_unfold; (try dsimp only)) | (k_end; wrow_close) | walk1 | (dsimp only; walk1) | (leave1; walk_say "STEP leave1"; try dsimp only)) | fail "no step"))

section
variable {w : World} {s : Shared} {p : Program} {loose : List Str} {mean : ExcName → Option Value} {mg mb : Str → Option Value} {n75 q75 : Str} {p75 : Arguments} {s1 s2 s3 s4 s5 s6 s7 s8 s9 s10 s11 s12 s13 s14 s15 : Stmt} {sc75 : Scope} {oc dV kV doc pm cdv ct : Value} {od an : Option Addr} {osl : Array (Option Value)}
    {g : Heap} {L fa : Addr} {cd : Value} {m : Str → Option Value} {news : List (Addr × Obj)} {Q : Flow → Shared → Prop}
set_option maxHeartbeats 1000000 in
theorem seg3
    (hK : (hd.heap_39 w.params).lookup 75 = some ⟨oc, od, .func (fnOf n75 q75 p75 [s1, s2, s3, s4, s5, s6, s7, s8, s9, s10, s11, s12, s13, s14, s15] sc75 dV kV doc pm an cdv ct), osl⟩)
    (F : Fr g L s.heap m) (N : News g L s.heap news)
    (h : ∀ h' tk t, Fr g L h' (fun y => if y = "place" then some (.int 0 t) else m y) → News g L h' news → Q .next { s with heap := h', toks := tk }) :
    wpAny (model PR w) (callerA.deeper (envOfC q75 sc75 L fa cd)) (exec s3 (envOfC q75 sc75 L fa cd)) Q (fun _ _ => False) s := by
  refine' use_lookup hK ?e ?_
  case e => k_is
  intro e
  cases e
  clear hK
  (try dsimp only)
  (try k_fold)
  walk_at "go"
  rename News _ _ _ _ => N2
  rename Fr _ _ _ _ => F2
  exact h _ _ _ F2 N2
set_option maxHeartbeats 1000000 in
theorem seg4
    (hK : (hd.heap_39 w.params).lookup 75 = some ⟨oc, od, .func (fnOf n75 q75 p75 [s1, s2, s3, s4, s5, s6, s7, s8, s9, s10, s11, s12, s13, s14, s15] sc75 dV kV doc pm an cdv ct), osl⟩)
    (F : Fr g L s.heap m) (N : News g L s.heap news)
    (h : ∀ h' tk wl, Fr g L h' (fun y => if y = "words" then some (.ref wl) else m y) → News g L h' ((wl, W.listOf #[] 0) :: news) → (∀ q ∈ news, q.1 < wl) → Q .next { s with heap := h', toks := tk }) :
    wpAny (model PR w) (callerA.deeper (envOfC q75 sc75 L fa cd)) (exec s4 (envOfC q75 sc75 L fa cd)) Q (fun _ _ => False) s := by
  refine' use_lookup hK ?e ?_
  case e => k_is
  intro e
  cases e
  clear hK
  (try dsimp only)
  (try k_fold)
  walk_at "go"
  rename News _ _ _ _ => N2
  rename Fr _ _ _ _ => F2
  exact h _ _ _ F2 N2 fun q hq => Heap.lt_size (N q hq).1
end

abbrev m5 (B : Str → Option Value) (pl : Value) (wd : Option Value) : Str → Option Value := fun y => if y = "place" then some pl else if y = "word" then wd else B y
theorem fr_m5 {g h : Heap} {L : Addr} {B m : Str → Option Value} {pl : Value} (F : Fr g L h m) (h1 : m "place" = some pl) (h2 : ∀ y : Str, y ≠ "place" → y ≠ "word" → m y = B y) : Fr g L h (m5 B pl (m "word")) := by
  have e : m = m5 B pl (m "word") := by
    funext y
    show m y = if y = "place" then some pl else if y = "word" then m "word" else B y
    by_cases n1 : y = "place"
    · subst n1; rw [h1, if_pos rfl]
    · by_cases n2 : y = "word"
      · subst n2; rw [if_neg n1, if_pos rfl]
      · rw [if_neg n1, if_neg n2, h2 y n1 n2]
  rw [← e]; exact F

set_option maxHeartbeats 8000000 in
theorem seg5 {w : World} {s : Shared} {p : Program} {loose : List Str} {mean : ExcName → Option Value} {mg mb : Str → Option Value} {n75 q75 : Str} {p75 : Arguments} {s1 s2 s3 s4 s5 s6 s7 s8 s9 s10 s11 s12 s13 s14 s15 : Stmt} {sc75 : Scope} {oc dV kV doc pm cdv ct : Value} {od an : Option Addr} {osl : Array (Option Value)}
    {g : Heap} {L fa : Addr} {cd : Value} {B : Str → Option Value} {u : Option Value} {oX oL : Obj} {t0 tp tn tT : Tok} {a : LexA} {cl wl : Addr} {Q : Flow → Shared → Prop}
    (hK : (hd.heap_39 w.params).lookup 75 = some ⟨oc, od, .func (fnOf n75 q75 p75 [s1, s2, s3, s4, s5, s6, s7, s8, s9, s10, s11, s12, s13, s14, s15] sc75 dV kV doc pm an cdv ct), osl⟩)
    (codeHd : CodeHd g 62 58) (X : (hd.heap_39 w.params).In g) (Tp : Top p loose mean mg mb g) (O : LexOk w p loose mean mg mb a) (hAt : LawAt L a cl) (hwl : ltA a.pb wl) (hX : oX.data = .cell (some (.ref a.x)))
    (hB1 : B "text" = some (.str a.T tT)) (hB2 : B "words" = some (.ref wl)) (hT : a.T.length ≤ 63)
    (F : Fr g L s.heap (m5 B (.int 0 t0) u)) (N : News g L s.heap ((wl, W.listOf #[] 0) :: (lawPre L oX a cl oL ++ lexLed w.params a ⟨0, tp, 1, tn, [], 0⟩)))
    (h : ∀ h' tk t wd σ vals ws nn, Fr g L h' (m5 B t wd) → News g L h' ((wl, W.listOf vals nn) :: (lawPre L oX a cl oL ++ lexLed w.params a σ)) → σ.p ≤ a.T.length → LineOk a σ → σ.ws = [] → a.cs.drop σ.p = [] → StrsAre vals.toList ws → ws.length ≤ 63 →
      Q .next { s with heap := h', toks := tk }) :
    wpAny (model PR w) (callerA.deeper (envOfC q75 sc75 L fa cd)) (exec s5 (envOfC q75 sc75 L fa cd)) Q (fun _ _ => False) s := by
  have hO := O.ord
  unfold LexOrd ltA at hO
  obtain ⟨o1, o2, o3, o4, o5, o6⟩ := hAt
  have hwl2 := hwl
  unfold ltA at o1 o2 o3 o4 o5 o6 hwl2
  refine' use_lookup hK ?e ?_
  case e => k_is
  intro e
  cases e
  clear hK
  (try dsimp only)
  (try k_fold)
  have ne : ∀ q ∈ (wl, ()) :: (L + 1, ()) :: (58, ()) :: (cl, ()) :: [], q.1 ∉ lexAddrs a := by
    intro q hq hm
    simp only [List.mem_cons, List.not_mem_nil, or_false] at hq hm
    rcases hq with rfl | rfl | rfl | rfl <;> rcases hm with hm | hm | hm | hm | hm | hm | hm | hm | hm | hm <;> ((replace hm : @Eq Nat _ _ := hm); omega)
  refine while_it (fun n s' => ∃ h' tk σ k t wd vals ws nn, s' = { s with heap := h', toks := tk } ∧ Fr g L h' (m5 B (.int (k : Nat) t) wd) ∧ News g L h' ((wl, W.listOf vals nn) :: (lawPre L oX a cl oL ++ lexLed w.params a σ)) ∧ k ≤ a.T.length ∧ σ.p ≤ a.T.length ∧ LineOk a σ ∧ σ.ws = [] ∧ a.cs.drop σ.p = a.cs.drop k ∧ StrsAre vals.toList ws ∧ ws.length ≤ k ∧ n = a.T.length - k) (a.T.length - 0)
    ⟨_, _, ⟨0, tp, 1, tn, [], 0⟩, 0, _, _, #[], [], 0, rfl, F, N, Nat.zero_le _, Nat.zero_le _, by simp [LineOk], rfl, rfl, .nil, Nat.le_refl _, rfl⟩ ?_
  clear F N
  rintro n sA ⟨h1, tk1, σ, k, t1, wd1, vals, ws, nn, rfl, F, N, hk, hp, hln, hws, hdr, hsa, hwk, hn⟩
  dsimp only [lawPre, lexLed, List.cons_append, List.nil_append] at N
  walk_at "go"
  · refine use_word F X N Tp rfl (caller_depth (by decide)) (caller_units (by decide)) (by omega) hk ?_
    clear F N
    intro h2 tk2 q tw2 tp2 k2 F N hk2 hdr2
    walk_at "go"
    rename Fr _ _ _ _ => F2
    rename News _ _ _ _ => N2
    refine use_gt [(wl, W.listOf vals nn), (L + 1, oX), (58, tabObj (tab2 a.cr cl)), (cl, oL)] σ O F2 X (fun q hq => N2 q (.tail _ hq)) Tp rfl (caller_depth (by decide)) (caller_units (by decide)) hp hws hln (fun q hq => ?_) ?_
    · simp only [List.mem_cons, List.not_mem_nil, or_false] at hq
      rcases hq with rfl | rfl | rfl | rfl
      · exact ne (wl, ()) (by simp)
      · exact ne (L + 1, ()) (by simp)
      · exact ne (58, ()) (by simp)
      · exact ne (cl, ()) (by simp)
    · clear N2
      intro h3 tk3 tw3 σ3 F3 N3 hp3 hln3 hws3 hdr3
      rw [hdr] at hdr3 ⊢
      clear ne
      have hpk : σ3.p = k2 := by
        have e := congrArg List.length (hdr3.trans hdr2.symm)
        have e2 := cs_len a
        rw [List.length_drop, List.length_drop] at e
        have e3 : a.T.cps.toList.length = a.cs.length := rfl
        omega
      have hline : σ3.n = 1 + Txt.count (Txt.slice a.T none (some (k2 : Int))) "\n" := by
        rw [slice_take hk2, count_mk, cps_mk, ← hpk]; exact hln3
      dsimp only [lexLed, List.cons_append, List.nil_append] at N3
      walk_at "go"
      · rename (_ != _) = true => hx
        exact absurd hx (by simp)
      · rename σ3.n ≠ _ => hx
        exact absurd hline hx
      · rename News _ _ _ _ => N4
        rename Fr _ _ _ _ => F4
        rename (k : Int) < _ => hlt
        have hkk : k < k2 := by
          have e1 := word_len (a.T.cps.toList.drop k) (fun q => by
            have e2 := cs_len a
            have e3 : a.T.cps.toList.length = a.cs.length := rfl
            have := List.drop_eq_nil_iff.mp q
            omega)
          rw [← hdr2, List.length_drop, List.length_drop] at e1
          omega
        exact ⟨a.T.length - k2, by omega, _, _, σ3, k2, _, _, _, ws ++ [_], _, rfl, fr_m5 F4 rfl (fun y n1 n2 => by simp only [m5, if_neg n1, if_neg n2]), N4, hk2, hp3, hln3, hws3, hdr3.trans hdr2.symm, by rw [Array.toList_push]; exact strs_snoc hsa, by rw [List.length_append, List.length_cons, List.length_nil]; omega, rfl⟩
  · rename ¬ (k : Int) < _ => hlt
    refine h _ _ _ _ σ vals ws nn F N hp hln hws ?_ hsa (by omega)
    rw [hdr]
    refine List.drop_eq_nil_of_le ?_
    rw [cs_len]; omega
end Mine

namespace Mine
theorem fillC5 : (PySem.Challenge.rw_wv0071_01.foot = 3) ∧ (∀ P, hd.heap_39 P = hd.heap_39 P) := by k_fill; exact ⟨rfl, fun _ => rfl⟩
local macro_rules | `(tactic| walk_at "eval ListComp") => `(tactic| (k_here; k_dflt (refine LCg.ListComp_U (F₀ := by k_asm) (by with_unfolding_all rfl) (by decide) (by rfl) (by decide) (by rfl) ?_)))
local macro_rules | `(tactic| walk_at "eval Name") => `(tactic| (k_here; (with_reducible show wpAny _ _ (eval (Expr.Name _ _) (envOfC _ _ _ _ _)) _ _ _); k_dflt (refine' nameX_L ?F ?v ?_ ?a ?b; (case F => k_asm); (case a => rfl); (case b => rfl); (case v => assumption); k_whole)))
local macro_rules | `(tactic| walk_at "go") => `(tactic| repeat' (first | ((fail_if_success (with_reducible show Exists _)); (fail_if_success (with_reducible show LCg.CompSrc _ _ _ _ _ _ _ _ _ _ _ _ _ _)); (fail_if_success (with_reducible show wpAny _ _ (call (Value.ref 63) _) _ _ _)); (fail_if_success (with_reducible show wpAny _ _ (call (Value.ref 49) _) _ _ _)); (fail_if_success (with_reducible show wpAny _ _ (call (Value.ref 42) _) _ _ _)); (fail_if_success (with_reducible show wpAny _ _ (compareOp PySem.CmpOp.NotEq (Value.ref _) (Value.ref _)) _ _ _)); (fail_if_success (with_reducible show wpAny _ _ (pyIter _) _ _ _)); first | (k_unfold; (try dsimp only)) | (k_end; wrow_close) | walk1 | (dsimp only; walk1) | (leave1; walk_say "STEP leave1"; try dsimp only)) | fail "no step"))

theorem strs_get : ∀ {vs : List Value} {ns : List Str}, StrsAre vs ns → ∀ (j : Nat) (h1 : j < vs.length) (h2 : j < ns.length), ∃ t, vs[j] = .str ns[j] t
  | _, _, .nil, _, h1, _ => absurd h1 (Nat.not_lt_zero _)
  | _, _, .cons y t r, 0, _, _ => ⟨t, rfl⟩
  | _, _, .cons y t r, j + 1, h1, h2 => strs_get r j (Nat.lt_of_succ_lt_succ h1) (Nat.lt_of_succ_lt_succ h2)
theorem ne_strs {prog : Program} {w : World} {A : Around} {E : Value → Shared → Prop} {s : Shared} {a b : Addr} {xs ys : Array Value} {ns : List Str} {Q : Value → Shared → Prop}
    (ha : s.heap.IsList a xs) (hb : s.heap.IsList b ys) (hi : StrsAre xs.toList ns) (hj : StrsAre ys.toList ns) (hu : A.units < cLine) (h : Q (.bool false) s) :
    wpAny (model prog w) A (compareOp .NotEq (.ref a) (.ref b)) Q E s := by
  have l1 : xs.size = ns.length := by rw [← Array.length_toList]; exact hi.length
  have l2 : ys.size = ns.length := by rw [← Array.length_toList]; exact hj.length
  refine cmp_ofNotEq (SeqAt.RcNeAt.lists (e := fun _ => true) ha hb (l1.trans l2.symm) hu (fun j h1 h2 => ?_) prog w E Q ?_)
  · obtain ⟨t, e1⟩ := strs_get hi j (by rw [Array.length_toList]; exact h1) (l1 ▸ h1)
    obtain ⟨u, e2⟩ := strs_get hj j (by rw [Array.length_toList]; exact h2) (l1 ▸ h1)
    rw [Array.getElem_toList] at e1 e2
    rw [e1, e2]
    have k := SeqAt.EqAt.str_str (A := A.in1) (s := s) (ns[j]'(l1 ▸ h1)) t (ns[j]'(l1 ▸ h1)) u
    rw [beq_self_eq_true] at k
    exact k
  · rw [show (List.range xs.size).all (fun _ => true) = true by simp]
    exact h

section
variable {w : World} {s : Shared} {p : Program} {loose : List Str} {mean : ExcName → Option Value} {mg mb : Str → Option Value} {n75 q75 : Str} {p75 : Arguments} {s1 s2 s3 s4 s5 s6 s7 s8 s9 s10 s11 s12 s13 s14 s15 : Stmt} {sc75 : Scope} {oc dV kV doc pm cdv ct : Value} {od an : Option Addr} {osl : Array (Option Value)}
    {g : Heap} {L fa : Addr} {cd : Value} {m : Str → Option Value} {oX oL : Obj} {tT : Tok} {a : LexA} {cl wl : Addr} {σ : LexS} {vals : Array Value} {nn : Nat} {ws : List Str} {Q : Flow → Shared → Prop}
theorem pre_ne {a : LexA} {cl wl L : Addr} (O : LexOrd a) (hAt : LawAt L a cl) (hwl : ltA a.pb wl) : ∀ d ∈ [wl, L + 1, 58, cl], d ∉ lexAddrs a := by
  intro d hq hm
  obtain ⟨o1, o2, o3, o4, o5, o6⟩ := hAt
  unfold LexOrd at O
  unfold ltA at O hwl o1 o2 o3 o4 o5 o6
  simp only [List.mem_cons, List.not_mem_nil, or_false] at hq hm
  rcases hq with rfl | rfl | rfl | rfl <;> rcases hm with hm | hm | hm | hm | hm | hm | hm | hm | hm | hm <;> ((replace hm : @Eq Nat _ _ := hm); omega)
abbrev pre4 (wl : Addr) (vals : Array Value) (nn : Nat) (L : Addr) (oX : Obj) (a : LexA) (cl : Addr) (oL : Obj) : List (Addr × Obj) := [(wl, W.listOf vals nn), (L + 1, oX), (58, tabObj (tab2 a.cr cl)), (cl, oL)]
theorem pre4_ne {vals : Array Value} {nn : Nat} {oX oL : Obj} {a : LexA} {cl wl L : Addr} (h : ∀ d ∈ [wl, L + 1, 58, cl], d ∉ lexAddrs a) : ∀ q ∈ pre4 wl vals nn L oX a cl oL, q.1 ∉ lexAddrs a := by
  intro q hq
  simp only [List.mem_cons, List.not_mem_nil, or_false] at hq
  rcases hq with rfl | rfl | rfl | rfl
  · exact h wl (by simp)
  · exact h (L + 1) (by simp)
  · exact h 58 (by simp)
  · exact h cl (by simp)

theorem off_led {I : Addr} {vals vals' : Array Value} {nn nn' : Nat} {oX oL : Obj} {a : LexA} {cl wl L : Addr} {σ σ' : LexS} {P P' : Params} (off : ∀ q ∈ pre4 wl vals nn L oX a cl oL ++ lexLed P a σ, q.1 ≠ I) : ∀ q ∈ pre4 wl vals' nn' L oX a cl oL ++ lexLed P' a σ', q.1 ≠ I := by
  intro q hq e
  have h1 : q.1 ∈ (pre4 wl vals' nn' L oX a cl oL ++ lexLed P' a σ').map (·.1) := List.mem_map_of_mem hq
  obtain ⟨x, hx, e2⟩ := List.mem_map.mp (show q.1 ∈ (pre4 wl vals nn L oX a cl oL ++ lexLed P a σ).map (·.1) from h1)
  exact off x hx (e2.trans e)

theorem off3_led {I C D : Addr} {vals vals' : Array Value} {nn nn' : Nat} {oX oL : Obj} {a : LexA} {cl wl L : Addr} {σ σ' : LexS} {P P' : Params} (off : LCg.Off3 I C D (pre4 wl vals nn L oX a cl oL ++ lexLed P a σ)) : LCg.Off3 I C D (pre4 wl vals' nn' L oX a cl oL ++ lexLed P' a σ') := by
  refine LCg.Off3.of fun q hq => ?_
  have h1 : q.1 ∈ (pre4 wl vals' nn' L oX a cl oL ++ lexLed P' a σ').map (·.1) := List.mem_map_of_mem hq
  obtain ⟨x, hx, e2⟩ := List.mem_map.mp (show q.1 ∈ (pre4 wl vals nn L oX a cl oL ++ lexLed P a σ).map (·.1) from h1)
  have k := off.mem x hx
  rw [show x.1 = q.1 from e2] at k
  exact k
theorem off3_ne {I C D : Addr} {pre : List (Addr × Obj)} {a : LexA} {σ : LexS} {P : Params} {oI oC oD : Obj} (off : LCg.Off3 I C D (pre ++ lexLed P a σ)) (ne : ∀ q ∈ pre, q.1 ∉ lexAddrs a) : ∀ q ∈ (I, oI) :: (C, oC) :: (D, oD) :: pre, q.1 ∉ lexAddrs a := by
  intro q hq hm
  rcases List.mem_cons.mp hq with rfl | hq
  · obtain ⟨x, hx, e⟩ := List.mem_map.mp (show I ∈ (lexLed P a σ).map (·.1) from hm)
    exact (off.mem x (List.mem_append_right _ hx)).1 e
  · rcases List.mem_cons.mp hq with rfl | hq
    · obtain ⟨x, hx, e⟩ := List.mem_map.mp (show C ∈ (lexLed P a σ).map (·.1) from hm)
      exact (off.mem x (List.mem_append_right _ hx)).2.1 e
    · rcases List.mem_cons.mp hq with rfl | hq
      · obtain ⟨x, hx, e⟩ := List.mem_map.mp (show D ∈ (lexLed P a σ).map (·.1) from hm)
        exact (off.mem x (List.mem_append_right _ hx)).2.2 e
      · exact ne q hq hm

set_option maxHeartbeats 4000000 in
theorem seg6
    (hK : (hd.heap_39 w.params).lookup 75 = some ⟨oc, od, .func (fnOf n75 q75 p75 [s1, s2, s3, s4, s5, s6, s7, s8, s9, s10, s11, s12, s13, s14, s15] sc75 dV kV doc pm an cdv ct), osl⟩)
    (codeHd : CodeHd g 62 58) (X : (hd.heap_39 w.params).In g) (Tp : Top p loose mean mg mb g) (O : LexOk w p loose mean mg mb a) (hAt : LawAt L a cl) (hwl : ltA a.pb wl) (hX : oX.data = .cell (some (.ref a.x)))
    (F : Fr g L s.heap m) (N : News g L s.heap (pre4 wl vals nn L oX a cl oL ++ lexLed w.params a σ)) (hp : σ.p ≤ a.T.length) (hln : LineOk a σ) (hws : σ.ws = []) (hdr : a.cs.drop σ.p = [])
    (h : ∀ h' tk σ, Fr g L h' m → News g L h' (pre4 wl vals nn L oX a cl oL ++ lexLed w.params a σ) → σ.p ≤ a.T.length → LineOk a σ → σ.ws = [] → a.cs.drop σ.p = [] → Q .next { s with heap := h', toks := tk }) :
    wpAny (model PR w) (callerA.deeper (envOfC q75 sc75 L fa cd)) (exec s6 (envOfC q75 sc75 L fa cd)) Q (fun _ _ => False) s := by
  have ne := pre_ne O.ord hAt hwl
  refine' use_lookup hK ?e ?_
  case e => k_is
  intro e
  cases e
  clear hK
  (try dsimp only)
  (try k_fold)
  dsimp only [pre4, lexLed, List.cons_append, List.nil_append] at N
  walk_at "go"
  refine use_gt (pre4 wl vals nn L oX a cl oL) σ O F X N Tp rfl (caller_depth (by decide)) (caller_units (by decide)) hp hws hln (pre4_ne ne) ?_
  clear F N
  intro h2 tk2 tw2 σ2 F N hp2 hln2 hws2 hdr2
  rw [hdr] at hdr2 ⊢
  rw [show word [] = ([], []) from rfl] at hdr2 ⊢
  dsimp only [pre4, lexLed, List.cons_append, List.nil_append] at N hdr2 ⊢
  walk_at "go"
  · refine use_gt (pre4 wl vals nn L oX a cl oL) σ2 O (by assumption) X N Tp rfl (caller_depth (by decide)) (caller_units (by decide)) hp2 hws2 hln2 (pre4_ne ne) ?_
    clear F N
    intro h3 tk3 tw3 σ3 F3 N3 hp3 hln3 hws3 hdr3
    rw [hdr2] at hdr3 ⊢
    rw [show word [] = ([], []) from rfl] at hdr3 ⊢
    dsimp only [pre4, lexLed, List.cons_append, List.nil_append] at N3 hdr3 ⊢
    walk_at "go"
    · exact h _ _ σ3 F3 N3 hp3 hln3 hws3 hdr3

set_option maxHeartbeats 4000000 in
theorem seg7
    (hK : (hd.heap_39 w.params).lookup 75 = some ⟨oc, od, .func (fnOf n75 q75 p75 [s1, s2, s3, s4, s5, s6, s7, s8, s9, s10, s11, s12, s13, s14, s15] sc75 dV kV doc pm an cdv ct), osl⟩)
    (codeHd : CodeHd g 62 58) (X : (hd.heap_39 w.params).In g) (Tp : Top p loose mean mg mb g) (O : LexOk w p loose mean mg mb a) (hAt : LawAt L a cl) (hwl : ltA a.pb wl) (hX : oX.data = .cell (some (.ref a.x))) (hm : m "words" = some (.ref wl))
    (F : Fr g L s.heap m) (N : News g L s.heap (pre4 wl vals nn L oX a cl oL ++ lexLed w.params a σ)) (hws : σ.ws = []) (hsa : StrsAre vals.toList ws) (hsz : ws.length ≤ 63)
    (h : ∀ h' tk m' wn, Fr g L h' m' → (∀ y : Str, y ≠ "word" → m' y = m y) → News g L h' (pre4 wl vals nn L oX a cl oL ++ lexLed w.params a { σ with ws := vals.toList, wn := wn }) → Q .next { s with heap := h', toks := tk }) :
    wpAny (model PR w) (callerA.deeper (envOfC q75 sc75 L fa cd)) (exec s7 (envOfC q75 sc75 L fa cd)) Q (fun _ _ => False) s := by
  have ne := pre_ne O.ord hAt hwl
  have hvl : vals.toList.length = ws.length := hsa.length
  refine' use_lookup hK ?e ?_
  case e => k_is
  intro e
  cases e
  clear hK
  (try dsimp only)
  (try k_fold)
  refine wpAny_For ?_
  walk_at "go"
  refine for_list (o := W.listOf vals nn) (items := vals) (fun i m' nw => (∀ y : Str, y ≠ "word" → m' y = m y) ∧ ∃ wn, nw = pre4 wl vals nn L oX a cl oL ++ lexLed w.params a { σ with ws := vals.toList.take i, wn := wn }) rfl rfl rfl rfl rfl ⟨_, rfl⟩ ?_ F N ⟨fun _ _ => rfl, σ.wn, by rw [List.take_zero, ← hws]⟩ ?_ ?_
  · rintro i m' nw ⟨-, wn, rfl⟩
    exact .head _
  · rintro I s2 i m1 nw v oI h1 tk1 ⟨hp, rfl⟩ hi ⟨hm1, wn, rfl⟩ hv F1 N1 off
    rw [← Array.getElem?_toList] at hv
    obtain ⟨z, t, rfl, hz⟩ := StrsAre.item hsa i v hv
    dsimp only [pre4, lexLed, List.cons_append, List.nil_append] at N1
    walk_at "go"
    refine use_push ((I, oI) :: pre4 wl vals nn L oX a cl oL) { σ with ws := vals.toList.take i, wn := wn } O F1 X N1 Tp rfl (caller_depth (by decide)) (caller_units (by decide)) (by rw [List.length_take]; omega) (fun q hq => ?_) ?_
    · rcases List.mem_cons.mp hq with rfl | hq
      · intro hm2
        obtain ⟨x, hx, e⟩ := List.mem_map.mp (show I ∈ (lexLed w.params a { σ with ws := vals.toList.take i, wn := wn }).map (·.1) from hm2)
        exact off x (List.mem_append_right _ hx) e
      · exact pre4_ne ne q hq
    · intro h2 tk2 wn2 F2 N2
      dsimp only
      rw [show vals.toList.take i ++ [Value.str z t] = vals.toList.take (i + 1) by rw [List.take_add_one, hv]; rfl] at N2
      walk_at "go"
      exact ⟨_, _, _, _, rfl, F2, N2, off_led off, fun y hy => by rw [if_neg hy]; exact hm1 y hy, wn2, rfl⟩
  · rintro m' nw h1 tk1 ⟨hm1, wn, rfl⟩ F1 N1
    rw [← Array.length_toList, List.take_length] at N1
    exact h _ _ _ wn F1 hm1 N1

set_option maxHeartbeats 4000000 in
theorem seg8
    (hK : (hd.heap_39 w.params).lookup 75 = some ⟨oc, od, .func (fnOf n75 q75 p75 [s1, s2, s3, s4, s5, s6, s7, s8, s9, s10, s11, s12, s13, s14, s15] sc75 dV kV doc pm an cdv ct), osl⟩)
    (codeHd : CodeHd g 62 58) (X : (hd.heap_39 w.params).In g) (Tp : Top p loose mean mg mb g) (O : LexOk w p loose mean mg mb a) (hAt : LawAt L a cl) (hwl : ltA a.pb wl) (hX : oX.data = .cell (some (.ref a.x))) (hm : m "words" = some (.ref wl)) (hm2 : m "text" = some (.str a.T tT))
    (F : Fr g L s.heap m) (N : News g L s.heap (pre4 wl vals nn L oX a cl oL ++ lexLed w.params a σ)) (hp : σ.p ≤ a.T.length) (hln : LineOk a σ) (hws : σ.ws = vals.toList) (hdr : a.cs.drop σ.p = []) (hsa : StrsAre vals.toList ws) (hsz : ws.length ≤ 63)
    (h : ∀ h' tk σ, Fr g L h' m → News g L h' (pre4 wl vals nn L oX a cl oL ++ lexLed w.params a σ) → Q .next { s with heap := h', toks := tk }) :
    wpAny (model PR w) (callerA.deeper (envOfC q75 sc75 L fa cd)) (exec s8 (envOfC q75 sc75 L fa cd)) Q (fun _ _ => False) s := by
  have ne := pre_ne O.ord hAt hwl
  have hvl : vals.toList.length = ws.length := hsa.length
  refine' use_lookup hK ?e ?_
  case e => k_is
  intro e
  cases e
  clear hK
  (try dsimp only)
  (try k_fold)
  walk_at "go"
  refine LCg.CompSrc.ledger (its := vals) (k := nn) rfl F N (.head _) (by rw [sizeLine_eq, ← Array.length_toList]; omega) ?_
  intro g1
  refine turns (fun i ys nw => ys = vals.toList.take i ∧ ∃ wn, nw = pre4 wl vals nn L oX a cl oL ++ lexLed w.params a { σ with ws := vals.toList.drop i, wn := wn }) vals.size ⟨rfl, σ.wn, by rw [List.drop_zero, ← hws]⟩ ?_ ?_
  · rintro i ys nw v I oI C oC D m₂ h1 tk1 E' hi ⟨rfl, wn, rfl⟩ hv hC hx F1 N1 off cne
    rw [← Array.getElem?_toList] at hv
    dsimp only [pre4, lexLed, List.cons_append, List.nil_append] at N1
    walk_at "go"
    have hdv : vals.toList.drop i = v :: vals.toList.drop (i + 1) := by
      obtain ⟨hlt, e⟩ := List.getElem?_eq_some_iff.mp hv
      rw [List.drop_eq_getElem_cons hlt, e]
    refine use_pop ((I, oI) :: (C, oC) :: (D, LCg.lst (vals.toList.take i)) :: pre4 wl vals nn L oX a cl oL) { σ with ws := vals.toList.drop i, wn := wn } O F1 X N1 Tp rfl (caller_depth (by decide)) (caller_units (by decide)) (by rw [List.length_drop]; omega) hdv (off3_ne off (pre4_ne ne)) ?_
    intro h2 tk2 wn2 F2 N2
    exact ⟨_, _, pre4 wl vals nn L oX a cl oL ++ lexLed w.params a { σ with ws := vals.toList.drop (i + 1), wn := wn2 }, rfl, F2, N2, off3_led off, .inr ⟨W.listOf vals nn, .head _, rfl, nn, rfl⟩, by rw [List.take_add_one, hv]; rfl, wn2, rfl⟩
  · rintro ys nw ⟨rfl, wn, rfl⟩ D h1 tk1 F1 N1 off
    walk_at "go"
    refine ne_strs (ns := ws) ⟨_, (N1 _ (.head _)).1, rfl, _, rfl⟩ ⟨_, (N1 (wl, W.listOf vals nn) (.tail _ (.head _))).1, rfl, _, rfl⟩ (by rw [← Array.length_toList, List.take_length]; exact hsa) hsa (Nat.lt_of_le_of_lt (Nat.le_add_right _ 0) (caller_units (Nat.zero_le _))) ?_
    rw [← Array.length_toList, List.drop_length] at N1
    have N2 : News g L h1 (pre4 wl vals nn L oX a cl oL ++ lexLed w.params a { σ with ws := [], wn := wn }) := fun q hq => N1 q (.tail _ hq)
    clear N1 N F
    dsimp only [pre4, lexLed, List.cons_append, List.nil_append] at N2
    walk_at "go"
    refine use_gt (pre4 wl vals nn L oX a cl oL) { σ with ws := [], wn := wn } O F1 X N2 Tp rfl (caller_depth (by decide)) (caller_units (by decide)) hp rfl hln (pre4_ne ne) ?_
    clear N2 F1
    intro h3 tk3 tw3 σ3 F3 N3 hp3 hln3 hws3 hdr3
    dsimp only at hdr3 ⊢
    rw [hdr] at hdr3 ⊢
    rw [show word [] = ([], []) from rfl] at hdr3 ⊢
    have hline : σ3.n = 1 + Txt.count a.T "\n" := by
      have e1 : σ3.n = 1 + ((a.cs.take σ3.p).count 10 : Nat) := hln3
      rw [e1, count_mk, List.take_of_length_le (List.drop_eq_nil_iff.mp hdr3)]
    dsimp only [pre4, lexLed, List.cons_append, List.nil_append] at N3 hdr3 ⊢
    walk_at "go"
    · rename σ3.n ≠ _ => hx
      exact absurd hline hx
    · exact h _ _ σ3 (by assumption) (by assumption)
end
end Mine

namespace Mine
theorem fillC6 : (PySem.Challenge.rw_wv0071_01.foot = 3) ∧ (∀ P, hd.heap_39 P = hd.heap_39 P) := by k_fill; exact ⟨rfl, fun _ => rfl⟩
local macro_rules | `(tactic| walk_at "eval Name") => `(tactic| (k_here; (with_reducible show wpAny _ _ (eval (Expr.Name _ _) (envOfC _ _ _ _ _)) _ _ _); k_dflt (refine' nameX_L ?F ?v ?_ ?a ?b; (case F => k_asm); (case a => rfl); (case b => rfl); (case v => assumption); k_whole)))
local macro_rules | `(tactic| walk_at "call builtin:str.replace") => `(tactic| fail "by hand")
local macro_rules | `(tactic| walk_at "go") => `(tactic| repeat' (first | ((fail_if_success (with_reducible show Exists _)); (fail_if_success (with_reducible show wpAny _ _ (eval (PySem.Expr.ListComp _ _ _ _) _) _ _ _)); (fail_if_success (with_reducible show wpAny _ _ (call (Value.builtin "str.split") _) _ _ _)); (fail_if_success (with_reducible show wpAny _ _ (call (Value.builtin "str.replace") _) _ _ _)); (fail_if_success (with_reducible show wpAny _ _ (binaryOp PySem.Operator.Add (Value.str _ _) (Value.str _ _)) _ _ _)); (fail_if_success (with_reducible show wpAny _ _ (pyIter _) _ _ _)); first | (k_unfold; (try dsimp only)) | (k_end; wrow_close) | walk1 | (dsimp only; walk1) | (leave1; walk_say "STEP leave1"; try dsimp only)) | fail "no step"))

theorem add_eq {prog : Program} {w : World} {A : Around} {E : Value → Shared → Prop} {s : Shared} {x y : List Nat} {X Y : Str} {t u : Tok} {Q : Value → Shared → Prop} (hx : X = mkS x) (hy : Y = mkS y) (hsz : x.length + y.length ≤ sizeLine) (h : ∀ t' tk, Q (.str (mkS (x ++ y)) t') { s with toks := tk }) :
    wpAny (model prog w) A (binaryOp .Add (.str X t) (.str Y u)) Q E s := by
  subst hx hy; exact add_mk hsz h
section
open Builtin Builtin.Str
/-- the room that a replacement takes -/
theorem replace_room (x y z : Str) (hb : x.length + (x.length + 1) * z.length ≤ 16777216) : tooLong (x.length + (occurrences x y 0 x.length (x.length + 1)).length * z.length) = false := by
  have few := Nat.mul_le_mul_right z.length (StrLaws.occ_length_le x y 0 x.length (x.length + 1))
  have e : (2 : Nat) ^ 24 = 16777216 := by decide
  rw [tooLong, sizeLine, decide_eq_false_iff_not]
  omega
/-- str.replace; the count of texts does not fall -/
theorem replaceT {prog : Program} {w : World} {A : Around} {E : Value → Shared → Prop} {s : Shared} {x y z : Str} {t u v : Tok} {Q : Value → Shared → Prop} (hu : u ≠ 0) (hv : v ≠ 0) (huv : u ≠ v) (hyz : (y == z) = false) (hb : x.length + (x.length + 1) * z.length ≤ 16777216)
    (hq : ∀ t' k, s.toks ≤ k → Q (.str (Txt.replace x y z) t') { s with toks := k }) : wpAny (model prog w) A (call (.builtin "str.replace") [.str x t, .str y u, .str z v]) Q E s := by
  have marks : (u == 0 || v == 0) = false ∧ (u == v) = false := ⟨by rw [beq_false_of_ne hu, beq_false_of_ne hv]; rfl, beq_false_of_ne huv⟩
  refine call_gives F.slot_str_replace (typeIs_str _ _ _) F.entry_str_replace (F.args_str_replace_3 _ _ _) (gives_str_replace x y z t u v fun _ => ⟨marks.1, marks.2, hyz, replace_room x y z hb⟩) ?_
  unfold Txt.replace at hq
  split
  · rename_i c
    rw [if_pos c] at hq
    exact hq t s.toks (Nat.le_refl _)
  · rename_i c
    rw [if_neg c] at hq
    exact ⟨fits_replaced y hb, hq _ _ (Nat.le_succ _)⟩
end

theorem join_cons (x : Str) (r : List Str) : Str.join "" (x :: r) = x ++ Str.join "" r := by
  cases r with
  | nil => show x = x ++ Str.join "" []; exact (show ∀ y : Str, y = y ++ Str.join "" [] from fun y => by show (⟨y.cps⟩ : Str) = ⟨y.cps ++ #[]⟩; rw [Array.append_empty]) x
  | cons y r => show x ++ "" ++ Str.join "" (y :: r) = x ++ Str.join "" (y :: r); rw [show x ++ "" = x from (by show (⟨x.cps ++ #[]⟩ : Str) = ⟨x.cps⟩; rw [Array.append_empty])]
theorem join_bs : ∀ l : List Nat, Str.join "" (l.map fun c => mkS [92, c]) = mkS (bs l)
  | [] => rfl
  | c :: r => by
    rw [List.map_cons, join_cons, join_bs r, mkS_app]; rfl
theorem len_bs : ∀ l : List Nat, ((l.map fun c => mkS [92, c]).map (·.length)).sum = 2 * l.length
  | [] => rfl
  | c :: r => by
    rw [List.map_cons, List.map_cons, List.sum_cons, len_bs r, List.length_cons, mkS_len]
    simp only [List.length_cons, List.length_nil]
    omega
theorem pyIter_strI {prog : Program} {w : World} {A : Around} {E : Value → Shared → Prop} {s : Shared} {x : Str} {t : Tok} {Q : Value → Shared → Prop} (hh : A.handled = none)
    (hQ : ∀ (o : Obj) (ty : String), Walks prog w A s.heap.objs.size [s.heap.objs.size] [s.heap.objs.size] x.cps.size (SignAt x) (fun i h => h.IsStrIter s.heap.objs.size ty x t i) → (s.heap.push o).IsStrIter s.heap.objs.size ty x t 0 →
      Q (.ref s.heap.objs.size) { s with heap := s.heap.push o }) : wpAny (model prog w) A (pyIter (.str x t)) Q E s := by
  cases ha : x.cps.all (· < 128)
  · exact wpAny_pyIter_wide ha (hQ _ _ (Walks.strWide hh _ x t) ⟨_, Heap.get?_push_size _ rfl, rfl, rfl⟩)
  · exact wpAny_pyIter_ascii ha (hQ _ _ (Walks.strAscii hh _ x t) ⟨_, Heap.get?_push_size _ rfl, rfl, rfl⟩)
/-- a list comprehension over a text's signs -/
theorem ListComp_S {prog : Program} {w : World} {A : Around} {E : Value → Shared → Prop} {s : Shared} {h₀ : Heap} {L : Addr} {m : Str → Option Value} {env : Env} {elt iter : PySem.Expr} {x : Str} {px : Pos} {scope : Scope} {cl : List (Str × Addr)} {pos : Pos} {Q : Value → Shared → Prop} (F₀ : Fr h₀ L s.heap m)
    (hclos : closureFor scope env = pure cl) (hcell : ∀ y ∈ scope.names, y.2 ≠ .cell) (hkind : scope.kind = .function)
    (hnames : ∀ y ∈ scope.names, y.2 = .local → scope.names.lookup y.1 = some .local) (hx : scope.names.lookup x = some .local)
    (h : wpAny (model prog w) A (eval iter env) (fun xv s₁ => ∃ y t news, xv = .str y t ∧ A.handled = none ∧ Fr h₀ L s₁.heap m ∧ News h₀ L s₁.heap news ∧ y.cps.size ≤ sizeLine ∧
      ∀ s₂ : Shared, (∃ h, s₂ = { s₁ with heap := h }) → LCg.CompRest prog w A h₀ L m env elt x scope cl s₂ (fun _ => True) (SignAt y) (LCg.FinE h₀ L m s₂ Q) y.cps.size 0 [] news) E s)
    (hs : ∀ x, foldedSetIterable iter env x = pure x := by intro _; rfl) :
    wpAny (model prog w) A (eval (.ListComp elt [⟨.Name x px, iter, [], 0⟩] scope pos) env) Q E s := by
  rw [eval_ListComp]
  refine wpAny_comprehension_free (use := none) rfl hs hclos hkind hnames (wpAny_mono h (fun xv s₁ h₁ => ?_) fun _ _ e => e)
  obtain ⟨y, t, news, rfl, hh, F, N, hsz, R⟩ := h₁
  refine pyIter_strI hh fun o ty W st => ?_
  have up : ∀ b o', s₁.heap.get? b = some o' → (s₁.heap.push o).get? b = some o' := fun b o' e => Heap.get?_push_of_some _ e
  refine LCg.block_U (S := fun _ => True) W hsz (fun i h st => by obtain ⟨o, e, _⟩ := st; exact ⟨o, e⟩) (fun i h h' o nw st e e' _ _ _ => by obtain ⟨o', q, r⟩ := st; rw [e] at q; cases q; exact ⟨o, e', r⟩) hcell hkind hx st (fun b hb => ?_)
    (F.keeps up) (N.grown up) (Nat.ne_of_lt F.ns.lt) (next_is_new F) (fun p hp => Nat.ne_of_lt (Heap.lt_size (N p hp).1)) trivial (R _ ⟨_, rfl⟩) ?_
  · rw [List.mem_singleton.mp hb]
    show s₁.heap.objs.size < (s₁.heap.push o).objs.size
    rw [Heap.size_push]; exact Nat.lt_succ_self _
  · intro D C h tk m' ys news' F' N' o1 hn hC₀ _ hCL _ hCD offC fin
    have apart : ∀ q ∈ (D, LCg.lst ys) :: news', q.1 ≠ C := List.forall_mem_cons.mpr ⟨hCD.symm, offC⟩
    exact ⟨m', hn, fun h'' but => fin D h'' tk (F'.change but hCL hC₀) (fun q hq => ⟨but.extBut _ _ (apart q hq) (N' q hq).1, (N' q hq).2⟩) o1⟩
theorem ws_one (i : Nat) : ∃ v, isWs v = true ∧ Txt.item " \n\t\r" ((i : Int).fmod 4) = mkS [v] := by
  have e : (i : Int).fmod 4 = ((i % 4 : Nat) : Int) := by rw [Int.fmod_eq_emod_of_nonneg _ (by decide)]; rfl
  rw [e]
  have : i % 4 = 0 ∨ i % 4 = 1 ∨ i % 4 = 2 ∨ i % 4 = 3 := by omega
  rcases this with h | h | h | h <;> rw [h]
  · exact ⟨32, rfl, by decide +kernel⟩
  · exact ⟨10, rfl, by decide +kernel⟩
  · exact ⟨9, rfl, by decide +kernel⟩
  · exact ⟨13, rfl, by decide +kernel⟩
theorem ws_two (i : Nat) : ∃ v, isWs v = true ∧ Txt.item " \r\n\t" ((i : Int).fmod 4) = mkS [v] := by
  have e : (i : Int).fmod 4 = ((i % 4 : Nat) : Int) := by rw [Int.fmod_eq_emod_of_nonneg _ (by decide)]; rfl
  rw [e]
  have : i % 4 = 0 ∨ i % 4 = 1 ∨ i % 4 = 2 ∨ i % 4 = 3 := by omega
  rcases this with h | h | h | h <;> rw [h]
  · exact ⟨32, rfl, by decide +kernel⟩
  · exact ⟨13, rfl, by decide +kernel⟩
  · exact ⟨10, rfl, by decide +kernel⟩
  · exact ⟨9, rfl, by decide +kernel⟩
section
variable {w : World} {s : Shared} {p : Program} {loose : List Str} {mean : ExcName → Option Value} {mg mb : Str → Option Value} {n75 q75 : Str} {p75 : Arguments} {s1 s2 s3 s4 s5 s6 s7 s8 s9 s10 s11 s12 s13 s14 s15 : Stmt} {sc75 : Scope} {oc dV kV doc pm cdv ct : Value} {od an : Option Addr} {osl : Array (Option Value)}
    {g : Heap} {L fa : Addr} {cd : Value} {m : Str → Option Value} {news : List (Addr × Obj)} {T : Str} {tT : Tok} {Q : Flow → Shared → Prop}
set_option maxHeartbeats 1000000 in
theorem seg9
    (hK : (hd.heap_39 w.params).lookup 75 = some ⟨oc, od, .func (fnOf n75 q75 p75 [s1, s2, s3, s4, s5, s6, s7, s8, s9, s10, s11, s12, s13, s14, s15] sc75 dV kV doc pm an cdv ct), osl⟩)
    (codeHd : CodeHd g 62 58) (X : (hd.heap_39 w.params).In g) (Tp : Top p loose mean mg mb g) (F : Fr g L s.heap m) (N : News g L s.heap news) (hm : m "text" = some (.str T tT)) (hT : T.length ≤ 63)
    (h : ∀ h' tk pl l, l.map (·.1) = Txt.split T "-" → StrsAre (strValues l) (l.map (·.1)) → (∀ a ∈ l.map (·.1), a.length ≤ 63) → Fr g L h' (fun y => if y = "parts" then some (.ref pl) else m y) → News g L h' ((pl, { cls := .type "list", data := .seq (strValues l).toArray }) :: news) → (∀ q ∈ news, q.1 < pl) → Q .next { s with heap := h', toks := tk }) :
    wpAny (model PR w) (callerA.deeper (envOfC q75 sc75 L fa cd)) (exec s9 (envOfC q75 sc75 L fa cd)) Q (fun _ _ => False) s := by
  refine' use_lookup hK ?e ?_
  case e => k_is
  intro e
  cases e
  clear hK
  (try dsimp only)
  (try k_fold)
  walk_at "go"
  refine splitN1A (x := T) (y := "-") (t := tT) F N (by rfl) ?_ (by rw [sizeLine_eq]; omega)
  intro l h1 k1 e1 e2 e3 e4 F1 N1
  have hlt : ∀ q ∈ news, q.1 < s.heap.objs.size := fun q hq => Heap.lt_size (N q hq).1
  walk_at "go"
  rename News _ _ _ _ => N2
  rename Fr _ _ _ _ => F2
  exact h _ _ _ l e1 e2 (fun a ha => Nat.le_trans (e3 a ha) hT) F2 N2 hlt
set_option maxHeartbeats 1000000 in
theorem seg10
    (hK : (hd.heap_39 w.params).lookup 75 = some ⟨oc, od, .func (fnOf n75 q75 p75 [s1, s2, s3, s4, s5, s6, s7, s8, s9, s10, s11, s12, s13, s14, s15] sc75 dV kV doc pm an cdv ct), osl⟩)
    (F : Fr g L s.heap m) (N : News g L s.heap news)
    (h : ∀ h' tk t, Fr g L h' (fun y => if y = "written" then some (.str "" t) else m y) → News g L h' news → Q .next { s with heap := h', toks := tk }) :
    wpAny (model PR w) (callerA.deeper (envOfC q75 sc75 L fa cd)) (exec s10 (envOfC q75 sc75 L fa cd)) Q (fun _ _ => False) s := by
  refine' use_lookup hK ?e ?_
  case e => k_is
  intro e
  cases e
  clear hK
  (try dsimp only)
  (try k_fold)
  walk_at "go"
  rename News _ _ _ _ => N2
  rename Fr _ _ _ _ => F2
  exact h _ _ _ F2 N2
set_option maxHeartbeats 1000000 in
theorem seg11
    (hK : (hd.heap_39 w.params).lookup 75 = some ⟨oc, od, .func (fnOf n75 q75 p75 [s1, s2, s3, s4, s5, s6, s7, s8, s9, s10, s11, s12, s13, s14, s15] sc75 dV kV doc pm an cdv ct), osl⟩)
    (F : Fr g L s.heap m) (N : News g L s.heap news)
    (h : ∀ h' tk dl, Fr g L h' (fun y => if y = "due" then some (.ref dl) else m y) → News g L h' ((dl, W.listOf #[] 0) :: news) → (∀ q ∈ news, q.1 < dl) → Q .next { s with heap := h', toks := tk }) :
    wpAny (model PR w) (callerA.deeper (envOfC q75 sc75 L fa cd)) (exec s11 (envOfC q75 sc75 L fa cd)) Q (fun _ _ => False) s := by
  refine' use_lookup hK ?e ?_
  case e => k_is
  intro e
  cases e
  clear hK
  (try dsimp only)
  (try k_fold)
  walk_at "go"
  rename News _ _ _ _ => N2
  rename Fr _ _ _ _ => F2
  exact h _ _ _ F2 N2 fun q hq => Heap.lt_size (N q hq).1

end
end Mine

namespace Mine
theorem fillC7 : (PySem.Challenge.rw_wv0071_01.foot = 3) ∧ (∀ P, hd.heap_39 P = hd.heap_39 P) := by k_fill; exact ⟨rfl, fun _ => rfl⟩
local macro_rules | `(tactic| walk_at "eval Name") => `(tactic| (k_here; (with_reducible show wpAny _ _ (eval (Expr.Name _ _) (envOfC _ _ _ _ _)) _ _ _); k_dflt (refine' nameX_L ?F ?v ?_ ?a ?b; (case F => k_asm); (case a => rfl); (case b => rfl); (case v => assumption); k_whole)))
local macro_rules | `(tactic| walk_at "call builtin:str.replace") => `(tactic| fail "by hand")
local macro_rules | `(tactic| walk_at "go") => `(tactic| repeat' (first | ((fail_if_success (with_reducible show Exists _)); (fail_if_success (with_reducible show wpAny _ _ (eval (PySem.Expr.ListComp _ _ _ _) _) _ _ _)); (fail_if_success (with_reducible show wpAny _ _ (call (Value.builtin "str.split") _) _ _ _)); (fail_if_success (with_reducible show wpAny _ _ (call (Value.builtin "str.replace") _) _ _ _)); (fail_if_success (with_reducible show wpAny _ _ (binaryOp PySem.Operator.Add (Value.str _ _) (Value.str _ _)) _ _ _)); (fail_if_success (with_reducible show wpAny _ _ (pyIter _) _ _ _)); first | (k_unfold; (try dsimp only)) | (k_end; wrow_close) | walk1 | (dsimp only; walk1) | (leave1; walk_say "STEP leave1"; try dsimp only)) | fail "no step"))
section
variable {w : World} {s : Shared} {p : Program} {loose : List Str} {mean : ExcName → Option Value} {mg mb : Str → Option Value} {n75 q75 : Str} {p75 : Arguments} {s1 s2 s3 s4 s5 s6 s7 s8 s9 s10 s11 s12 s13 s14 s15 : Stmt} {sc75 : Scope} {oc dV kV doc pm cdv ct : Value} {od an : Option Addr} {osl : Array (Option Value)}
    {g : Heap} {L fa : Addr} {cd : Value} {m : Str → Option Value} {news : List (Addr × Obj)} {T : Str} {tT : Tok} {Q : Flow → Shared → Prop}
abbrev led6 (dl : Addr) (dv : Array Value) (nn : Nat) (pl : Addr) (pv : List Value) (L : Addr) (oX : Obj) (cr cl : Addr) (oC oL : Obj) : List (Addr × Obj) :=
  [(dl, W.listOf dv nn), (pl, { cls := .type "list", data := .seq pv.toArray }), (L + 1, oX), (58, tabObj (tab2 cr cl)), (cr, oC), (cl, oL)]
theorem dbl_len (c : Nat) (l : List Nat) : (StrLaws.dbl c l).length ≤ 2 * l.length := by
  induction l with
  | nil => exact Nat.le_refl _
  | cons d r ih =>
    unfold StrLaws.dbl
    split <;> simp only [List.length_cons] <;> omega
theorem due_snoc {dv : Array Value} {ds : List (List Nat)} {pt : Str} {t : Tok} (h : StrsAre dv.toList (ds.map mkS)) : StrsAre (dv.push (.str pt t)).toList ((ds ++ [pt.cps.toList]).map mkS) := by
  rw [Array.toList_push, List.map_append, List.map_cons, List.map_nil, mk_cps]; exact strs_snoc h
theorem led6_off {I dl pl cr cl L : Addr} {dv : Array Value} {nn : Nat} {pv : List Value} {oX oC oL : Obj} (h : ∀ d ∈ [dl, pl, L + 1, 58, cr, cl], d ≠ I) : ∀ q ∈ led6 dl dv nn pl pv L oX cr cl oC oL, q.1 ≠ I := by
  intro q hq
  simp only [List.mem_cons, List.not_mem_nil, or_false] at hq
  rcases hq with rfl | rfl | rfl | rfl | rfl | rfl <;> exact h _ (by simp)
set_option maxHeartbeats 4000000 in
theorem seg12 {dl pl cr cl : Addr} {oX oC oL : Obj} {l : List (Str × Tok)}
    (hK : (hd.heap_39 w.params).lookup 75 = some ⟨oc, od, .func (fnOf n75 q75 p75 [s1, s2, s3, s4, s5, s6, s7, s8, s9, s10, s11, s12, s13, s14, s15] sc75 dV kV doc pm an cdv ct), osl⟩)
    (codeHd : CodeHd g 62 58) (X : (hd.heap_39 w.params).In g) (Tp : Top p loose mean mg mb g)
    (F : Fr g L s.heap m) (N : News g L s.heap (led6 dl #[] 0 pl (strValues l) L oX cr cl oC oL)) (hpl : ltA pl dl) (hcl : ltA cl pl) (hcr : ltA cr cl) (hL1 : ltA (L + 1) cr) (hL0 : ltA 58 (L + 1))
    (hm1 : m "parts" = some (.ref pl)) (hm2 : m "due" = some (.ref dl)) {tw : Tok} (hm3 : m "written" = some (.str "" tw)) (hpa : StrsAre (strValues l) (l.map (·.1))) (hps : ∀ a ∈ l.map (·.1), a.length ≤ 63) (hpn : l.length ≤ 65)
    (h : ∀ h' tk m' W t dv nn ds, Fr g L h' m' → m' "due" = some (.ref dl) → m' "written" = some (.str (mkS W) t) → News g L h' (led6 dl dv nn pl (strValues l) L oX cr cl oC oL) → StrsAre dv.toList (ds.map mkS) → Good ds W → W.length ≤ 100000 → ds.length ≤ 200 → Q .next { s with heap := h', toks := tk }) :
    wpAny (model PR w) (callerA.deeper (envOfC q75 sc75 L fa cd)) (exec s12 (envOfC q75 sc75 L fa cd)) Q (fun _ _ => False) s := by
  have o1 := hpl
  have o2 := hcl
  have o3 := hcr
  have o4 := hL1
  have o5 := hL0
  unfold ltA at o1 o2 o3 o4 o5
  have hvl : (strValues l).length = l.length := by rw [hpa.length, List.length_map]
  refine' use_lookup hK ?e ?_
  case e => k_is
  intro e
  cases e
  clear hK
  (try dsimp only)
  (try k_fold)
  dsimp only [led6] at N
  refine wpAny_For ?_
  walk_at "go"
  refine len_strsA (ys := l.map (·.1)) ⟨_, (N (pl, _) (.tail _ (.head _))).1, rfl, _, rfl⟩ hpa (by rw [List.length_map]; omega) ?_
  walk_at "go"
  rename IsRange _ _ _ _ _ _ _ _ => hr
  rename Fr _ _ _ _ => F1
  rename News _ _ _ _ => N1
  refine for_range (L := L) (n := l.length) (fun i m' nw => ∃ W t dv nn ds, (∀ y : Str, y ≠ "k" → y ≠ "marked" → y ≠ "bare" → y ≠ "written" → m' y = m y) ∧ m' "written" = some (.str (mkS W) t) ∧ nw = led6 dl dv nn pl (strValues l) L oX cr cl oC oL ∧ StrsAre dv.toList (ds.map mkS) ∧ Good ds W ∧ W.length ≤ i * 300 ∧ ds.length ≤ i * 2) rfl rfl rfl rfl hr ?_ ?_ F1 N1
    ⟨[], _, #[], 0, [], fun _ _ _ _ _ => rfl, hm3.trans (congrArg (fun x => some (Value.str x _)) lit_e), rfl, .nil, Good.nil, Nat.zero_le _, Nat.zero_le _⟩ ?_ ?_
  · exact small_one (by omega) (by omega) (by rw [List.length_map]; omega) (by rw [List.length_map]; omega)
  · rw [rangeSize_nat, List.length_map]; omega
  · rintro I s2 i m1 nw v oI h2 tk2 ⟨hp, rfl⟩ hi ⟨W, tW, dv, nn, ds, hm4, hm5, rfl, hda, hgood, hWl, hdl⟩ ⟨tv, rfl⟩ F2 N2 off
    have hm6 : m1 "parts" = some (.ref pl) := (hm4 _ (by decide) (by decide) (by decide) (by decide)).trans hm1
    have hm7 : m1 "due" = some (.ref dl) := (hm4 _ (by decide) (by decide) (by decide) (by decide)).trans hm2
    rw [Int.zero_add] at F2
    dsimp only [led6] at N2
    have offI : ∀ d ∈ [dl, pl, L + 1, 58, cr, cl], d ≠ I := by
      intro d hd
      simp only [List.mem_cons, List.not_mem_nil, or_false] at hd
      rcases hd with rfl | rfl | rfl | rfl | rfl | rfl
      · exact off (d, _) (.head _)
      · exact off (d, _) (.tail _ (.head _))
      · exact off (L + 1, _) (.tail _ (.tail _ (.head _)))
      · exact off (58, _) (.tail _ (.tail _ (.tail _ (.head _))))
      · exact off (d, _) (.tail _ (.tail _ (.tail _ (.tail _ (.head _)))))
      · exact off (d, _) (.tail _ (.tail _ (.tail _ (.tail _ (.tail _ (.head _))))))
    obtain ⟨pt, hpt, hpl⟩ : ∃ pt, (l.map (·.1)).getD ((i : Int)).toNat Str.empty = pt ∧ pt.length ≤ 63 := by
      have hi2 : i < (l.map (·.1)).length := by rw [List.length_map]; exact hi
      refine ⟨(l.map (·.1))[i], ?_, hps _ (List.getElem_mem hi2)⟩
      rw [show ((i : Int)).toNat = i by omega]
      simp [List.getD]
      rw [List.getElem?_eq_getElem hi]; rfl
    have hel := esc_len pt.cps.toList
    have hcl : pt.cps.toList.length = pt.length := Array.length_toList
    walk_at "go"
    rw [hpt]
    refine replaceT (Nat.succ_ne_zero _) (Nat.succ_ne_zero _) (Nat.ne_of_lt (Nat.lt_succ_self _)) (by decide +kernel) (by rw [show ("\\\\" : Str).length = 2 by decide +kernel]; omega) ?_
    intro t3 k3 hk3
    dsimp only at hk3
    walk_at "go"
    refine replaceT (by show @Ne Nat _ _; omega) (by show @Ne Nat _ _; omega) (by show @Ne Nat _ _; omega) (by decide +kernel) ?_ ?_
    · have e1 : (Txt.replace pt "\\" "\\\\").length = (StrLaws.dbl 92 pt.cps.toList).length := by
        rw [← StrLaws.replace_double pt 92]
        show _ = (Txt.replace pt ⟨#[92]⟩ ⟨#[92, 92]⟩).cps.toList.length
        rw [← show ("\\" : Str) = ⟨#[92]⟩ by decide +kernel, ← show ("\\\\" : Str) = ⟨#[92, 92]⟩ by decide +kernel]
        exact Array.length_toList.symm
      have e2 := dbl_len 92 pt.cps.toList
      rw [show ("\\\"" : Str).length = 2 by decide +kernel, e1]; omega
    intro t4 k4 _
    refine add_eq lit_q (replace_esc pt) (by rw [sizeLine_eq, List.length_cons, List.length_nil]; omega) ?_
    intro t5 k5
    walk_at "go"
    refine add_eq rfl lit_q (by rw [sizeLine_eq]; simp only [List.length_append, List.length_cons, List.length_nil]; omega) ?_
    intro t6 k6
    walk_at "go"
    rename Fr _ _ _ _ => F3
    rename News _ _ _ _ => N3
    refine ListComp_S F3 (by with_unfolding_all rfl) (by decide) (by rfl) (by decide) (by rfl) ?_
    walk_at "go"
    rw [hpt]
    refine ⟨pt, _, _, rfl, rfl, F3, N3, (by rw [sizeLine_eq]; show pt.length ≤ _; omega), ?_⟩
    rintro s3 ⟨g3, rfl⟩
    refine turns (fun j ys nw => nw = (I, oI) :: led6 dl dv nn pl (strValues l) L oX cr cl oC oL ∧ StrsAre ys ((pt.cps.toList.take j).map fun c => mkS [92, c])) pt.cps.size ⟨rfl, .nil⟩ ?_ ?_
    · rintro j ys nw v I4 oI4 C4 oC4 D4 m4 h4 tk4 E4 hj ⟨rfl, hsy⟩ ⟨c, uc, hc, rfl⟩ hoC hx4 F4 N4 off4 ne4
      dsimp only [led6] at N4
      walk_at "go"
      refine add_eq lit_b (show (⟨#[c]⟩ : Str) = mkS [c] from rfl) (by rw [sizeLine_eq]; simp only [List.length_cons, List.length_nil]; decide) ?_
      intro t7 k7
      refine ⟨_, _, _, rfl, F4, N4, off4, trivial, rfl, ?_⟩
      rw [List.take_add_one, Array.getElem?_toList, hc, List.map_append]
      exact strs_snoc hsy
    · rintro ys nw ⟨rfl, hsy⟩ D5 h5 tk5 F5 N5 off5
      rw [show pt.cps.size = pt.cps.toList.length from Array.length_toList.symm, List.take_length] at hsy
      dsimp only [led6] at N5
      walk_at "go"
      refine join_listW (News.isList N5 (.head _)) hsy (by decide) (by rw [len_bs, List.length_map]; omega) ?_
      intro t8 k8
      rw [show Txt.join "" (pt.cps.toList.map fun c => mkS [92, c]) = mkS (bs pt.cps.toList) from (StrLaws.glued_eq_join _ _).trans (join_bs _)]
      have N6 : News g L h5 ((I, oI) :: led6 dl dv nn pl (strValues l) L oX cr cl oC oL) := fun q hq => N5 q (.tail _ hq)
      clear N5 N3 F3
      dsimp only [led6] at N6
      have hbl := bs_len pt.cps.toList
      have hIdl : ¬ @Eq Nat I dl := fun e => offI dl (by simp) e.symm
      obtain ⟨v1, hv1, ev1⟩ := ws_one i
      obtain ⟨v2, hv2, ev2⟩ := ws_two i
      walk_at "go"
      refine add_mk (by rw [sizeLine_eq]; simp only [List.length_append, List.length_cons, List.length_nil]; omega) ?_
      intro t9 k9
      walk_at "go"
      refine add_eq rfl ev1 (by rw [sizeLine_eq]; simp only [List.length_append, List.length_cons, List.length_nil]; omega) ?_
      intro t10 k10
      walk_at "go"
      · rename News _ _ _ _ => N7
        rename Fr _ _ _ _ => F7
        rw [hpt] at N7
        rename (mkS (bs _) != _) = true => hx
        have hne : pt.cps.toList ≠ [] := fun q => by
          rw [q] at hx
          exact absurd hx (by decide +kernel)
        generalize hdv1 : dv.push _ = dv1 at N7
        have hda1 : StrsAre dv1.toList ((ds ++ [pt.cps.toList]).map mkS) := by rw [← hdv1]; exact due_snoc hda
        refine add_mk (by rw [sizeLine_eq]; simp only [List.length_append, List.length_cons, List.length_nil]; omega) ?_
        intro t11 k11
        walk_at "go"
        refine add_eq rfl ev2 (by rw [sizeLine_eq]; simp only [List.length_append, List.length_cons, List.length_nil]; omega) ?_
        intro t12 k12
        walk_at "go"
        rename News _ _ _ _ => N8
        rename Fr _ _ _ _ => F8
        rw [hpt] at N8
        (try dsimp only)
        refine ⟨_, _, _, _, rfl, F8, N8, led6_off offI, _, _, _, _, ds ++ [pt.cps.toList] ++ [pt.cps.toList], fun y n1 n2 n3 n4 => ?_, rfl, rfl, due_snoc hda1, (hgood.marked _ hv1).bare _ hne hv2, ?_, ?_⟩
        · simp only [if_neg n1, if_neg n2, if_neg n3, if_neg n4]; exact hm4 y n1 n2 n3 n4
        · simp only [List.length_append, List.length_cons, List.length_nil]; omega
        · simp only [List.length_append, List.length_cons, List.length_nil]; omega
      · rename News _ _ _ _ => N8
        rename Fr _ _ _ _ => F8
        rw [hpt] at N8
        (try dsimp only)
        refine ⟨_, _, _, _, rfl, F8, N8, led6_off offI, _, _, _, _, ds ++ [pt.cps.toList], fun y n1 n2 n3 n4 => ?_, rfl, rfl, due_snoc hda, hgood.marked _ hv1, ?_, ?_⟩
        · simp only [if_neg n1, if_neg n2, if_neg n3, if_neg n4]; exact hm4 y n1 n2 n3 n4
        · simp only [List.length_append, List.length_cons, List.length_nil]; omega
        · simp only [List.length_append, List.length_cons, List.length_nil]; omega
  · rintro m' nw h9 tk9 ⟨W, t, dv, nn, ds, e1, e2, rfl, e3, e4, e5, e6⟩ F9 N9
    exact h _ _ m' W t dv nn ds F9 ((e1 _ (by decide) (by decide) (by decide) (by decide)).trans hm2) e2 N9 e3 e4 (by omega) (by omega)
end
end Mine

namespace Mine
theorem fillC8 : (PySem.Challenge.rw_wv0071_01.foot = 3) ∧ (∀ P, hd.heap_39 P = hd.heap_39 P) := by k_fill; exact ⟨rfl, fun _ => rfl⟩
local macro_rules | `(tactic| walk_at "eval ListComp") => `(tactic| (k_here; k_dflt (refine LCg.ListComp_U (F₀ := by k_asm) (by with_unfolding_all rfl) (by decide) (by rfl) (by decide) (by rfl) ?_)))
local macro_rules | `(tactic| walk_at "eval Name") => `(tactic| (k_here; (with_reducible show wpAny _ _ (eval (Expr.Name _ _) (envOfC _ _ _ _ _)) _ _ _); k_dflt (refine' nameX_L ?F ?v ?_ ?a ?b; (case F => k_asm); (case a => rfl); (case b => rfl); (case v => assumption); k_whole)))
local macro_rules | `(tactic| walk_at "go") => `(tactic| repeat' (first | ((fail_if_success (with_reducible show Exists _)); (fail_if_success (with_reducible show LCg.CompSrc _ _ _ _ _ _ _ _ _ _ _ _ _ _)); (fail_if_success (with_reducible show wpAny _ _ (call (Value.ref 63) _) _ _ _)); (fail_if_success (with_reducible show wpAny _ _ (call (Value.ref 42) _) _ _ _)); (fail_if_success (with_reducible show wpAny _ _ (compareOp PySem.CmpOp.NotEq (Value.ref _) (Value.ref _)) _ _ _)); first | (k_unfold; (try dsimp only)) | (k_end; wrow_close) | walk1 | (dsimp only; walk1) | (leave1; walk_say "STEP leave1"; try dsimp only)) | fail "no step"))

section
variable {w : World} {s : Shared} {p : Program} {loose : List Str} {mean : ExcName → Option Value} {mg mb : Str → Option Value} {n75 q75 : Str} {p75 : Arguments} {s1 s2 s3 s4 s5 s6 s7 s8 s9 s10 s11 s12 s13 s14 s15 : Stmt} {sc75 : Scope} {oc dV kV doc pm cdv ct : Value} {od an : Option Addr} {osl : Array (Option Value)}
    {g : Heap} {L fa : Addr} {cd : Value} {m : Str → Option Value} {oX oL : Obj} {W : List Nat} {tW : Tok} {a : LexA} {cl dl : Addr} {σ : LexS} {dv : Array Value} {nn : Nat} {ds : List (List Nat)} {Q : Flow → Shared → Prop}

set_option maxHeartbeats 4000000 in
theorem seg13 {pl cr : Addr} {pv : List Value} {oC : Obj} {u : Option Value}
    (hK : (hd.heap_39 w.params).lookup 75 = some ⟨oc, od, .func (fnOf n75 q75 p75 [s1, s2, s3, s4, s5, s6, s7, s8, s9, s10, s11, s12, s13, s14, s15] sc75 dV kV doc pm an cdv ct), osl⟩)
    (codeHd : CodeHd g 62 58) (X : (hd.heap_39 w.params).In g) (Tp : Top p loose mean mg mb g) (F : Fr g L s.heap m) (N : News g L s.heap (led6 dl dv nn pl pv L oX cr cl oC oL)) (hpl : ltA pl dl) (hcl : ltA cl pl) (hcr : ltA cr cl) (hL1 : ltA (L + 1) cr) (hL0 : ltA 58 (L + 1))
    (hX : oX.data = .cell u) (hC : RoCode oC) (hm : m "written" = some (.str (mkS W) tW)) (hW : W.length ≤ 100000)
    (h : ∀ h' tk a oX' tp t0, Fr g L h' m → News g L h' (pre4 dl dv nn L oX' a cl oL ++ lexLed w.params a ⟨0, tp, 1, t0, [], 0⟩) → oX'.data = .cell (some (.ref a.x)) → a.T = mkS W → LexOk w p loose mean mg mb a → (∀ d ∈ [dl, L + 1, 58, cl], d ∉ lexAddrs a) → Q .next { s with heap := h', toks := tk }) :
    wpAny (model PR w) (callerA.deeper (envOfC q75 sc75 L fa cd)) (exec s13 (envOfC q75 sc75 L fa cd)) Q (fun _ _ => False) s := by
  have o1 := hpl
  have o2 := hcl
  have o3 := hcr
  have o4 := hL1
  have o5 := hL0
  unfold ltA at o1 o2 o3 o4 o5
  refine' use_lookup hK ?e ?_
  case e => k_is
  intro e
  cases e
  clear hK
  (try dsimp only)
  (try k_fold)
  walk_at "go"
  refine wpAny_call (lexer_again (cr := cr) (cl := cl) (oC := oC) (oL := oL) (caller_depth (by decide)) (show ltA 58 cr by unfold ltA; omega) hcr hC (Base.of F N X Tp (by simp)) (fun q hq => news_has N q (by
    simp only [List.mem_cons, List.not_mem_nil, or_false] at hq ⊢
    rcases hq with rfl | rfl | rfl <;> simp)) ?_)
  intro h1 tk1 x dx pb st sd fr at_ ct ca oT oA fdR fdS ks k1 k2 k3 k4 kw t0 tp hst H l1 O ro fresh
  have F1 := fr_behind F N (ds := [58, cr, cl]) (by simp) hst
  have hcr1 : ∀ d : Addr, d ∈ [58, cr, cl] → ¬ @Eq Nat d (L + 1) := by
    intro d hd
    simp only [List.mem_cons, List.not_mem_nil, or_false] at hd
    rcases hd with rfl | rfl | rfl <;> omega
  have hcr2 : ∀ d : Addr, d ∈ [58, cr, cl] → ¬ @Eq Nat d dl := by
    intro d hd
    simp only [List.mem_cons, List.not_mem_nil, or_false] at hd
    rcases hd with rfl | rfl | rfl <;> omega
  have N1 : News g L h1 (pre4 dl dv nn L oX ⟨x, dx, pb, st, sd, fr, cr, at_, ct, ca, mkS W, oT, oA, fdR, oC, fdS, ks, k1, k2, k3, k4, kw⟩ cl oL ++ lexLed w.params ⟨x, dx, pb, st, sd, fr, cr, at_, ct, ca, mkS W, oT, oA, fdR, oC, fdS, ks, k1, k2, k3, k4, kw⟩ ⟨0, tp, 1, t0, [], 0⟩) := by
    intro q hq
    simp only [pre4, List.mem_append, List.mem_cons, List.not_mem_nil, or_false] at hq
    rcases hq with (rfl | rfl | rfl | rfl) | rfl | rfl | rfl | rfl | rfl | rfl | rfl | rfl | rfl | rfl
    · exact ⟨hst _ _ (fun hm => hcr2 _ hm rfl) (N (dl, _) (.head _)).1, (N (dl, _) (.head _)).2⟩
    · exact ⟨hst _ _ (fun hm => hcr1 _ hm rfl) (N (L + 1, oX) (by simp)).1, (N (L + 1, oX) (by simp)).2⟩
    · exact ⟨H (58, _) (by simp), (N (58, tabObj (tab2 cr cl)) (by simp)).2⟩
    · exact ⟨H (cl, oL) (by simp), (N (cl, oL) (by simp)).2⟩
    all_goals first
      | exact ⟨H (cr, oC) (by simp), (N (cr, oC) (by simp)).2⟩
      | exact ⟨H _ (by simp), lex_fresh F (fresh _ (by simp))⟩
  have hO := O
  unfold LexOrd ltA at hO
  dsimp only at hO
  unfold ltA at l1
  have ne : ∀ d ∈ [dl, L + 1, 58, cl], d ∉ lexAddrs ⟨x, dx, pb, st, sd, fr, cr, at_, ct, ca, mkS W, oT, oA, fdR, oC, fdS, ks, k1, k2, k3, k4, kw⟩ := by
    intro d hd hm
    simp only [List.mem_cons, List.not_mem_nil, or_false] at hd hm
    rcases hd with rfl | rfl | rfl | rfl
    · have e := (N (d, _) (.head _)).1
      have no : ∀ b ∈ [x, dx, pb, st, sd, fr, at_, ct, ca], d ≠ b := fun b hb q => by
        have := fresh b hb
        rw [← q] at this
        rw [show s.heap.get? d = _ from e] at this
        cases this
      rcases hm with hm | hm | hm | hm | hm | hm | hm | hm | hm | hm
      all_goals first
        | ((replace hm : @Eq Nat _ _ := hm); omega)
        | exact no _ (by simp) hm
    all_goals rcases hm with hm | hm | hm | hm | hm | hm | hm | hm | hm | hm <;> ((replace hm : @Eq Nat _ _ := hm); omega)
  have hLdl : ¬ @Eq Nat dl (L + 1) := by omega
  clear F N
  dsimp only [pre4, lexLed, List.cons_append, List.nil_append] at N1
  walk_at "go"
  rename News _ _ _ _ => N2
  rename Fr _ _ _ _ => F2
  exact h _ _ ⟨x, dx, pb, st, sd, fr, cr, at_, ct, ca, mkS W, oT, oA, fdR, oC, fdS, ks, k1, k2, k3, k4, kw⟩ _ tp t0 F2 N2 (by assumption) rfl ⟨O, ro, by show (mkS W).length ≤ _; rw [mkS_len]; omega⟩ ne

set_option maxHeartbeats 4000000 in
theorem seg14
    (hK : (hd.heap_39 w.params).lookup 75 = some ⟨oc, od, .func (fnOf n75 q75 p75 [s1, s2, s3, s4, s5, s6, s7, s8, s9, s10, s11, s12, s13, s14, s15] sc75 dV kV doc pm an cdv ct), osl⟩)
    (codeHd : CodeHd g 62 58) (X : (hd.heap_39 w.params).In g) (Tp : Top p loose mean mg mb g) (O : LexOk w p loose mean mg mb a) (ne : ∀ d ∈ [dl, L + 1, 58, cl], d ∉ lexAddrs a) (hX : oX.data = .cell (some (.ref a.x))) (hm : m "due" = some (.ref dl))
    (F : Fr g L s.heap m) (N : News g L s.heap (pre4 dl dv nn L oX a cl oL ++ lexLed w.params a σ)) (hp : σ.p ≤ a.T.length) (hln : LineOk a σ) (hws : σ.ws = []) (hsa : StrsAre dv.toList (ds.map mkS)) (hsz : ds.length ≤ 200) (hrd : rd ds (a.cs.drop σ.p))
    (h : ∀ h' tk σ, Fr g L h' m → News g L h' (pre4 dl dv nn L oX a cl oL ++ lexLed w.params a σ) → LineOk a σ → a.cs.drop σ.p = [] → Q .next { s with heap := h', toks := tk }) :
    wpAny (model PR w) (callerA.deeper (envOfC q75 sc75 L fa cd)) (exec s14 (envOfC q75 sc75 L fa cd)) Q (fun _ _ => False) s := by
  have hvl : dv.size = ds.length := by rw [← Array.length_toList]; exact hsa.length.trans (List.length_map _)
  refine' use_lookup hK ?e ?_
  case e => k_is
  intro e
  cases e
  clear hK
  (try dsimp only)
  (try k_fold)
  walk_at "go"
  refine LCg.CompSrc.ledger (its := dv) (k := nn) rfl F N (.head _) (by rw [sizeLine_eq]; omega) ?_
  intro g1
  refine turns (fun i ys nw => ∃ σ, nw = pre4 dl dv nn L oX a cl oL ++ lexLed w.params a σ ∧ σ.p ≤ a.T.length ∧ LineOk a σ ∧ σ.ws = [] ∧ StrsAre ys ((ds.take i).map mkS) ∧ rd (ds.drop i) (a.cs.drop σ.p)) dv.size ⟨σ, rfl, hp, hln, hws, .nil, hrd⟩ ?_ ?_
  · rintro i ys nw v I oI C oC D m₂ h1 tk1 E' hi ⟨σ1, rfl, hp1, hln1, hws1, hsy, hrd1⟩ hv hC hx F1 N1 off cne
    dsimp only [pre4, lexLed, List.cons_append, List.nil_append] at N1
    walk_at "go"
    have hid : i < ds.length := hvl ▸ hi
    rw [List.drop_eq_getElem_cons hid] at hrd1
    refine use_gt ((I, oI) :: (C, oC) :: (D, LCg.lst ys) :: pre4 dl dv nn L oX a cl oL) σ1 O F1 X N1 Tp rfl (caller_depth (by decide)) (caller_units (by decide)) hp1 hws1 hln1 (off3_ne off (pre4_ne ne)) ?_
    intro h2 tk2 tw2 σ2 F2 N2 hp2 hln2 hws2 hdr2
    refine ⟨_, _, pre4 dl dv nn L oX a cl oL ++ lexLed w.params a σ2, rfl, F2, N2, off3_led off, .inr ⟨PySem.W.listOf dv nn, .head _, rfl, nn, rfl⟩, σ2, rfl, hp2, hln2, hws2, ?_, ?_⟩
    · rw [hrd1.1, List.take_add_one, List.getElem?_eq_getElem hid, List.map_append]
      exact strs_snoc hsy
    · rw [hdr2]; exact hrd1.2
  · rintro ys nw ⟨σ1, rfl, hp1, hln1, hws1, hsy, hrd1⟩ D h1 tk1 F1 N1 off
    rw [hvl, List.take_length] at hsy
    rw [hvl, List.drop_length] at hrd1
    walk_at "go"
    refine ne_strs (ns := ds.map mkS) ⟨_, (N1 _ (.head _)).1, rfl, _, rfl⟩ ⟨_, (N1 (dl, PySem.W.listOf dv nn) (.tail _ (.head _))).1, rfl, _, rfl⟩ hsy hsa (Nat.lt_of_le_of_lt (Nat.le_add_right _ 0) (caller_units (Nat.zero_le _))) ?_
    have N2 : News g L h1 (pre4 dl dv nn L oX a cl oL ++ lexLed w.params a σ1) := fun q hq => N1 q (.tail _ hq)
    clear N1 N F
    dsimp only [pre4, lexLed, List.cons_append, List.nil_append] at N2
    walk_at "go"
    refine use_gt (pre4 dl dv nn L oX a cl oL) σ1 O F1 X N2 Tp rfl (caller_depth (by decide)) (caller_units (by decide)) hp1 hws1 hln1 (pre4_ne ne) ?_
    clear N2 F1
    intro h3 tk3 tw3 σ3 F3 N3 hp3 hln3 hws3 hdr3
    rw [show word (a.cs.drop σ1.p) = ([], []) from hrd1] at hdr3 ⊢
    dsimp only [pre4, lexLed, List.cons_append, List.nil_append] at N3 hdr3 ⊢
    walk_at "go"
    exact h _ _ σ3 F3 N3 hln3 hdr3

set_option maxHeartbeats 4000000 in
theorem seg15
    (hK : (hd.heap_39 w.params).lookup 75 = some ⟨oc, od, .func (fnOf n75 q75 p75 [s1, s2, s3, s4, s5, s6, s7, s8, s9, s10, s11, s12, s13, s14, s15] sc75 dV kV doc pm an cdv ct), osl⟩)
    (codeHd : CodeHd g 62 58) (X : (hd.heap_39 w.params).In g) (Tp : Top p loose mean mg mb g) (O : LexOk w p loose mean mg mb a) (hX : oX.data = .cell (some (.ref a.x))) (hm : m "written" = some (.str (mkS W) tW)) (hT : a.T = mkS W)
    (F : Fr g L s.heap m) (N : News g L s.heap (pre4 dl dv nn L oX a cl oL ++ lexLed w.params a σ)) (hln : LineOk a σ) (hdr : a.cs.drop σ.p = [])
    (h : ∀ h' tk, Fr g L h' m → News g L h' (pre4 dl dv nn L oX a cl oL ++ lexLed w.params a σ) → Q (.ret (.bool true)) { s with heap := h', toks := tk }) :
    wpAny (model PR w) (callerA.deeper (envOfC q75 sc75 L fa cd)) (exec s15 (envOfC q75 sc75 L fa cd)) Q (fun _ _ => False) s := by
  have hline : σ.n = 1 + Txt.count (mkS W) "\n" := by
    have e1 : σ.n = 1 + ((a.cs.take σ.p).count 10 : Nat) := hln
    rw [e1, ← hT, count_mk, List.take_of_length_le (List.drop_eq_nil_iff.mp hdr)]
  refine' use_lookup hK ?e ?_
  case e => k_is
  intro e
  cases e
  clear hK
  (try dsimp only)
  (try k_fold)
  dsimp only [pre4, lexLed, List.cons_append, List.nil_append] at N
  walk_at "go"
  rw [show (σ.n == 1 + Txt.count (mkS W) "\n") = true from beq_iff_eq.mpr hline]
  exact h _ _ F N
end
end Mine

namespace Mine
/-- law's body -/
theorem law_body {w : World} {s : Shared} {p : Program} {loose : List Str} {mean : ExcName → Option Value} {mg mb : Str → Option Value} {n75 q75 : Str} {p75 : Arguments} {s1 s2 s3 s4 s5 s6 s7 s8 s9 s10 s11 s12 s13 s14 s15 : Stmt} {sc75 : Scope} {oc dV kV doc pm cdv ct : Value} {od an : Option Addr} {osl : Array (Option Value)}
    {g : Heap} {L fa sa : Addr} {cd : Value} {m : Str → Option Value} {vs : List Value} {ns : List Int} {u : Option Value} {oX : Obj} {Q : Flow → Shared → Prop}
    (hK : (hd.heap_39 w.params).lookup 75 = some ⟨oc, od, .func (fnOf n75 q75 p75 [s1, s2, s3, s4, s5, s6, s7, s8, s9, s10, s11, s12, s13, s14, s15] sc75 dV kV doc pm an cdv ct), osl⟩)
    (codeHd : CodeHd g 62 58) (X : (hd.heap_39 w.params).In g) (Tp : Top p loose mean mg mb g) (F : Fr g L s.heap m) (N : News g L s.heap [(L + 1, oX), (58, tabObj #[])]) (hc : oX.data = .cell u) (hL : ltA 58 L)
    (hs : m "script" = some (.ref sa)) (hl : g.IsList sa vs.toArray) (hI : IntsAre vs ns) (hn : ns.length ≤ 63)
    (h : ∀ h' tk m' ps news, Fr g L h' m' → News g L h' news → (58, tabObj ps) ∈ news → Q (.ret (.bool true)) { s with heap := h', toks := tk }) :
    wpAny (model PR w) (callerA.deeper (envOfC q75 sc75 L fa cd)) (execs [s1, s2, s3, s4, s5, s6, s7, s8, s9, s10, s11, s12, s13, s14, s15] (envOfC q75 sc75 L fa cd)) Q (fun _ _ => False) s := by
  refine wpAny_execs_cons (seg1 hK codeHd X Tp F N hs hl hI hn fun h1 tk1 m1 T tT F1 N1 hT hm1 => ?_)
  show wpAny _ _ (execs _ _) _ _ _
  refine wpAny_execs_cons (seg2 hK codeHd X Tp F1 N1 hc hL hm1 hT fun h2 tk2 a cl oL oX2 tp t0 F2 N2 hX hTa O hAt hC => ?_)
  subst hTa
  show wpAny _ _ (execs _ _) _ _ _
  refine wpAny_execs_cons (seg3 hK F2 N2 fun h3 tk3 t3 F3 N3 => ?_)
  show wpAny _ _ (execs _ _) _ _ _
  refine wpAny_execs_cons (seg4 hK F3 N3 fun h4 tk4 wl F4 N4 hlt4 => ?_)
  show wpAny _ _ (execs _ _) _ _ _
  have hwl : ltA a.pb wl := hlt4 (a.pb, W.listOf #[] 0) (by simp)
  have F4' := fr_m5 (B := fun y => if y = "words" then some (.ref wl) else m1 y) F4 rfl (fun y n1 n2 => by simp only [if_neg n1])
  refine wpAny_execs_cons (seg5 (B := fun y => if y = "words" then some (.ref wl) else m1 y) hK codeHd X Tp O hAt hwl hX hm1 rfl hT F4' N4 fun h5 tk5 t5 wd σ vals ws nn F5 N5 hp hln hws hdr hsa hsz => ?_)
  show wpAny _ _ (execs _ _) _ _ _
  refine wpAny_execs_cons (seg6 hK codeHd X Tp O hAt hwl hX F5 N5 hp hln hws hdr fun h6 tk6 σ6 F6 N6 hp6 hln6 hws6 hdr6 => ?_)
  show wpAny _ _ (execs _ _) _ _ _
  refine wpAny_execs_cons (seg7 (m := m5 (fun y => if y = "words" then some (.ref wl) else m1 y) t5 wd) hK codeHd X Tp O hAt hwl hX rfl F6 N6 hws6 hsa hsz fun h7 tk7 m7 wn F7 hm7 N7 => ?_)
  show wpAny _ _ (execs _ _) _ _ _
  have hm7w : m7 "words" = some (.ref wl) := (hm7 _ (by decide)).trans rfl
  have hm7t : m7 "text" = some (.str a.T tT) := (hm7 _ (by decide)).trans hm1
  refine wpAny_execs_cons (seg8 hK codeHd X Tp O hAt hwl hX hm7w hm7t F7 N7 hp6 hln6 rfl hdr6 hsa hsz fun h8 tk8 σ8 F8 N8 => ?_)
  show wpAny _ _ (execs _ _) _ _ _
  have N8' : News g L h8 [(L + 1, oX2), (58, tabObj (tab2 a.cr cl)), (a.cr, a.oC), (cl, oL)] := fun q hq => N8 q (by
    simp only [List.mem_cons, List.not_mem_nil, or_false] at hq
    rcases hq with rfl | rfl | rfl | rfl <;> simp)
  refine wpAny_execs_cons (seg9 hK codeHd X Tp F8 N8' hm7t hT fun h9 tk9 pl l e1 e2 e3 F9 N9 hlt9 => ?_)
  show wpAny _ _ (execs _ _) _ _ _
  refine wpAny_execs_cons (seg10 hK F9 N9 fun h10 tk10 t10 F10 N10 => ?_)
  show wpAny _ _ (execs _ _) _ _ _
  refine wpAny_execs_cons (seg11 hK F10 N10 fun h11 tk11 dl F11 N11 hlt11 => ?_)
  show wpAny _ _ (execs _ _) _ _ _
  have hO := O.ord
  obtain ⟨o1, o2, o3, o4, o5, o6⟩ := hAt
  unfold LexOrd at hO
  unfold ltA at hO o1 o2 o3 o4 o5 o6
  have hpl : ltA pl dl := hlt11 (pl, { cls := .type "list", data := .seq (strValues l).toArray }) (.head _)
  have hcl : ltA cl pl := hlt9 (cl, oL) (by simp)
  have hcr : ltA a.cr cl := by unfold ltA; omega
  have hL1 : ltA (L + 1) a.cr := by unfold ltA; omega
  refine wpAny_execs_cons (seg12 hK codeHd X Tp F11 N11 hpl hcl hcr hL1 o1 rfl rfl rfl e2 e3 (by have := len_le_of_split e1; omega) fun h12 tk12 m12 W tW dv nn2 ds F12 hd12 hw12 N12 hda hg hWl hdl => ?_)
  show wpAny _ _ (execs _ _) _ _ _
  refine wpAny_execs_cons (seg13 hK codeHd X Tp F12 N12 hpl hcl hcr hL1 o1 hX hC hw12 hWl fun h13 tk13 a2 oX3 tp3 t03 F13 N13 hX3 hT3 O3 ne3 => ?_)
  show wpAny _ _ (execs _ _) _ _ _
  have hcs : a2.cs = W := by show a2.T.cps.toList = W; rw [hT3]; exact cps_mk W
  refine wpAny_execs_cons (seg14 hK codeHd X Tp O3 ne3 hX3 hd12 F13 N13 (Nat.zero_le _) (by simp [LineOk]) rfl hda hdl (by show rd ds (a2.cs.drop 0); rw [hcs]; exact hg.rd) fun h14 tk14 σ14 F14 N14 hln14 hdr14 => ?_)
  show wpAny _ _ (execs _ _) _ _ _
  refine wpAny_execs_cons (seg15 hK codeHd X Tp O3 hX3 hw12 hT3 F14 N14 hln14 hdr14 fun h15 tk15 F15 N15 => ?_)
  exact h _ _ _ (tab2 a2.cr cl) _ F15 N15 (by simp)
end Mine

set_option maxHeartbeats 4000000 in
theorem PySem.Challenge.cw_wv0071_01_holds : PySem.Challenge.rw_wv0071_01.Holds := by
  refine Mine.hd ?_
  k_go0; (all_goals try k_fold)
  rename News _ _ _ _ => N
  rename Fr _ _ _ _ => F
  rename _ = Data.cell _ => hc
  rename IntsAre _ _ => hI
  rename ¬ _ < _ => hcond
  rename _ = (#[] : Array GenState) => hg
  refine wpAny_mono (Mine.law_body (by k_is) codeHd (by assumption) (by assumption) F N hc (by assumption) rfl lifted hI ?_ ?_) (fun _ _ z => z) (fun _ _ z => z.elim)
  · have e := hcond
    (try dsimp only at e)
    omega
  · intro h' tk m' ps news F2 N2 hm
    refine ⟨?_, ⟨ps, (N2 _ hm).1⟩, trivial⟩
    first | exact goodW_bool F2 hg (fun _ => rfl) rfl | (clear F N; wrow_close)
