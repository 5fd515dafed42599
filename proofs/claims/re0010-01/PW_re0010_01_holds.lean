import PyProof.Rows.All
import Wide.All
import OpenK.AllK
import Wide.FinOn
import PySem.Challenge.RW_re0010_01
set_option Elab.async false
set_option maxRecDepth 100000
set_option maxHeartbeats 0
set_option rowWalk.seconds 0
namespace Mine
section
open PySem PySem.W PyProof.Rows
open_top hd for PySem.Challenge.rw_re0010_01
end
section
open PySem PySem.W PySem.Spec PySem.Calls PyProof.Rows PySem.Builtin PySem.Builtin.ObjectAttr
theorem slot_fn_setattr : Slot "function" "__setattr__" "object.__setattr__" :=
  .of (owner := "object") (n := "__setattr__") (by rw [typeLookup_type, builtinLookup_eq_fast]; kernel_rfl) (by decide +kernel) (by decide +kernel) (by decide +kernel)
    (by first | exact .inl (by decide +kernel) | exact .inr (by decide +kernel)) (by rw [isSubtype_type]; kernel_rfl)
theorem fn_read : typeLookup (.type "function") (Str.ofString "read") = pure none := by rw [typeLookup_type, builtinLookup_eq_fast]; kernel_rfl
theorem mro_fn : mroOf (.type "function") = pure [.type "function", .type "object"] := by kernel_rfl
theorem entry_setattr : entryFor table "object.__setattr__" = some Builtin.«object.__setattr__» := entryFor_of_tree (by kernel_rfl)
theorem passes_fn (self : Value) : refuseLoop self "__setattr__" [.type "function", .type "object"] = pure () := by rfl
end
section
open PySem PySem.W PySem.Spec PySem.Calls PyProof.Rows PySem.Builtin PySem.Builtin.ObjectAttr
section
variable {prog : Program} {w : World} {A : Around} {E : Value → Shared → Prop} {s : Shared}
theorem setattr_fn {st : Addr} {fd : FuncData} {sl : Array (Option Value)} {v : Value} {Q : Unit → Shared → Prop} (ho : s.heap.get? st = some ⟨.type "function", none, .func fd, sl⟩)
    (h : ∀ h' m, h'.get? st = some ⟨.type "function", some s.heap.objs.size, .func fd, sl⟩ → h'.Ns s.heap.objs.size m → m (Str.ofString "read") = some v →
      (∀ b o, b ≠ st → s.heap.get? b = some o → h'.get? b = some o) → Q () { s with heap := h', toks := s.toks + 2 }) :
    wpAny (model prog w) A (setAttr (.ref st) (Str.ofString "read") v) Q E s := by
  have hT : ∀ tk : Nat, ({ s with toks := tk } : Shared).TypeIs (.ref st) "function" := fun tk => ⟨_, ho, rfl⟩
  have hp := passes_fn (.ref st)
  unfold setAttr
  refine wpAny_bind ?_
  unfold mkText
  refine wpAny_bind (wpAny_fresh (wpAny_pure ?_))
  refine wpAny_bind (wpAny_callSpecial?_slot (name := Str.ofString "__setattr__") (hT _) slot_fn_setattr
    (wpAny_call_entry slot_fn_setattr (hT _) entry_setattr ?_ (by first | exact True.intro | rfl | decide +kernel | kernel_rfl)))
  have hT1 := hT (s.toks + 1)
  have h1 := mro_fn
  have h2 := fn_read
  have h3 : attrName (.str (Str.ofString "read") s.toks) = pure (Str.ofString "read") := rfl
  show wpAny _ _ (refuseIfOverridden (.ref st) (Str.ofString "__setattr__") >>= _) _ _ _
  rw [refuse_eq]
  refine wpAny_bind (wpAny_bind (wpAny_typeOf hT1 (wpAny_bind (wpAny_of_eq mro_fn (wpAny_of_eq hp ?_)))))
  refine wpAny_bind (wpAny_of_eq h3 (wpAny_bind (wpAny_typeOf hT1 (wpAny_bind (wpAny_of_eq h2 ?_)))))
  show wpAny _ _ (storeInOwnDict (.ref st) (.type "function") (.str (Str.ofString "read") s.toks) (Str.ofString "read") v false) _ _ _
  unfold storeInOwnDict
  refine wpAny_bind (wpAny_pure ?_)
  show wpAny _ _ (instanceDict st true >>= _) _ _ _
  unfold instanceDict
  refine wpAny_bind (wpAny_bind (wpAny_loadPart ho ?_))
  dsimp only
  rw [if_neg (by rw [show typeHasDict (.type "function") = true from by kernel_rfl]; decide)]
  have hx₁ : (s.heap.push { cls := .type "dict", data := .dict #[] }).get? st = some ⟨.type "function", none, .func fd, sl⟩ := Heap.get?_push_of_some _ ho
  have hxs : st ≠ s.heap.objs.size := Nat.ne_of_lt (Heap.lt_size ho)
  refine wpAny_bind (wpAny_alloc ?_)
  refine wpAny_bind (wpAny_update hx₁ ?_)
  refine wpAny_of_eq (a := some s.heap.objs.size) (by kernel_rfl) ?_
  have hgd : ((s.heap.push { cls := .type "dict", data := .dict #[] }).update st fun o => { cls := o.cls, dict := some s.heap.objs.size, data := o.data, slots := o.slots }).get? s.heap.objs.size
      = some { cls := .type "dict", data := .dict #[] } :=
    (Heap.get?_update_ne _ _ _ _ hxs.symm).trans (Heap.get?_push_at rfl rfl)
  have hnd : ((s.heap.push { cls := .type "dict", data := .dict #[] }).update st fun o => { cls := o.cls, dict := some s.heap.objs.size, data := o.data, slots := o.slots }).Ns s.heap.objs.size (fun _ => none) :=
    ⟨_, #[], _, hgd, rfl, fun e he => absurd he (by simp), fun _ => rfl⟩
  show wpAny _ _ (storeInDict s.heap.objs.size (.str (Str.ofString "read") s.toks) (Str.ofString "read") v) _ _ _
  unfold storeInDict newKeyGuard
  refine wpAny_bind (wpAny_pure (wpAny_bind (wpAny_nsSet1 (Heap.Ns1.of_empty hnd) fun h' hn' hs => ?_)))
  obtain ⟨oD, esD, epD, hoD, hdD, hcD⟩ := hn'.count (Within.cons (Str.ofString "read") v Within.nil)
  refine wpAny_bind (wpAny_lookBehind hoD (by rw [hdD]; exact pastItsLine_dict (Nat.le_trans hcD (by rw [List.length_cons, List.length_nil, sizeLine_eq]; omega))) ?_)
  refine wpAny_pure ⟨_, rfl, wpAny_pure ?_⟩
  refine h h' _ ((hs.2 st hxs).trans (Heap.get?_update_self _ hx₁ rfl)) (Heap.Ns1.ns hn') (by simp) (fun b o hb e => ?_)
  exact (hs.2 b (Nat.ne_of_lt (Heap.lt_size e))).trans ((Heap.get?_update_ne _ _ _ _ hb).trans (Heap.get?_push_of_some _ e))
end
end
section
open PySem PySem.W PySem.Spec PySem.Calls PyProof.Rows PySem.Builtin PySem.Builtin.ObjectAttr
theorem look_fn_ga : typeLookup (.type "function") (Str.ofString "__getattribute__") = pure (some (.builtin "object.__getattribute__")) := by rw [typeLookup_type, builtinLookup_eq_fast]; kernel_rfl
theorem slot_fn_ga : Slot "function" "__getattribute__" "object.__getattribute__" :=
  .of (owner := "object") (n := "__getattribute__") (by rw [typeLookup_type, builtinLookup_eq_fast]; kernel_rfl) (by decide +kernel) (by decide +kernel) (by decide +kernel)
    (by first | exact .inl (by decide +kernel) | exact .inr (by decide +kernel)) (by rw [isSubtype_type]; kernel_rfl)
theorem look_fn_gr : typeLookup (.type "function") (Str.ofString "__getattr__") = pure none := by rw [typeLookup_type, builtinLookup_eq_fast]; kernel_rfl
theorem entry_ga : entryFor table "object.__getattribute__" = some Builtin.«object.__getattribute__» := entryFor_of_tree (by kernel_rfl)
section
variable {prog : Program} {w : World} {A : Around} {E : Value → Shared → Prop} {s : Shared}
theorem getmethod_fn {st sd rd : Addr} {fd : FuncData} {sl : Array (Option Value)} {m : Str → Option Value} {pl : Sem Bool} {Q : Value × List Value → Shared → Prop}
    (ho : s.heap.get? st = some ⟨.type "function", some sd, .func fd, sl⟩) (hn : s.heap.Ns sd m) (hm : m (Str.ofString "read") = some (.ref rd))
    (h : Q (.ref rd, []) { s with toks := s.toks + 1 }) :
    wpAny (model prog w) A (getMethod (.ref st) (Str.ofString "read") pl) Q E s := by
  have hT : ∀ tk : Nat, ({ s with toks := tk } : Shared).TypeIs (.ref st) "function" := fun tk => ⟨_, ho, rfl⟩
  have hT0 : s.TypeIs (.ref st) "function" := ⟨_, ho, rfl⟩
  unfold getMethod
  refine wpAny_bind (wpAny_specialOf hT0 look_fn_ga ?_)
  (try dsimp only)
  rw [if_neg (by rw [show Manifest.canonical "object.__getattribute__" = "object.__getattribute__" from by kernel_rfl]; decide)]
  refine wpAny_bind (wpAny_specialOf hT0 look_fn_gr ?_)
  (try dsimp only)
  rw [if_neg (by decide)]
  refine wpAny_bind (wpAny_specialOf hT0 fn_read ?_)
  (try dsimp only)
  refine wpAny_bind ?_
  unfold getAttr
  refine wpAny_bind (wpAny_mkText ?_)
  unfold getAttrBy
  refine wpAny_holding ?_
  refine wpAny_bind (wpAny_typeOf (hT _) (wpAny_bind (wpAny_of_eq look_fn_ga ?_)))
  (try dsimp only)
  rw [if_neg (by decide)]
  unfold getAttrByItsOwn
  refine wpAny_bind (wpAny_pure ?_)
  refine wpAny_bind (wpAny_attempt (wpAny_holding ?_))
  show wpAny _ _ (boundAndCalled (.builtin "object.__getattribute__") (.ref st) (.str (Str.ofString "read") s.toks)) _ _ _
  unfold boundAndCalled
  refine wpAny_bind (wpAny_of_eq (slot_fn_ga.bind _) ?_)
  show wpAny _ _ (call (.builtin "object.__getattribute__") [.ref st, .str (Str.ofString "read") s.toks]) _ _ _
  refine wpAny_call_entry slot_fn_ga (hT _) entry_ga ?_ (by first | exact True.intro | rfl | decide +kernel | kernel_rfl)
  unfold Builtin.«object.__getattribute__»
  refine wpAny_bind (wpAny_of_eq (a := (Value.ref st, [.str (Str.ofString "read") s.toks])) (by rfl) ?_)
  dsimp only
  refine wpAny_bind (wpAny_of_eq (a := Str.ofString "read") (by rfl) (wpAny_bind (wpAny_typeOf (hT _) (wpAny_bind ?_))))
  unfold find
  refine wpAny_bind (wpAny_of_eq fn_read (wpAny_bind (wpAny_pure (wpAny_bind (wpAny_pure ?_)))))
  show wpAny _ _ (ownThenClass (.ref st) (Str.ofString "read") none none) _ _ _
  unfold ownThenClass
  refine wpAny_bind ?_
  show wpAny _ _ (ObjectAttr.ownDict st >>= fun d => inDict (Str.ofString "read") d) _ _ _
  unfold ObjectAttr.ownDict
  refine wpAny_bind (wpAny_bind (wpAny_loadPart ho ?_))
  dsimp only
  unfold instanceDict
  refine wpAny_bind (wpAny_loadPart ho (wpAny_pure ?_))
  show wpAny _ _ (nsGet sd (Str.ofString "read")) _ _ _
  refine wpAny_nsGet hn ?_
  rw [hm]
  refine wpAny_bind (wpAny_rule (wpAny_pure (wpAny_pure ⟨_, rfl, ?_⟩)))
  exact wpAny_pure (wpAny_pure h)
end
end
section
open PySem PySem.W PySem.Spec PySem.Calls PyProof.Rows PySem.Builtin
theorem entry_iter : entryFor table "iter" = some Builtin.«iter» := entryFor_of_tree (by kernel_rfl)
theorem kind_iter : builtinKind "iter" = none := by decide +kernel
theorem plain_iter : plainId "iter" = true := by decide +kernel
theorem args_iter2 (a b : Value) : argsOk "iter" ⟨[a, b], []⟩ := by first | exact True.intro | rfl | decide +kernel | kernel_rfl
theorem look_meth_call : ∃ v, typeLookup (.type "method") (Str.ofString "__call__") = pure (some v) := ⟨.builtin "method.__call__", by rw [typeLookup_type, builtinLookup_eq_fast]; kernel_rfl⟩
abbrev citObj (f x : Value) (b : Bool) : Obj := { cls := .type "callable_iterator", data := .fields #[f, x, .bool b] }
theorem slot_cit_iter : Slot "callable_iterator" "__iter__" "callable_iterator.__iter__" :=
  .of (owner := "callable_iterator") (n := "__iter__") (by rw [typeLookup_type, builtinLookup_eq_fast]; kernel_rfl) (by decide +kernel) (by decide +kernel) (by decide +kernel)
    (by first | exact .inl (by decide +kernel) | exact .inr (by decide +kernel)) (by rw [isSubtype_type]; kernel_rfl)
theorem slot_cit_next : Slot "callable_iterator" "__next__" "callable_iterator.__next__" :=
  .of (owner := "callable_iterator") (n := "__next__") (by rw [typeLookup_type, builtinLookup_eq_fast]; kernel_rfl) (by decide +kernel) (by decide +kernel) (by decide +kernel)
    (by first | exact .inl (by decide +kernel) | exact .inr (by decide +kernel)) (by rw [isSubtype_type]; kernel_rfl)
theorem entry_cit_next : entryFor table "callable_iterator.__next__" = some Builtin.«callable_iterator.__next__» := entryFor_of_tree (by kernel_rfl)
theorem args_cit_next (a : Value) : argsOk "callable_iterator.__next__" ⟨[a], []⟩ := by first | exact True.intro | rfl | decide +kernel | kernel_rfl
section
variable {prog : Program} {w : World} {A : Around} {E : Value → Shared → Prop} {s : Shared}
theorem iter2_method {q : Addr} {f self x : Value} {Q : Value → Shared → Prop} (ho : s.heap.get? q = some (methodObj f self))
    (h : Q (.ref s.heap.objs.size) { s with heap := s.heap.push (citObj (.ref q) x false) }) : wpAny (model prog w) A (call (.builtin "iter") [.ref q, x]) Q E s := by
  have hT0 : s.TypeIs (.ref q) "method" := ⟨_, ho, rfl⟩
  obtain ⟨v, hv⟩ := look_meth_call
  refine call_function_entry kind_iter plain_iter entry_iter (args_iter2 _ _) ?_
  unfold Builtin.«iter»
  refine wpAny_bind (wpAny_of_eq (a := [.ref q, x]) (by rfl) ?_)
  dsimp only
  refine wpAny_bind (wpAny_specialOf hT0 hv ?_)
  rw [if_neg (by simp)]
  refine wpAny_bind (wpAny_rule (wpAny_bind (wpAny_newObj_type (wpAny_pure ⟨_, rfl, h⟩) (by size_fits))))
theorem entry_cit_iter : entryFor table "callable_iterator.__iter__" = some Builtin.«dict_keyiterator.__iter__» :=
  entryFor_alias (id' := "dict_keyiterator.__iter__") (by kernel_rfl) rfl (by decide +kernel) (by kernel_rfl)
theorem args_cit_iter (a : Value) : argsOk "callable_iterator.__iter__" ⟨[a], []⟩ := by unfold argsOk; kernel_rfl
theorem pyIter_cit {it : Addr} {f x : Value} {b : Bool} {Q : Value → Shared → Prop} (ho : s.heap.get? it = some (citObj f x b)) (h : Q (.ref it) s) :
    wpAny (model prog w) A (pyIter (.ref it)) Q E s := by
  have hT : s.TypeIs (.ref it) "callable_iterator" := ⟨_, ho, rfl⟩
  refine wpAny_pyIter_slot hT slot_cit_iter (wpAny_call_entry slot_cit_iter hT entry_cit_iter ?_ (args_cit_iter _))
  show wpAny _ _ (ret (.ref it)) _ _ s
  exact wpAny_pure ⟨_, rfl, "callable_iterator", _, hT, slot_cit_next.lookup, h⟩
theorem borrows_method {q f : Addr} {self : Value} {of : Obj} {fd : FuncData} {Q : Bool → Shared → Prop} (ho : s.heap.get? q = some (methodObj (.ref f) self)) (hf : s.heap.get? f = some of) (hd : of.data = .func fd) (h : Q true s) :
    wpAny (model prog w) A (borrowsExactly (.ref q)) Q E s := by
  unfold borrowsExactly
  dsimp only
  refine wpAny_bind (wpAny_load ho ?_)
  show wpAny _ _ (load f >>= _) _ _ _
  refine wpAny_bind (wpAny_load hf ?_)
  rw [hd]
  exact wpAny_pure h
theorem callBorrowed_any {f : Value} {pos : List Value} {Q : Value → Shared → Prop}
    (hc : codeAny (model prog w) A (.call f ⟨pos, []⟩) (fun r s' => match r with | .ok (.ret v) => Q v s' | .ok _ => False | .error e => E e s') s) : wpAny (model prog w) A (callBorrowed f pos) Q E s := by
  intro Γ p hΓ
  have z := wpAny_call (f := f) (pos := pos) (kw := []) hc Γ p hΓ
  unfold callBorrowed
  rw [Sem.wp_call]
  have y := hc (Γ.enter (.call f ⟨pos, []⟩) none p) p rfl (hΓ.enter _ none p (by intro x; cases x))
  refine wpCode_mono (fun r s' hr => ?_) y
  cases r with
  | error e => exact hr
  | ok fl => cases fl <;> first | exact hr | exact hr.elim
theorem pyNext_cit {it q f : Addr} {self : Value} {x : Str} {t : Tok} {of : Obj} {fd : FuncData} {Q : Option Value → Shared → Prop} (hh : A.handled = none)
    (ho : s.heap.get? it = some (citObj (.ref q) (.str x t) false)) (hq : s.heap.get? q = some (methodObj (.ref f) self)) (hf : s.heap.get? f = some of) (hd : of.data = .func fd)
    (hc : codeAny (model prog w) A.in1 (.call (.ref q) ⟨[], []⟩) (fun r s' => ∃ u, r = .ok (.ret (.str x u)) ∧ s'.heap.get? it = some (citObj (.ref q) (.str x t) false) ∧ s'.heap.get? q = some (methodObj (.ref f) self) ∧ s'.heap.get? f = some of ∧
      ∀ h'', Heap.ExtBut it s'.heap h'' → Q none { s' with heap := h'' }) s) :
    wpAny (model prog w) A (pyNext (.ref it)) Q E s := by
  have hT : s.TypeIs (.ref it) "callable_iterator" := ⟨_, ho, rfl⟩
  unfold pyNext
  refine wpAny_bind (wpAny_attempt (wpAny_callSpecial?_slot (name := Str.ofString "__next__") hT slot_cit_next
    (wpAny_call_entry slot_cit_next hT entry_cit_next ?_ (args_cit_next _))))
  show wpAny _ _ (field (.ref it) 2 >>= _) _ _ s
  refine wpAny_bind (wpAny_field ho rfl (x := .bool false) rfl ?_)
  rw [if_neg (by decide)]
  refine wpAny_bind (wpAny_field ho rfl (x := .ref q) rfl ?_)
  refine wpAny_bind (wpAny_attempt ?_)
  unfold callOutOfASlot
  refine wpAny_bind (borrows_method hq hf hd ?_)
  rw [if_pos rfl]
  refine callBorrowed_any (codeAny_mono hc fun r s' hr => ?_)
  obtain ⟨u, rfl, ho', hq', hf', hQ⟩ := hr
  dsimp only
  refine wpAny_bind (wpAny_field ho' rfl (x := .bool false) rfl ?_)
  rw [if_neg (by decide)]
  refine wpAny_bind (wpAny_field ho' rfl (x := .str x t) rfl ?_)
  refine wpAny_bind (wpAny_holding (wpAny_eqBool_str ?_))
  rw [if_neg (by simp)]
  refine wpAny_bind (wpAny_rule ?_)
  show wpAny _ _ ((field (.ref it) 0 >>= fun old => slotLetsGo "callable_iterator.__next__" old (fun | .builtin "callable_iterator.__next__" x => x.pos.head? == some (Value.ref it) | _ => false) >>= fun _ => setField (.ref it) 0 .none >>= fun _ => setField (.ref it) 1 .none >>= fun _ => setField (.ref it) 2 (.bool true)) >>= fun _ => SmallTypes.stopIteration) _ _ _
  refine wpAny_bind (wpAny_bind (wpAny_field ho' rfl (x := .ref q) rfl ?_))
  refine wpAny_bind ?_
  unfold slotLetsGo
  dsimp only
  refine wpAny_bind (borrows_method hq' hf' hd ?_)
  rw [if_pos rfl]
  refine wpAny_pure ?_
  refine wpAny_bind (wpAny_setField ho' rfl (by simp) ?_)
  have ho1 := Heap.get?_update_self (Obj.mapFields fun vs => vs.setIfInBounds 0 Value.none) ho' rfl
  refine wpAny_bind (wpAny_setField ho1 rfl (by simp) ?_)
  have ho2 := Heap.get?_update_self (Obj.mapFields fun vs => vs.setIfInBounds 1 Value.none) ho1 rfl
  refine wpAny_setField ho2 rfl (by simp) ?_
  show wpAny _ _ (newExc (.type "StopIteration") [] >>= _) _ _ _
  refine wpAny_bind ?_
  simp only [newExc, newTuple]
  refine wpAny_bind (wpAny_newObj_type ?_ (by size_fits))
  refine wpAny_bind (m := firstArgMember _ _) (wpAny_of_eq (a := Value.none) (by first | rfl | (simp only [firstArgMember]; rfl)) ?_)
  refine wpAny_newObj_type ?_ (by size_fits)
  simp only [raiseNew]
  refine wpAny_bind (wpAny_handled ?_)
  rw [show A.in1.handled = none from hh]
  refine wpAny_bind (wpAny_pure (wpAny_throw ?_))
  refine wpAny_bind (wpAny_isInstance (T := "StopIteration") (b := true) ⟨_, Heap.get?_push_size _ rfl, rfl⟩ isSubtype_stop ?_)
  refine wpAny_pure (hQ _ fun b o hb e => ?_)
  refine Heap.get?_push_of_some _ (Heap.get?_push_of_some _ ?_)
  exact (Heap.get?_update_ne _ _ _ _ hb).trans ((Heap.get?_update_ne _ _ _ _ hb).trans ((Heap.get?_update_ne _ _ _ _ hb).trans e))
end
end
section
open PySem PySem.W PySem.Spec PySem.Calls PyProof.Rows PySem.Builtin
section
variable {prog : Program} {w : World} {A : Around} {E : Value → Shared → Prop} {s : Shared} {h₀ : Heap} {L : Addr} {m : Str → Option Value} {news rest : List (Addr × Obj)}
theorem iter2_K {q : Addr} {f self : Value} {y : Str} {t : Tok} {Q : Value → Shared → Prop} (F : Fr h₀ L s.heap m) (N : News h₀ L s.heap news) (hm : (q, methodObj f self) ∈ news)
    (h : ∀ qq tt, qq = q → ∀ it h', Fr h₀ L h' m → News h₀ L h' ((it, citObj (.ref qq) (.str y tt) false) :: news) → (∀ p ∈ news, p.1 ≠ it) → Q (.ref it) { s with heap := h' }) :
    wpAny (model prog w) A (call (.builtin "iter") [.ref q, .str y t]) Q E s :=
  iter2_method (N.get hm) (h _ _ rfl _ _ (F.push _) (News.push F N _) fun p hp => Nat.ne_of_lt (Heap.lt_size (N p hp).1))
theorem forLoop_end {target : PySem.Expr} {it : Value} {body : List Stmt} {env : Env} {R : Result → Shared → Prop}
    (h : wpAny (model prog w) A (pyNext it) (fun r s₁ => match r with | none => R (.ok .next) s₁ | some _ => False) (notedBy (model prog w) A env fun e s' => R (.error e) s') s)
    (ht : ∀ v, letOwnedTupleGo target it v = pure () := by intro _; rfl) : codeAny (model prog w) A (.forLoop target it body [] env) R s := by
  refine codeAny_forLoop (fun _ s' => s' = s) (fun n s' hs => ?_) 0 rfl ht
  subst hs
  refine wpAny_mono h (fun r s₁ hr => ?_) fun _ _ x => x
  cases r with
  | none => exact wpAny_execs_nil hr
  | some v => exact hr.elim
theorem pyNext_citK {it q f : Addr} {self : Value} {x : Str} {t : Tok} {of : Obj} {fd : FuncData} {P : List (Addr × Obj) → Prop} {Q : Option Value → Shared → Prop} (hh : A.handled = none)
    (F : Fr h₀ L s.heap m) (N : News h₀ L s.heap ((it, citObj (.ref q) (.str x t) false) :: (q, methodObj (.ref f) self) :: rest)) (hf : h₀.get? f = some of) (hd : of.data = .func fd)
    (hc : ∀ R' : Result → Shared → Prop, (∀ u h' tk' rest', Fr h₀ L h' m → News h₀ L h' ((it, citObj (.ref q) (.str x t) false) :: (q, methodObj (.ref f) self) :: rest') → (∀ p ∈ (q, methodObj (.ref f) self) :: rest', p.1 ≠ it) → P rest' → R' (.ok (.ret (.str x u))) { s with heap := h', toks := tk' }) →
      codeAny (model prog w) A.in1 (.call (.ref f) ⟨[self], []⟩) R' s)
    (h : ∀ h' tk' rest', Fr h₀ L h' m → News h₀ L h' rest' → P rest' → Q none { s with heap := h', toks := tk' }) : wpAny (model prog w) A (pyNext (.ref it)) Q E s := by
  refine pyNext_cit hh (N.get (.head _)) (N.get (.tail _ (.head _))) (F.keep _ _ hf) hd (method_call (N.get (.tail _ (.head _))) (hc _ ?_))
  intro u h' tk' rest' F' N' hne hP
  refine ⟨u, rfl, N'.get (.head _), N'.get (.tail _ (.head _)), F'.keep _ _ hf, fun h'' hx => h h'' tk' rest' ?_ ?_ hP⟩
  · exact ⟨F'.ns.at fun o e => hx L o (fun q => (N' _ (.head _)).2.1 q.symm) e, fun b o e => hx b o (fun q => by subst q; exact nomatch ((N' _ (.head _)).2.2.symm.trans e)) (F'.keep b o e), F'.above⟩
  · exact fun p hp => ⟨hx _ _ (hne p (.tail _ hp)) (N' p (.tail _ (.tail _ hp))).1, (N' p (.tail _ (.tail _ hp))).2⟩
end
end
section
open PySem PySem.W PySem.Spec PySem.Calls PyProof.Rows PySem.Builtin
theorem rest_ne {rest : List (Addr × Obj)} {d D : Nat} (h : ∀ q ∈ rest, q.1 < d) (hd : d ≤ D) : ∀ q ∈ rest, q.1 ≠ D := fun q hq => Nat.ne_of_lt (Nat.lt_of_lt_of_le (h q hq) hd)
theorem allLt_mem {d : Nat} {l : List (Addr × Obj)} (h : AllLt d l) : ∀ q ∈ l, q.1 < d := by
  induction l with
  | nil => intro q hq; cases hq
  | cons p r ih =>
    intro q hq
    rcases List.mem_cons.mp hq with rfl | hq
    · exact h.1
    · exact ih h.2 q hq
section
variable {prog : Program} {w : World} {A A₀ : Around} {E : Value → Shared → Prop} {s : Shared} {K : Frag} {C L : Addr} {h₀ base : Heap} {m mg mb : Str → Option Value} {news : List (Addr × Obj)} {p : Program} {loose : List Str} {mean : ExcName → Option Value} {Q : Value → Shared → Prop}
theorem code_defL {env : Env} {outer : List Env} {R : Result → Shared → Prop} {name qual : Str} {params : Arguments} {body : List Stmt} {scope : Scope} {dV kV doc pm cdv ct oc : Value} {an od : Option Addr} {osl : Array (Option Value)} {f : Addr} {args : Args} {binds : List (Str × Value)}
    (B : Below A₀ base outer h₀) (F : Fr h₀ L s.heap m) (X₀ : K.In h₀) (N : News h₀ L s.heap news) (T : Top p loose mean mg mb h₀) (hA : A.frames = some (env :: outer)) (hf : env.frame = some L) (hke : env.scope.kind = .function)
    (ho : K.lookup f = some ⟨oc, od, .func (fnOf name qual params body scope dV kV doc pm an cdv ct), osl⟩) (hcd : codeIn K cdv qual = true) (hroom : A.depth < recursionLimit)
    (hbind : BindsTo s (fnOf name qual params body scope dV kV doc pm an cdv ct) args binds) (hloc : ∀ y ∈ binds, scope.names.lookup y.1 = some .local)
    (h : ∀ g L' h₁, Fr h₀ L g m → Fr g L' h₁ (fun y => binds.reverse.lookup y) → News g L' h₁ news → Below A base (env :: outer) g → K.In g → Top p loose mean mg mb g → (∀ p ∈ news, p.1 < L') →
      wpAny (model prog w) (A.deeper (envOf qual scope L' f cdv)) (execs body (envOf qual scope L' f cdv))
        (fun fl s' => LeaveK h₀ L m g R (match fl with | .ret v => v | _ => .none) s')
        (fun e s' => wpAny (model prog w) (A.deeper (envOf qual scope L' f cdv)) (leaving (envOf qual scope L' f cdv) e) (fun _ s'' => R (.error e) s'') (fun e' s'' => R (.error e') s'') s')
        { s with heap := h₁, toks := s.toks + binds.length })
    (hco : scope.isCoroutine = false) (hgen : scope.isGenerator = false) (hk : scope.kind = .function)
    (hcell : ∀ x ∈ scope.names, x.2 ≠ .cell) : codeAny (model prog w) A (.call (.ref f) args) R s :=
  callX_plain (cl := []) B F N T.nolimit hA hf hke ((X₀.keeps F.keep) _ _ ho) rfl (codeRec_of (X₀.keeps F.keep) hcd) hroom hbind hloc (fun g L' h₁ FG F' N' B' st l => h g L' h₁ FG F' N' B' (X₀.keeps st) (T.keeps st) l) hcell hco hgen hk
end
end
section
open PySem PySem.W PySem.Spec PySem.Calls PyProof.Rows PySem.Builtin
section
variable {prog : Program} {w : World} {A : Around} {E : Value → Shared → Prop} {s : Shared} {h₀ : Heap} {env : Env} {m : Str → Option Value} {news : List (Addr × Obj)} {R : Result → Shared → Prop}

def TurnEnd (h₀ : Heap) (L : Addr) (s : Shared) (R : Result → Shared → Prop) (it : Addr) (oi : Obj) (J : (Str → Option Value) → List (Addr × Obj) → Prop) (f : Flow) (s' : Shared) : Prop := match f with
  | .next | .cont => ∃ m₂ news₂ h' tk', s' = { s with heap := h', toks := tk' } ∧ Fr h₀ L h' m₂ ∧ News h₀ L h' ((it, oi) :: news₂) ∧ (∀ q ∈ news₂, q.1 ≠ it) ∧ J m₂ news₂
  | .brk => R (.ok .next) s'
  | .ret v => R (.ok (.ret v)) s'
theorem TurnEnd.nextI {h₀ : Heap} {L : Addr} {s : Shared} {R : Result → Shared → Prop} {it : Addr} {oi : Obj} {J : (Str → Option Value) → List (Addr × Obj) → Prop} {m₂ : Str → Option Value} {news₂ : List (Addr × Obj)} {h' : Heap} {tk' : Nat}
    (F : Fr h₀ L h' m₂) (N : News h₀ L h' ((it, oi) :: news₂)) (hn : ∀ q ∈ news₂, q.1 ≠ it) (hj : J m₂ news₂) : TurnEnd h₀ L s R it oi J .next { s with heap := h', toks := tk' } := ⟨m₂, news₂, h', tk', rfl, F, N, hn, hj⟩

/-- the core: an iterator that hands out v₀, v₁, .. -/
theorem for_core {x : Str} {px : Pos} {body : List Stmt} {it : Addr} {n : Nat} {V : Nat → Value → Prop} {O : Nat → Obj → Prop} (J : Nat → (Str → Option Value) → List (Addr × Obj) → Prop)
    (item : ∀ k (s' : Shared) oi m₁ news₁ (Q : Option Value → Shared → Prop) (E' : Value → Shared → Prop), k < n → O k oi → J k m₁ news₁ → s'.heap.get? it = some oi → News h₀ env.locals s'.heap news₁ →
      (∀ v h' tk' oi', V k v → O (k + 1) oi' → h'.get? it = some oi' → Heap.ExtBut it s'.heap h' → Q (some v) { s' with heap := h', toks := tk' }) → wpAny (model prog w) A (pyNext (.ref it)) Q E' s')
    (last : ∀ (s' : Shared) oi m₁ news₁ (Q : Option Value → Shared → Prop) (E' : Value → Shared → Prop), O n oi → J n m₁ news₁ → s'.heap.get? it = some oi → News h₀ env.locals s'.heap news₁ →
      (∀ h' tk', Heap.ExtBut it s'.heap h' → Q none { s' with heap := h', toks := tk' }) → wpAny (model prog w) A (pyNext (.ref it)) Q E' s')
    {oi : Obj} (hO : O 0 oi) (F : Fr h₀ env.locals s.heap m) (N : News h₀ env.locals s.heap ((it, oi) :: news)) (hn : ∀ q ∈ news, q.1 ≠ it) (hj : J 0 m news)
    (turn : ∀ k v m₁ news₁ h tk oi (E' : Value → Shared → Prop), k < n → V k v → J k m₁ news₁ → (∀ q ∈ news₁, q.1 ≠ it) → Fr h₀ env.locals h (fun y => if y = x then some v else m₁ y) → News h₀ env.locals h ((it, oi) :: news₁) →
      wpAny (model prog w) A (execs body env) (TurnEnd h₀ env.locals s R it oi (J (k + 1))) E' { s with heap := h, toks := tk })
    (done : ∀ m₁ news₁ h tk, J n m₁ news₁ → Fr h₀ env.locals h m₁ → News h₀ env.locals h news₁ → R (.ok .next) { s with heap := h, toks := tk })
    (hx : env.kindOf x = some .local) (hp : (env.scope.kind == .class || (env.scope.kind == .module && env.locals != env.globals)) = false) :
    codeAny (model prog w) A (.forLoop (.Name x px) (.ref it) body [] env) R s := by
  refine codeAny_forLoop (fun n' s' => ∃ k m₁ news₁ h tk oi, n' + k = n ∧ s' = { s with heap := h, toks := tk } ∧ O k oi ∧ Fr h₀ env.locals h m₁ ∧ News h₀ env.locals h ((it, oi) :: news₁) ∧ (∀ q ∈ news₁, q.1 ≠ it) ∧ J k m₁ news₁) ?_ n
    ⟨0, m, news, s.heap, s.toks, oi, rfl, rfl, hO, F, N, hn, hj⟩
  rintro n' s' ⟨k, m₁, news₁, h, tk, oi, hk, rfl, hO₁, F₁, N₁, hn₁, hj₁⟩
  have hL : it ≠ env.locals := (N₁ _ (.head _)).2.1
  have h0 : h₀.get? it = none := (N₁ _ (.head _)).2.2
  have hget : h.get? it = some oi := (N₁ _ (.head _)).1
  have Nr : News h₀ env.locals h news₁ := fun q hq => N₁ q (.tail _ hq)
  have fr' : ∀ {h' : Heap}, Heap.ExtBut it h h' → Fr h₀ env.locals h' m₁ := fun hx => ⟨F₁.ns.at fun o e => hx _ o (Ne.symm hL) e, fun b o e => hx b o (fun q => by subst q; exact nomatch (h0.symm.trans e)) (F₁.keep b o e), F₁.above⟩
  have nw' : ∀ {h' : Heap}, Heap.ExtBut it h h' → News h₀ env.locals h' news₁ := fun hx q hq => ⟨hx _ _ (hn₁ q hq) (Nr q hq).1, (Nr q hq).2⟩
  by_cases hlt : k < n
  · refine item k _ oi m₁ news₁ _ _ hlt hO₁ hj₁ hget Nr fun v h' tk' oi' hV hO' hg' hx' => ?_
    dsimp only
    refine wpAny_assign_Name (wpAny_storeName_local hx (fr' hx').ns (fun h₂ hns hsb => ?_) hp)
    have F₂ : Fr h₀ env.locals h₂ (fun y => if y = x then some v else m₁ y) := (fr' hx').set hns hsb
    have N₂ : News h₀ env.locals h₂ ((it, oi') :: news₁) := fun q hq => by
      rcases List.mem_cons.mp hq with rfl | hq
      · exact ⟨(hsb.2 _ hL).trans hg', hL, h0⟩
      · exact ⟨(hsb.2 _ (nw' hx' q hq).2.1).trans (nw' hx' q hq).1, (nw' hx' q hq).2⟩
    refine wpAny_mono (turn k v m₁ news₁ h₂ _ oi' _ hlt hV hj₁ hn₁ F₂ N₂) (fun f s₃ hf => ?_) fun _ _ e => e
    cases f with
    | brk => exact hf
    | ret v => exact hf
    | next =>
      obtain ⟨m₂, news₂, h₃, tk₃, rfl, F₃, N₃, hn₃, hj₃⟩ := hf
      exact ⟨n' - 1, by omega, k + 1, m₂, news₂, h₃, tk₃, oi', by omega, rfl, hO', F₃, N₃, hn₃, hj₃⟩
    | cont =>
      obtain ⟨m₂, news₂, h₃, tk₃, rfl, F₃, N₃, hn₃, hj₃⟩ := hf
      exact ⟨n' - 1, by omega, k + 1, m₂, news₂, h₃, tk₃, oi', by omega, rfl, hO', F₃, N₃, hn₃, hj₃⟩
  · have : k = n := by omega
    subst this
    refine last _ oi m₁ news₁ _ _ hO₁ hj₁ hget Nr fun h' tk' hx' => ?_
    exact wpAny_execs_nil (done m₁ news₁ h' tk' hj₁ (fr' hx') (nw' hx'))

theorem for_list_K {x : Str} {px : Pos} {body : List Stmt} {l : Addr} {vs : List Value} (J : Nat → (Str → Option Value) → List (Addr × Obj) → Prop) (hh : A.handled = none)
    (hl : ∀ k m' news', J k m' news' → ∃ n', (l, listOf vs.toArray n') ∈ news')
    (F : Fr h₀ env.locals s.heap m) (N : News h₀ env.locals s.heap news) (hj : J 0 m news)
    (turn : ∀ k v m₁ news₁ h tk it oi (E' : Value → Shared → Prop), vs[k]? = some v → J k m₁ news₁ → (∀ q ∈ news₁, q.1 ≠ it) → Fr h₀ env.locals h (fun y => if y = x then some v else m₁ y) → News h₀ env.locals h ((it, oi) :: news₁) → (∀ q ∈ news, q.1 < it) →
      wpAny (model prog w) A (execs body env) (TurnEnd h₀ env.locals s R it oi (J (k + 1))) E' { s with heap := h, toks := tk })
    (done : ∀ m₁ news₁ h tk, J vs.length m₁ news₁ → Fr h₀ env.locals h m₁ → News h₀ env.locals h news₁ → R (.ok .next) { s with heap := h, toks := tk })
    (hx : env.kindOf x = some .local) (hp : (env.scope.kind == .class || (env.scope.kind == .module && env.locals != env.globals)) = false) :
    wpAny (model prog w) A (pyIter (.ref l)) (fun it s₂ => codeAny (model prog w) A (.forLoop (.Name x px) it body [] env) R s₂) E s := by
  obtain ⟨n0, hl0⟩ := hl 0 m news hj
  refine wpAny_pyIter_list (News.isList N hl0) ?_
  refine for_core (n := vs.length) (V := fun k v => vs[k]? = some v) (O := fun k o => o.cls = .type "list_iterator" ∧ o.data = .fields #[.ref l, .int k 0]) J ?_ ?_ (oi := { cls := .type "list_iterator", data := .fields #[.ref l, .int 0 0] }) ⟨rfl, rfl⟩ (F.push _)
    (News.push F N _) (fun q hq => Nat.ne_of_lt (Heap.lt_size (N q hq).1)) hj ?_ ?_ hx hp
  · intro k s' oi m₁ news₁ Q E' hk hO hj₁ hg Nr hQ
    obtain ⟨n1, hl1⟩ := hl k m₁ news₁ hj₁
    refine wpAny_pyNext_list_item (x := vs[k]) ⟨oi, hg, hO⟩ (News.isList Nr hl1) (by simp [hk]) fun h' hit hs => ?_
    obtain ⟨oi', hg', hc', hd'⟩ := hit
    exact hQ _ h' s'.toks oi' (by simp [hk]) ⟨hc', hd'⟩ hg' hs.extBut
  · intro s' oi m₁ news₁ Q E' hO hj₁ hg Nr hQ
    obtain ⟨n1, hl1⟩ := hl _ m₁ news₁ hj₁
    exact wpAny_pyNext_list_end hh ⟨oi, hg, hO⟩ (News.isList Nr hl1) (by simp) fun h' he => hQ h' s'.toks he
  · intro k v m₁ news₁ h tk oi E' hk hV hj₁ hn₁ F₁ N₁
    exact turn k v m₁ news₁ h tk _ oi E' hV hj₁ hn₁ F₁ N₁ fun q hq => Heap.lt_size (N q hq).1
  · intro m₁ news₁ h tk hj₁ F₁ N₁
    exact done m₁ news₁ h tk hj₁ F₁ N₁

theorem for_range_K {x : Str} {px : Pos} {body : List Stmt} {r : Addr} {a b c : Int} {t u v : Tok} (J : Nat → (Str → Option Value) → List (Addr × Obj) → Prop) (hh : A.handled = none)
    (hr : IsRange s.heap r a b c t u v) (hsmall : Builtin.Range.small a b c = true)
    (F : Fr h₀ env.locals s.heap m) (N : News h₀ env.locals s.heap news) (hj : J 0 m news)
    (turn : ∀ k tv m₁ news₁ h tk it oi (E' : Value → Shared → Prop), k < (Builtin.Range.rangeSize a b c).toNat → J k m₁ news₁ → (∀ q ∈ news₁, q.1 ≠ it) → Fr h₀ env.locals h (fun y => if y = x then some (.int (a + k * c) tv) else m₁ y) → News h₀ env.locals h ((it, oi) :: news₁) → (∀ q ∈ news, q.1 < it) →
      wpAny (model prog w) A (execs body env) (TurnEnd h₀ env.locals s R it oi (J (k + 1))) E' { s with heap := h, toks := tk })
    (done : ∀ m₁ news₁ h tk, J (Builtin.Range.rangeSize a b c).toNat m₁ news₁ → Fr h₀ env.locals h m₁ → News h₀ env.locals h news₁ → R (.ok .next) { s with heap := h, toks := tk })
    (hx : env.kindOf x = some .local) (hp : (env.scope.kind == .class || (env.scope.kind == .module && env.locals != env.globals)) = false) :
    wpAny (model prog w) A (pyIter (.ref r)) (fun it s₂ => codeAny (model prog w) A (.forLoop (.Name x px) it body [] env) R s₂) E s := by
  refine wpAny_pyIter_range hr hsmall ?_
  generalize hN : Builtin.Range.rangeSize a b c = z at *
  refine for_core (n := z.toNat) (V := fun k y => ∃ tv, y = .int (a + k * c) tv) (O := fun k o => o = { cls := .type "range_iterator", dict := none, data := .fields #[rawInt (a + k * c), rawInt (z - k), rawInt c], slots := #[] }) J ?_ ?_ (oi := { cls := .type "range_iterator", data := .fields #[rawInt a, rawInt z, rawInt c] }) ?_ (F.push _)
    (News.push F N _) (fun q hq => Nat.ne_of_lt (Heap.lt_size (N q hq).1)) hj ?_ ?_ hx hp
  · intro k s' oi m₁ news₁ Q E' hk hO hj₁ hg Nr hQ
    subst hO
    refine wpAny_pyNext_range_item hg (by omega) fun h' hit hs => ?_
    refine hQ _ h' _ _ ⟨_, rfl⟩ ?_ hit hs.extBut
    have e1 : a + ((k + 1 : Nat) : Int) * c = a + (k : Int) * c + c := by push_cast; rw [Int.add_mul, Int.one_mul, Int.add_assoc]
    have e2 : z - ((k + 1 : Nat) : Int) = z - (k : Int) - 1 := by push_cast; omega
    rw [e1, e2]
  · intro s' oi m₁ news₁ Q E' hO hj₁ hg Nr hQ
    subst hO
    exact wpAny_pyNext_range_end hh hg (by omega) fun h' he => hQ h' s'.toks he
  · simp
  · intro k y m₁ news₁ h tk oi E' hk hV hj₁ hn₁ F₁ N₁
    obtain ⟨tv, rfl⟩ := hV
    exact turn k tv m₁ news₁ h tk _ oi E' hk hj₁ hn₁ F₁ N₁ fun q hq => Heap.lt_size (N q hq).1
  · intro m₁ news₁ h tk hj₁ F₁ N₁
    exact done m₁ news₁ h tk hj₁ F₁ N₁
end
end
section
open PySem PySem.W PySem.Spec PySem.Calls PyProof.Rows
theorem lookup_ite {y x : Str} {v : Value} {l : List (Str × Value)} : List.lookup y ((x, v) :: l) = if y = x then some v else List.lookup y l := by
  rw [List.lookup_cons]
  by_cases h : y = x
  · subst h; simp
  · have : (y == x) = false := by simpa using h
    rw [this, if_neg h]
theorem ints_get {vs : List Value} {ns : List Int} (h : IntsAre vs ns) : ∀ {k : Nat} {v : Value}, vs[k]? = some v → ∃ c t, ns[k]? = some c ∧ v = .int c t := by
  induction h with
  | nil => intro k v hv; simp at hv
  | cons n t _ ih =>
    intro k v hv
    cases k with
    | zero => simp at hv; exact ⟨n, t, by simp, hv.symm⟩
    | succ k => simp at hv; obtain ⟨c, t', h1, h2⟩ := ih hv; exact ⟨c, t', by simpa using h1, h2⟩
theorem ints_len {vs : List Value} {ns : List Int} (h : IntsAre vs ns) : vs.length = ns.length := by
  induction h with
  | nil => rfl
  | cons n t _ ih => simp [ih]
section
variable {w : World} {K : Frag} {A₀ A : Around} {base h₀ : Heap} {L : Addr} {m : Str → Option Value} {s : Shared} {news : List (Addr × Obj)} {p : Program} {loose : List Str} {mean : ExcName → Option Value} {mg mb : Str → Option Value} {prog : Program}
theorem code_defM {env : Env} {outer : List Env} {R : Result → Shared → Prop} {name qual : Str} {params : Arguments} {body : List Stmt} {scope : Scope} {dV kV doc pm cdv ct oc : Value} {an od : Option Addr} {osl : Array (Option Value)} {f : Addr} {args : Args} {m0 : Str → Option Value} (binds : List (Str × Value))
    (B : Below A₀ base outer h₀) (F : Fr h₀ L s.heap m) (X₀ : K.In h₀) (N : News h₀ L s.heap news) (T : Top p loose mean mg mb h₀) (hA : A.frames = some (env :: outer)) (hf : env.frame = some L) (hke : env.scope.kind = .function)
    (ho : K.lookup f = some ⟨oc, od, .func (fnOf name qual params body scope dV kV doc pm an cdv ct), osl⟩) (hcd : codeIn K cdv qual = true) (hroom : A.depth < recursionLimit)
    (hbind : BindsTo s (fnOf name qual params body scope dV kV doc pm an cdv ct) args binds) (hloc : ∀ y ∈ binds, scope.names.lookup y.1 = some .local) (hm : (fun y => binds.reverse.lookup y) = m0)
    (h : ∀ g L' h₁ tk₁, Fr h₀ L g m → Fr g L' h₁ m0 → News g L' h₁ news → Below A base (env :: outer) g → K.In g → Top p loose mean mg mb g → (∀ p ∈ news, p.1 < L') →
      wpAny (model prog w) (A.deeper (envOf qual scope L' f cdv)) (execs body (envOf qual scope L' f cdv))
        (fun fl s' => LeaveK h₀ L m g R (match fl with | .ret v => v | _ => .none) s')
        (fun e s' => wpAny (model prog w) (A.deeper (envOf qual scope L' f cdv)) (leaving (envOf qual scope L' f cdv) e) (fun _ s'' => R (.error e) s'') (fun e' s'' => R (.error e') s'') s')
        { s with heap := h₁, toks := tk₁ })
    (hco : scope.isCoroutine = false) (hgen : scope.isGenerator = false) (hk : scope.kind = .function)
    (hcell : ∀ x ∈ scope.names, x.2 ≠ .cell) : codeAny (model prog w) A (.call (.ref f) args) R s := by
  subst hm
  exact code_defL B F X₀ N T hA hf hke ho hcd hroom hbind hloc (fun g L' h₁ a b c d e f l => h g L' h₁ _ a b c d e f l) hco hgen hk hcell
end
end
section
open PySem PySem.W PySem.Spec PySem.Calls PyProof.Rows
theorem mro_filter : mroOf (.type "filter") = pure [.type "filter", .type "object"] := by rw [mroOf_type]; kernel_rfl
theorem lookup_filter_new : typeLookup (.type "filter") "__new__" = pure (some (.builtin "filter.__new__")) := by rw [typeLookup_type, builtinLookup_eq_fast]; kernel_rfl
theorem owner_filter : Manifest.owners.lookup (String.ofList ['r', 'e', 't', 'l', 'i', 'f'].reverse) = some Manifest.sig_filter := by kernel_rfl
theorem slot_filter_init : Slot "filter" "__init__" "object.__init__" :=
  .of (owner := "object") (n := "__init__") (by rw [typeLookup_type, builtinLookup_eq_fast]; kernel_rfl) (by decide +kernel) (by decide +kernel) (by decide +kernel)
    (by first | exact .inl (by decide +kernel) | exact .inr (by decide +kernel)) (by rw [isSubtype_type]; kernel_rfl)
theorem slot_filter_next : Slot "filter" "__next__" "filter.__next__" :=
  .of (owner := "filter") (n := "__next__") (by rw [typeLookup_type, builtinLookup_eq_fast]; kernel_rfl) (by decide +kernel) (by decide +kernel) (by decide +kernel)
    (by first | exact .inl (by decide +kernel) | exact .inr (by decide +kernel)) (by rw [isSubtype_type]; kernel_rfl)
theorem slot_filter_iter : Slot "filter" "__iter__" "filter.__iter__" :=
  .of (owner := "filter") (n := "__iter__") (by rw [typeLookup_type, builtinLookup_eq_fast]; kernel_rfl) (by decide +kernel) (by decide +kernel) (by decide +kernel)
    (by first | exact .inl (by decide +kernel) | exact .inr (by decide +kernel)) (by rw [isSubtype_type]; kernel_rfl)
theorem entry_filter_new : entryFor table "filter.__new__" = some Builtin.«filter.__new__» := entryFor_of_tree (by kernel_rfl)
theorem entry_filter_next : entryFor table "filter.__next__" = some Builtin.«filter.__next__» := entryFor_of_tree (by kernel_rfl)
theorem entry_filter_iter : entryFor table "filter.__iter__" = some Builtin.«dict_keyiterator.__iter__» :=
  entryFor_alias (id' := "dict_keyiterator.__iter__") (by kernel_rfl) (by first | rfl | decide +kernel | (unfold String.splitOn; simp +decide [String.splitOnAux])) (by decide +kernel) (by kernel_rfl)
theorem args_filter_next_1 (a : Value) : argsOk "filter.__next__" ⟨[a], []⟩ := by
  unfold argsOk; rw [signature?_of (id := "filter.__next__") (n := ['_', '_', 't', 'x', 'e', 'n', '_', '_']) (o := ['r', 'e', 't', 'l', 'i', 'f']) (by kernel_rfl) owner_filter]; kernel_rfl
theorem args_filter_iter_1 (a : Value) : argsOk "filter.__iter__" ⟨[a], []⟩ := by
  unfold argsOk; rw [signature?_of (id := "filter.__iter__") (n := ['_', '_', 'r', 'e', 't', 'i', '_', '_']) (o := ['r', 'e', 't', 'l', 'i', 'f']) (by kernel_rfl) owner_filter]; kernel_rfl
theorem called_filter : TypeCalled "filter" "filter.__new__" "object.__init__" :=
  ⟨by decide +kernel, by decide +kernel, ⟨_, _, mro_filter⟩, madeBy_type mro_filter lookup_filter_new (by decide +kernel), by decide +kernel, by rw [isSubtype_type]; kernel_rfl, slot_filter_init⟩
theorem typeCall_filter_2 (a b : Value) : checkTypeCall "filter" ⟨[a, b], []⟩ = pure () := by kernel_rfl
theorem newCall_filter_2 (a b : Value) : checkBuiltinCall "filter.__new__" ⟨[.type "filter", a, b], []⟩ = pure () := by kernel_rfl
theorem newClass_filter (a b : Value) : Builtin.SmallTypes.newClass "filter" ⟨[.type "filter", a, b], []⟩ = pure (.type "filter", [a, b]) := by
  unfold Builtin.SmallTypes.newClass
  have h : isSubtype (.type "filter") (.type "filter") = pure true := by rw [isSubtype_type]; kernel_rfl
  simp only [isType, h, pure_bind, Bool.not_true, Bool.false_eq_true, if_false]
def filtObj (it : Addr) : Obj := { cls := .type "filter", data := .fields #[.none, .ref it] }
def vitObj (d : Addr) (n ep : Nat) : Obj := { cls := .type "dict_valueiterator", data := .fields #[.ref d, .int 0 0, .int n 0, .int ep 0] }
section
variable {prog : Program} {w : World} {K : Type} [DecidableEq K] {knd : KeyKind prog w K} {A : Around} {E : Value → Shared → Prop} {s : Shared}
theorem filter_new_in (v d : Addr) (kvs : List (K × Value)) (ep : Nat) : MeetsIn prog w (Builtin.«filter.__new__» ⟨[.type "filter", .none, .ref v], []⟩)
    (fun _ R s => s.heap.IsValuesView v d ∧ s.heap.DictAt knd d kvs ep ∧ R (.ok (.ret (.ref (s.heap.push (vitObj d kvs.length ep)).objs.size))) { s with heap := (s.heap.push (vitObj d kvs.length ep)).push (filtObj s.heap.objs.size) }) :=
  .of_wp fun A R s ⟨hv, hd, h⟩ => by
    unfold Builtin.«filter.__new__»
    refine wpAny_bind (wpAny_of_eq (newClass_filter _ _) ?_)
    try dsimp only
    refine wpAny_bind (wpAny_of_eq (a := ()) (by first | rfl | kernel_rfl) ?_)
    refine wpAny_bind (wpAny_of_eq (a := ()) (by first | rfl | kernel_rfl) ?_)
    try dsimp only
    refine wpAny_bind (wpAny_pyIter_values hv hd ?_)
    refine wpAny_bind ?_
    show wpAny _ _ (newObj (.type "filter") (.fields #[.none, .ref s.heap.objs.size])) _ _ _
    exact wpAny_newObj_type (wpAny_pure ⟨_, rfl, h⟩)
theorem call_filter_values {v d : Addr} {kvs : List (K × Value)} {ep : Nat} {Q : Value → Shared → Prop} (hv : s.heap.IsValuesView v d) (hd : s.heap.DictAt knd d kvs ep)
    (h : Q (.ref (s.heap.push (vitObj d kvs.length ep)).objs.size) { s with heap := (s.heap.push (vitObj d kvs.length ep)).push (filtObj s.heap.objs.size) }) :
    wpAny (model prog w) A (call (.type "filter") [.none, .ref v]) Q E s :=
  callType_newIn called_filter (by decide) (typeCall_filter_2 _ _) (newCall_filter_2 _ _) (fun obj => F.args_object_init_3 obj _ _) entry_filter_new
    (filter_new_in (knd := knd) v d kvs ep) ⟨hv, hd, ⟨_, Heap.get?_push_size _ rfl, rfl⟩, h⟩
end
end
section
open PySem PySem.W PySem.Spec PySem.Calls PyProof.Rows
section
variable {prog : Program} {w : World} {K : Type} [DecidableEq K] {knd : KeyKind prog w K} {A : Around} {E : Value → Shared → Prop} {s : Shared}
theorem vit_item {it d : Addr} {i ep : Nat} {kvs : List (K × Value)} {k : K} {v : Value} {Q : Option Value → Shared → Prop} (hit : s.heap.IsValIter it d i kvs.length ep)
    (hm : s.heap.DictAt knd d kvs ep) (hx : kvs[i]? = some (k, v))
    (hQ : ∀ h', h'.IsValIter it d (i + 1) kvs.length ep → Heap.SameBut it s.heap h' → Q (some v) { s with heap := h' }) :
    wpAny (model prog w) A (callSpecial? (.ref it) (Str.ofString "__next__")) Q E s := by
  obtain ⟨o, ho, hc, hd⟩ := id hit
  obtain ⟨od, es, hod, hcd, hdd, hk, hp, hn⟩ := id hm
  have hsz : es.size = kvs.length := by rw [← hp.length]; simp
  have hown : Builtin.Dict_items.ownsTuple "dict_valueiterator" = false := by decide
  have hlt : i < kvs.length := by
    rcases Nat.lt_or_ge i kvs.length with h | h
    · exact h
    · simp [List.getElem?_eq_none h] at hx
  have hlt' : i < es.size := by rw [hsz]; exact hlt
  have hval : es[i].val = v := (hp.get? (e := es[i]) (by simp [hlt']) hx).2
  refine wpAny_callSpecial?_slot (name := Str.ofString "__next__") hit.typeIs F.slot_dict_valueiterator_next
    (wpAny_call_entry F.slot_dict_valueiterator_next hit.typeIs F.entry_dict_valueiterator_next ?_ (F.args_dict_valueiterator_next_1 _))
  refine wpAny_bind (wpAny_pure (wpAny_bind (wpAny_bind ?_)))
  first | refine wpAny_bind (wpAny_typeNameOfWhole_valiter hit.typeIs (wpAny_pure ?_)) | refine wpAny_bind (wpAny_typeNameOf_valiter hit.typeIs (wpAny_pure ?_))
  refine wpAny_bind (wpAny_fieldsOf ho hd ?_)
  simp only [hown, Bool.false_eq_true, if_false]
  show wpAny _ _ (if (Value.ref d == Value.none) = true then _ else _) _ _ s
  rw [if_neg (show ¬ ((Value.ref d == Value.none) = true) from Bool.false_ne_true)]
  refine wpAny_bind (wpAny_pure (wpAny_bind (wpAny_dictEntries hod hdd ?_)))
  rw [if_neg (by rw [hsz]; simp)]
  refine wpAny_bind (wpAny_pure (wpAny_bind (wpAny_dictEpoch hod hdd ?_)))
  rw [if_neg (by simp)]
  refine wpAny_pure ?_
  simp only [show ¬ ((i : Int) < 0) from by omega, if_false, Int.toNat_natCast, Array.getElem?_eq_getElem hlt']
  refine wpAny_bind ?_
  first | refine wpAny_bind (wpAny_typeNameOfWhole_valiter hit.typeIs (wpAny_pure ?_)) | refine wpAny_bind (wpAny_typeNameOf_valiter hit.typeIs (wpAny_pure ?_))
  refine wpAny_bind (wpAny_isOneOf_valiter hit.typeIs ?_)
  show wpAny _ _ (setField (.ref it) 1 (rawInt ((i : Int) + 1)) >>= _) _ _ s
  refine wpAny_bind (wpAny_setField ho hd (by simp) ?_)
  have hit' : (s.heap.update it (Obj.mapFields (·.setIfInBounds 1 (rawInt ((i : Int) + 1))))).IsValIter it d (i + 1) kvs.length ep :=
    ⟨_, Heap.get?_update_self _ ho (Obj.isFreed_of_fields (Obj.data_mapFields hd _)), (Obj.cls_mapFields ..).trans hc, by rw [Obj.data_mapFields hd]; simp [rawInt]⟩
  refine wpAny_bind (wpAny_holding ?_)
  refine wpAny_bind (wpAny_isOneOf_valiter (s := { s with heap := s.heap.update it (Obj.mapFields (·.setIfInBounds 1 (rawInt ((i : Int) + 1)))) }) hit'.typeIs ?_)
  refine wpAny_bind (wpAny_isOneOf_valiter (s := { s with heap := s.heap.update it (Obj.mapFields (·.setIfInBounds 1 (rawInt ((i : Int) + 1)))) }) hit'.typeIs ?_)
  show wpAny _ _ (pure es[i].val) _ _ _
  exact wpAny_pure (wpAny_pure ⟨_, rfl, hval ▸ hQ _ hit' (Heap.SameBut.update ..)⟩)
theorem vit_end {it d : Addr} {i ep : Nat} {kvs : List (K × Value)} {Q : Option Value → Shared → Prop} (hh : A.handled = none) (hit : s.heap.IsValIter it d i kvs.length ep)
    (hm : s.heap.DictAt knd d kvs ep) (hx : kvs[i]? = none)
    (hQ : ∀ h' x, Heap.ExtBut it s.heap h' → (∃ ox, h'.get? x = some ox ∧ ox.cls = .type "StopIteration") → E (.ref x) { s with heap := h' }) : wpAny (model prog w) A (callSpecial? (.ref it) (Str.ofString "__next__")) Q E s := by
  obtain ⟨o, ho, hc, hd⟩ := id hit
  obtain ⟨od, es, hod, hcd, hdd, hk, hp, hn⟩ := id hm
  have hsz : es.size = kvs.length := by rw [← hp.length]; simp
  have hown : Builtin.Dict_items.ownsTuple "dict_valueiterator" = false := by decide
  have hge : es.size ≤ i := by rw [hsz]; simpa using hx
  refine wpAny_callSpecial?_slot (name := Str.ofString "__next__") hit.typeIs F.slot_dict_valueiterator_next
    (wpAny_call_entry F.slot_dict_valueiterator_next hit.typeIs F.entry_dict_valueiterator_next ?_ (F.args_dict_valueiterator_next_1 _))
  refine wpAny_bind (wpAny_pure (wpAny_bind (wpAny_bind ?_)))
  first | refine wpAny_bind (wpAny_typeNameOfWhole_valiter hit.typeIs (wpAny_pure ?_)) | refine wpAny_bind (wpAny_typeNameOf_valiter hit.typeIs (wpAny_pure ?_))
  refine wpAny_bind (wpAny_fieldsOf ho hd ?_)
  simp only [hown, Bool.false_eq_true, if_false]
  show wpAny _ _ (if (Value.ref d == Value.none) = true then _ else _) _ _ s
  rw [if_neg (show ¬ ((Value.ref d == Value.none) = true) from Bool.false_ne_true)]
  refine wpAny_bind (wpAny_pure (wpAny_bind (wpAny_dictEntries hod hdd ?_)))
  rw [if_neg (by rw [hsz]; simp)]
  refine wpAny_bind (wpAny_pure (wpAny_bind (wpAny_dictEpoch hod hdd ?_)))
  rw [if_neg (by simp)]
  refine wpAny_pure ?_
  simp only [show ¬ ((i : Int) < 0) from by omega, if_false, Int.toNat_natCast, Array.getElem?_eq_none hge]
  refine wpAny_bind ?_
  first | refine wpAny_bind (wpAny_typeNameOfWhole_valiter hit.typeIs (wpAny_pure ?_)) | refine wpAny_bind (wpAny_typeNameOf_valiter hit.typeIs (wpAny_pure ?_))
  show wpAny _ _ (setField (.ref it) 0 .none >>= _) _ _ s
  refine wpAny_bind (wpAny_setField ho hd (by simp) ?_)
  show wpAny _ _ (newExc (.type "StopIteration") [] >>= _) _ _ _
  refine wpAny_bind ?_
  simp only [newExc, newTuple]
  refine wpAny_bind (wpAny_newObj_type ?_ (by size_fits))
  refine wpAny_bind (m := firstArgMember _ _) (wpAny_of_eq (a := Value.none) (by first | rfl | (simp only [firstArgMember]; rfl)) ?_)
  refine wpAny_newObj_type ?_ (by size_fits)
  simp only [raiseNew]
  refine wpAny_bind (wpAny_handled ?_)
  rw [show A.in1.handled = none from hh]
  exact wpAny_bind (wpAny_pure (wpAny_throw (hQ _ _ (((Heap.SameBut.update ..).extBut.push _).push _) ⟨_, Heap.get?_push_size _ rfl, rfl⟩)))
/-- the filter's own turn over a dict's values, all of them true -/
theorem filter_item {fo it d : Addr} {i ep : Nat} {kvs : List (K × Value)} {k : K} {n : Int} {t : Tok} {Q : Option Value → Shared → Prop} (hf : s.heap.get? fo = some (filtObj it)) (hne : fo ≠ it) (hit : s.heap.IsValIter it d i kvs.length ep)
    (hm : s.heap.DictAt knd d kvs ep) (hx : kvs[i]? = some (k, .int n t)) (hn : n ≠ 0)
    (hQ : ∀ h', h'.IsValIter it d (i + 1) kvs.length ep → Heap.SameBut it s.heap h' → Q (some (.int n t)) { s with heap := h' }) :
    wpAny (model prog w) A (pyNext (.ref fo)) Q E s := by
  have hT : s.TypeIs (.ref fo) "filter" := ⟨_, hf, rfl⟩
  unfold pyNext
  refine wpAny_bind (wpAny_attempt (wpAny_callSpecial?_slot (name := Str.ofString "__next__") hT slot_filter_next
    (wpAny_call_entry slot_filter_next hT entry_filter_next ?_ (args_filter_next_1 _))))
  unfold Builtin.«filter.__next__»
  refine wpAny_bind (wpAny_of_eq (a := (Value.ref fo, [])) rfl ?_)
  try dsimp only
  refine wpAny_bind (wpAny_field hf rfl (x := .none) rfl ?_)
  refine wpAny_bind (wpAny_field hf rfl (x := .ref it) rfl ?_)
  refine wpAny_bind (vit_item hit hm hx fun h' hit' hs => ?_)
  try dsimp only
  refine wpAny_bind (wpAny_holding ?_)
  rw [if_pos (by rfl)]
  refine wpAny_bind (wpAny_rule ?_)
  refine P.truthy_int ?_
  rw [if_pos (by simpa using hn)]
  exact wpAny_pure ⟨_, rfl, wpAny_pure (hQ h' hit' hs)⟩
theorem filter_end {fo it d : Addr} {i ep : Nat} {kvs : List (K × Value)} {Q : Option Value → Shared → Prop} (hh : A.handled = none) (hf : s.heap.get? fo = some (filtObj it)) (hit : s.heap.IsValIter it d i kvs.length ep)
    (hm : s.heap.DictAt knd d kvs ep) (hx : kvs[i]? = none)
    (hQ : ∀ h', Heap.ExtBut it s.heap h' → Q none { s with heap := h' }) :
    wpAny (model prog w) A (pyNext (.ref fo)) Q E s := by
  have hT : s.TypeIs (.ref fo) "filter" := ⟨_, hf, rfl⟩
  unfold pyNext
  refine wpAny_bind (wpAny_attempt (wpAny_callSpecial?_slot (name := Str.ofString "__next__") hT slot_filter_next
    (wpAny_call_entry slot_filter_next hT entry_filter_next ?_ (args_filter_next_1 _))))
  unfold Builtin.«filter.__next__»
  refine wpAny_bind (wpAny_of_eq (a := (Value.ref fo, [])) rfl ?_)
  try dsimp only
  refine wpAny_bind (wpAny_field hf rfl (x := .none) rfl ?_)
  refine wpAny_bind (wpAny_field hf rfl (x := .ref it) rfl ?_)
  refine wpAny_bind (vit_end hh hit hm hx fun h' x hs hox => ?_)
  obtain ⟨ox, hox, hcx⟩ := hox
  refine wpAny_bind (wpAny_isInstance (T := "StopIteration") (b := true) ⟨_, hox, hcx⟩ isSubtype_stop ?_)
  exact wpAny_pure (hQ _ hs)
theorem filter_iter {fo it : Addr} {Q : Value → Shared → Prop} (hf : s.heap.get? fo = some (filtObj it)) (h : Q (.ref fo) s) : wpAny (model prog w) A (pyIter (.ref fo)) Q E s := by
  have hT : s.TypeIs (.ref fo) "filter" := ⟨_, hf, rfl⟩
  refine wpAny_pyIter_slot hT slot_filter_iter (wpAny_call_entry slot_filter_iter hT entry_filter_iter ?_ (args_filter_iter_1 _))
  show wpAny _ _ (ret (.ref fo)) _ _ s
  exact wpAny_pure ⟨_, rfl, "filter", _, hT, slot_filter_next.lookup, h⟩
theorem filter_walks (hh : A.handled = none) (fo it d : Addr) (h1 : fo ≠ it) (h2 : d ≠ it) (kvs : List (K × Value)) (ep : Nat) (hv : ∀ (i : Nat) (k : K) (v : Value), kvs[i]? = some (k, v) → ∃ n t, v = Value.int n t ∧ n ≠ 0) :
    Walks prog w A fo [fo, it, d] [it] kvs.length (fun i v => ∃ k, kvs[i]? = some (k, v))
      (fun i h => h.get? fo = some (filtObj it) ∧ h.IsValIter it d i kvs.length ep ∧ h.DictAt knd d kvs ep) where
  sub := by simp
  frame := fun i h h' ⟨a, b, c⟩ hk => by
    refine ⟨hk fo (by simp) _ a, ?_, ?_⟩
    · obtain ⟨o, ho, r⟩ := b; exact ⟨o, hk it (by simp) _ ho, r⟩
    · obtain ⟨o, es, ho, r⟩ := c; exact ⟨o, es, hk d (by simp) _ ho, r⟩
  item := fun i s Q E hi ⟨a, b, c⟩ hQ => by
    obtain ⟨⟨k, v⟩, hx⟩ : ∃ p, kvs[i]? = some p := ⟨_, List.getElem?_eq_getElem hi⟩
    obtain ⟨n, t, rfl, hn⟩ := hv i k v hx
    refine filter_item a h1 b c hx hn fun h' hit' hs => ?_
    have hk : ∀ b o, b ∉ [it] → s.heap.get? b = some o → h'.get? b = some o := fun b o hb e => hs.extBut b o (by simpa using hb) e
    refine hQ _ h' s.toks ⟨k, hx⟩ ⟨hk fo _ (by simpa using h1) a, hit', ?_⟩ hk
    obtain ⟨o, es, ho, r⟩ := c
    exact ⟨o, es, hk d _ (by simpa using h2) ho, r⟩
  done := fun s Q E ⟨a, b, c⟩ hQ => filter_end hh a b c (by simp) fun h' hs => hQ h' s.toks fun b o hb e => hs b o (by simpa using hb) e
  self := fun i s Q E ⟨a, _, _⟩ hQ => filter_iter a hQ
end
end
section
open PySem PySem.W PySem.Spec PySem.Calls PyProof.Rows
def maxUp (val : Nat → Int) : Nat → Int
  | 0 => val 0
  | j + 1 => if val (j + 1) > maxUp val j then val (j + 1) else maxUp val j
section
variable {prog : Program} {w : World} {A : Around} {E : Value → Shared → Prop} {R : Result → Shared → Prop} {I : Addr} {fp wr : List Addr} {n : Nat} {P : Nat → Value → Prop} {St : Nat → Heap → Prop}
theorem gt_ints {a b : Int} {t u : Tok} {s : Shared} {Q : Value → Shared → Prop} (h : Q (.bool (decide (a > b))) s) : wpAny (model prog w) A (richCompare .Gt (.int a t) (.int b u)) Q E s :=
  CmpOf.ints_gt (P := fun i v => v = if i = 0 then .int a t else .int b u) (val := fun i => if i = 0 then a else b) (fun i v hv => by subst hv; by_cases h0 : i = 0 <;> simp [h0]) 0 1 _ _ s Q E rfl rfl h
theorem max_loop_kw {dn : Str} {dv : Value} {val : Nat → Int} (W : Walks prog w A.in1 I fp wr n P St) (hval : ∀ i v, P i v → ∃ t, v = .int (val i) t) (S : Addr) (hSf : S ∉ fp) :
    ∀ (k j : Nat) (s : Shared) (tb : Tok) (c : Nat), n - (j + 1) = k → j + 1 ≤ n → St (j + 1) s.heap →
    s.heap.get? S = some { cls := .type "list", dict := none, data := .seq #[.int (maxUp val j) tb, .int (maxUp val j) tb] c, slots := #[] } →
    (∀ t' h' tk, (∀ b o, b ∉ wr → b ≠ S → s.heap.get? b = some o → h'.get? b = some o) → R (.ok (.ret (.int (maxUp val (n - 1)) t'))) { s with heap := h', toks := tk }) →
    codeAny (model prog w) A (.builtin "max.loop" ⟨[.ref I, .none, .ref S], [(dn, dv)]⟩) R s := by
  have hSw : S ∉ wr := fun h => hSf (W.sub _ h)
  have hname : (toString "max" ++ toString ".loop" : String) = "max.loop" := by decide
  intro k
  induction k with
  | zero =>
    intro j s tb c hk hj hst hS hR
    have hin : j + 1 = n := by omega
    refine codeAny_builtin F.entry_max_loop ?_
    rw [Around.under_plainId F.plain_max_loop _]
    show wpAny _ A.in1 (seqItems? (.ref S) >>= _) _ _ s
    refine wpAny_bind (wpAny_seqItems hS rfl ?_)
    show wpAny _ A.in1 (tryCatch (pyNext (.ref I)) _ >>= _) _ _ s
    refine wpAny_bind (wpAny_tryCatch (W.done s _ _ (hin ▸ hst) fun h' tk hk' => ?_))
    show wpAny _ A.in1 (updateSeq S (fun _ => #[]) >>= _) _ _ _
    refine wpAny_bind (wpAny_updateSeq (hk' S _ hSw hS) rfl (wpAny_bind (wpAny_letGo (wpAny_pure ?_))))
    rw [show n - 1 = j by omega] at hR
    exact hR tb _ tk fun b o hbw hbS e => (Heap.get?_update_other _ _ (Ne.symm hbS)).trans (hk' b o hbw e)
  | succ k ih =>
    intro j s tb c hk hj hst hS hR
    have hlt : j + 1 < n := by omega
    refine codeAny_builtin F.entry_max_loop ?_
    rw [Around.under_plainId F.plain_max_loop _]
    show wpAny _ A.in1 (seqItems? (.ref S) >>= _) _ _ s
    refine wpAny_bind (wpAny_seqItems hS rfl ?_)
    show wpAny _ A.in1 (tryCatch (pyNext (.ref I)) _ >>= _) _ _ s
    refine wpAny_bind (wpAny_tryCatch (W.item (j + 1) s _ _ hlt hst fun v h' tk hP hst' hk' => ?_))
    obtain ⟨tv, rfl⟩ := hval _ _ hP
    have hS' := hk' S _ hSw hS
    show wpAny _ A.in1 (tryCatch (holding [.int (val (j + 1)) tv, .int (val (j + 1)) tv] (richCompare .Gt (.int (val (j + 1)) tv) (.int (maxUp val j) tb) >>= _)) _ >>= _) _ _ _
    refine wpAny_bind (wpAny_tryCatch (wpAny_holding (wpAny_bind (gt_ints ?_))))
    refine wpAny_bind (wpAny_holding (wpAny_truthy_bool (wpAny_bind (wpAny_letGo (wpAny_pure ?_)))))
    by_cases hb : val (j + 1) > maxUp val j
    · have em : maxUp val (j + 1) = val (j + 1) := by simp only [maxUp, if_pos hb]
      simp only [decide_eq_true hb, if_true]
      refine wpAny_bind (wpAny_updateSeq hS' rfl (wpAny_bind (wpAny_letGo ?_)))
      rw [hname]
      refine wpAny_pure ⟨plainId_quiet F.plain_max_loop _, ih (j + 1) _ tv _ (by omega) hlt (W.frame _ _ _ hst' fun b hbf o e => ?_) (by rw [em]; exact Heap.get?_update_self _ hS' rfl) fun t' h'' tk'' hk'' => ?_⟩
      · exact (Heap.get?_update_other _ _ (fun h : S = b => hSf (by rw [h]; exact hbf))).trans e
      · exact hR t' h'' tk'' fun b o hbw hbS e => hk'' b o hbw hbS ((Heap.get?_update_other _ _ (Ne.symm hbS)).trans (hk' b o hbw e))
    · have em : maxUp val (j + 1) = maxUp val j := by simp only [maxUp, if_neg hb]
      simp only [decide_eq_false hb, Bool.false_eq_true, if_false]
      refine wpAny_bind (wpAny_letGo ?_)
      rw [hname]
      refine wpAny_pure ⟨plainId_quiet F.plain_max_loop _, ih (j + 1) _ tb c (by omega) hlt hst' (by rw [em]; exact hS') fun t' h'' tk'' hk'' => ?_⟩
      exact hR t' h'' tk'' fun b o hbw hbS e => hk'' b o hbw hbS (hk' b o hbw e)
theorem max_first_kw {dn : Str} {dv : Value} {val : Nat → Int} (W : Walks prog w A.in1 I fp wr n P St) (hval : ∀ i v, P i v → ∃ t, v = .int (val i) t) (S : Addr) (hSf : S ∉ fp) (hn : 0 < n) {s : Shared} {c : Nat} (hst : St 0 s.heap)
    (hS : s.heap.get? S = some { cls := .type "list", dict := none, data := .seq #[] c, slots := #[] })
    (hR : ∀ t' h' tk, (∀ b o, b ∉ wr → b ≠ S → s.heap.get? b = some o → h'.get? b = some o) → R (.ok (.ret (.int (maxUp val (n - 1)) t'))) { s with heap := h', toks := tk }) :
    codeAny (model prog w) A (.builtin "max.loop" ⟨[.ref I, .none, .ref S], [(dn, dv)]⟩) R s := by
  have hSw : S ∉ wr := fun h => hSf (W.sub _ h)
  have hname : (toString "max" ++ toString ".loop" : String) = "max.loop" := by decide
  refine codeAny_builtin F.entry_max_loop ?_
  rw [Around.under_plainId F.plain_max_loop _]
  show wpAny _ A.in1 (seqItems? (.ref S) >>= _) _ _ s
  refine wpAny_bind (wpAny_seqItems hS rfl ?_)
  show wpAny _ A.in1 (tryCatch (pyNext (.ref I)) _ >>= _) _ _ s
  refine wpAny_bind (wpAny_tryCatch (W.item 0 s _ _ hn hst fun v h' tk hP hst' hk' => ?_))
  obtain ⟨tv, rfl⟩ := hval _ _ hP
  have hS' := hk' S _ hSw hS
  show wpAny _ A.in1 (updateSeq S (fun _ => #[.int (val 0) tv, .int (val 0) tv]) >>= _) _ _ _
  refine wpAny_bind (wpAny_updateSeq hS' rfl ?_)
  rw [hname]
  refine wpAny_pure ⟨plainId_quiet F.plain_max_loop _, max_loop_kw W hval S hSf _ 0 _ tv _ rfl hn (W.frame _ _ _ hst' fun b hbf o e => ?_) (Heap.get?_update_self _ hS' rfl) fun t' h'' tk'' hk'' => ?_⟩
  · exact (Heap.get?_update_other _ _ (fun h : S = b => hSf (by rw [h]; exact hbf))).trans e
  · exact hR t' h'' tk'' fun b o hbw hbS e => hk'' b o hbw hbS ((Heap.get?_update_other _ _ (Ne.symm hbS)).trans (hk' b o hbw e))
theorem args_max_kw (a d : Value) : argsOk "max" ⟨[a], [(Str.ofString "default", d)]⟩ := by unfold argsOk; kernel_rfl
theorem call_function_tree_kw {id : String} {b : Builtin} {args : List Value} {kw : List (Str × Value)} {Q : Value → Shared → Prop} {s : Shared} (hk : builtinKind id = none) (hp : plainId id = true)
    (hb : entryFor table id = some b) (ha : argsOk id ⟨args, kw⟩)
    (hc : wpAny (model prog w) A.in1 (b ⟨args, kw⟩) (fun fin s' => match fin with
      | .done f => (match (Except.ok f : Result) with | .ok (.ret v) => Q v s' | .ok _ => False | .error e => E e s')
      | .again c' => c'.quiet = true ∧ codeAny (model prog w) A c' (fun r s' => match r with | .ok (.ret v) => Q v s' | .ok _ => False | .error e => E e s') s') E s) :
    wpAny (model prog w) A (call (.builtin id) args kw) Q E s := by
  refine wpAny_call (codeAny_call_builtin hp hb ?_)
  simp only [checkBuiltinCall, hk]
  cases hsig : Manifest.signature? id with
  | none => exact wpAny_pure hc
  | some sig =>
    have ha' : Bind.checkArgs id sig ⟨args, kw⟩ = pure () := by simpa only [argsOk, hsig] using ha
    simp only [ha']
    exact wpAny_pure hc
theorem call_max_default {x dv : Value} {Q : Value → Shared → Prop} {s : Shared}
    (h : wpAny (model prog w) A.in1 (pyIter x) (fun it s₂ => ∃ I fp wr n P St val, it = .ref I ∧ Walks prog w A.in1 I fp wr n P St ∧ St 0 s₂.heap ∧ (∀ b ∈ fp, b < s₂.heap.objs.size) ∧ 0 < n ∧ (∀ i v, P i v → ∃ t, v = .int (val i) t) ∧
      ∀ t' h' tk, (∀ b o, b ∉ wr → s₂.heap.get? b = some o → h'.get? b = some o) → Q (.int (maxUp val (n - 1)) t') { s₂ with heap := h', toks := tk }) E s) :
    wpAny (model prog w) A (call (.builtin "max") [x] [(Str.ofString "default", dv)]) Q E s := by
  have hname : (toString "max" ++ toString ".loop" : String) = "max.loop" := by decide
  refine call_function_tree_kw F.kind_max F.plain_max F.entry_max (args_max_kw _ _) ?_
  show wpAny _ A.in1 (Builtin.Builtins.bindParams "max" ["key", "default"] 0 ⟨[], [(Str.ofString "default", dv)]⟩ >>= _) _ _ s
  refine wpAny_bind (wpAny_of_eq (show Builtin.Builtins.bindParams "max" ["key", "default"] 0 ⟨[], [(Str.ofString "default", dv)]⟩ = pure [none, some dv] from rfl) ?_)
  refine wpAny_bind (wpAny_pure ?_)
  refine wpAny_bind (wpAny_mono h (fun it s₂ h₂ => ?_) fun _ _ e => e)
  obtain ⟨I, fp, wr, n, P, St, val, rfl, W, hst, hfp, hn, hval, hQ⟩ := h₂
  refine wpAny_bind (wpAny_newObj_type ?_)
  have hSf : s₂.heap.objs.size ∉ fp := fun hm => Nat.lt_irrefl _ (hfp _ hm)
  rw [hname]
  refine wpAny_pure ⟨plainId_quiet F.plain_max_loop _, max_first_kw W hval s₂.heap.objs.size hSf hn (W.frame 0 _ _ hst fun b _ o e => Heap.get?_push_of_some _ e) (Heap.get?_push_size _ rfl) fun t' h' tk hk => ?_⟩
  exact hQ t' h' tk fun b o hb e => hk b o hb (Nat.ne_of_lt (Heap.lt_size e)) (Heap.get?_push_of_some _ e)
section
variable {K : Type} [DecidableEq K] {knd : KeyKind prog w K} {s : Shared} {h₀ : Heap} {L d v : Addr} {m : Str → Option Value} {news : List (Addr × Obj)} {o : Obj} {kvs : List (K × Value)} {Q : Value → Shared → Prop}
theorem filter_K (F : Fr h₀ L s.heap m) (N : News h₀ L s.heap news) (hv : (v, { cls := .type "dict_values", data := .fields #[.ref d] }) ∈ news) (hp : (d, o) ∈ news) (hd : o.IsDictOf knd kvs)
    (h : ∀ fo it ep h', Fr h₀ L h' m → News h₀ L h' ((fo, filtObj it) :: (it, vitObj d kvs.length ep) :: news) → h'.DictAt knd d kvs ep → (∀ q ∈ news, q.1 < it) → it < fo → Q (.ref fo) { s with heap := h' }) :
    wpAny (model prog w) A (call (.type "filter") [.none, .ref v]) Q E s := by
  obtain ⟨ep, hat⟩ := (kda_dict N hp hd).dictAt
  have hat' := hat
  obtain ⟨oo, es, ho, r⟩ := hat'
  refine call_filter_values (knd := knd) (kvs := kvs) (ep := ep) ⟨_, (N _ hv).1, rfl, rfl⟩ hat ?_
  refine h _ s.heap.objs.size ep _ ((F.push _).push _) (News.push (F.push _) (News.push F N _) _) ⟨oo, es, Heap.get?_push_of_some _ (Heap.get?_push_of_some _ ho), r⟩ (fun q hq => Heap.lt_size (N q hq).1) ?_
  rw [size_push']
  exact Nat.lt_succ_self _
theorem max_filter_K {fo it : Addr} {ep : Nat} {dv : Value} {val : Nat → Int} (hh : A.handled = none) (F : Fr h₀ L s.heap m) (N : News h₀ L s.heap ((fo, filtObj it) :: (it, vitObj d kvs.length ep) :: news)) (hat : s.heap.DictAt knd d kvs ep) (hl : ∀ q ∈ news, q.1 ≠ it) (h1 : fo ≠ it) (h2 : d ≠ it) (hn : 0 < kvs.length)
    (hv : ∀ (i : Nat) (k : K) (v : Value), kvs[i]? = some (k, v) → ∃ t, v = Value.int (val i) t ∧ val i ≠ 0)
    (h : ∀ t' h' tk, Fr h₀ L h' m → News h₀ L h' news → Q (.int (maxUp val (kvs.length - 1)) t') { s with heap := h', toks := tk }) :
    wpAny (model prog w) A (call (.builtin "max") [.ref fo] [(Str.ofString "default", dv)]) Q E s := by
  have hf := (N _ (.head _)).1
  have hi := N _ (.tail _ (.head _))
  obtain ⟨od, es, hod, r⟩ := id hat
  refine call_max_default (filter_iter hf ⟨fo, _, _, kvs.length, _, _, val, rfl, filter_walks (knd := knd) (A := A.in1) hh fo it d h1 h2 kvs ep (fun i k v hx => ?_), ⟨hf, ⟨_, hi.1, rfl, rfl⟩, hat⟩, ?_, hn, fun i v hx => ?_, fun t' h' tk hk => ?_⟩)
  · obtain ⟨t, rfl, h0⟩ := hv i k v hx
    exact ⟨_, _, rfl, h0⟩
  · intro b hb
    simp only [List.mem_cons, List.not_mem_nil, or_false] at hb
    rcases hb with rfl | rfl | rfl
    · exact Heap.lt_size hf
    · exact Heap.lt_size hi.1
    · exact Heap.lt_size hod
  · obtain ⟨k, hx⟩ := hx
    obtain ⟨t, rfl, _⟩ := hv i k v hx
    exact ⟨t, rfl⟩
  · refine h t' h' tk ?_ ?_
    · exact ⟨F.ns.at fun o' e => hk L o' (by simpa using Ne.symm hi.2.1) e, fun b o' e => hk b o' (by simp only [List.mem_singleton]; rintro rfl; exact nomatch (hi.2.2.symm.trans e)) (F.keep b o' e), F.above⟩
    · intro q hq
      exact ⟨hk _ _ (by simpa using hl q hq) (N q (.tail _ (.tail _ hq))).1, (N q (.tail _ (.tail _ hq))).2⟩
end
end
end
section
open PySem PySem.W PySem.Spec PySem.Calls PyProof.Rows
theorem entry_contains_iter : entryFor table "proto.contains_iter" = some Builtin.«proto.contains_iter» := entryFor_of_tree (by kernel_rfl)
theorem plain_contains_iter : plainId "proto.contains_iter" = true := by decide +kernel
theorem no_contains_values : typeLookup (.type "dict_values") "__contains__" = pure none := by rw [typeLookup_type, builtinLookup_eq_fast]; kernel_rfl
section
variable {prog : Program} {w : World} {A : Around} {E : Value → Shared → Prop} {R : Result → Shared → Prop} {I : Addr} {fp wr : List Addr} {n : Nat} {P : Nat → Value → Prop} {St : Nat → Heap → Prop}
theorem contains_none_loop (W : Walks prog w A.in1 I fp wr n P St) (hval : ∀ i v, P i v → ∃ a t, v = .int a t) : ∀ (k j : Nat) (s : Shared), n - j = k → j ≤ n → St j s.heap →
    (∀ h' tk, (∀ b o, b ∉ wr → s.heap.get? b = some o → h'.get? b = some o) → R (.ok (.ret (.bool false))) { s with heap := h', toks := tk }) →
    codeAny (model prog w) A (.builtin "proto.contains_iter" ⟨[.ref I, .none], []⟩) R s := by
  intro k
  induction k with
  | zero =>
    intro j s hk hj hst hR
    have hin : j = n := by omega
    refine codeAny_builtin entry_contains_iter ?_
    rw [Around.under_plainId plain_contains_iter _]
    unfold Builtin.«proto.contains_iter»
    refine wpAny_bind (W.done s _ _ (hin ▸ hst) fun h' tk hk' => ?_)
    exact wpAny_bind (wpAny_rule (wpAny_pure (hR h' tk hk')))
  | succ k ih =>
    intro j s hk hj hst hR
    refine codeAny_builtin entry_contains_iter ?_
    rw [Around.under_plainId plain_contains_iter _]
    unfold Builtin.«proto.contains_iter»
    refine wpAny_bind (W.item j s _ _ (by omega) hst fun v h' tk hP hst' hk' => ?_)
    obtain ⟨a, t, rfl⟩ := hval _ _ hP
    refine wpAny_bind (SeqAt.EqAt.int_none a t _ _ _ _ ?_)
    simp only [Bool.false_eq_true, if_false]
    exact wpAny_pure ⟨plainId_quiet plain_contains_iter _, ih (j + 1) _ (by omega) (by omega) hst' fun h'' tk'' hk'' => hR h'' tk'' fun b o hb e => hk'' b o hb (hk' b o hb e)⟩
theorem in_values_none {K : Type} [DecidableEq K] {knd : KeyKind prog w K} {s : Shared} {h₀ : Heap} {L d v : Addr} {m : Str → Option Value} {news : List (Addr × Obj)} {o : Obj} {kvs : List (K × Value)} {Q : Value → Shared → Prop}
    (hh : A.handled = none) (F : Fr h₀ L s.heap m) (N : News h₀ L s.heap news) (hv : (v, { cls := .type "dict_values", data := .fields #[.ref d] }) ∈ news) (hp : (d, o) ∈ news) (hd : o.IsDictOf knd kvs)
    (hvs : ∀ (i : Nat) (k : K) (v : Value), kvs[i]? = some (k, v) → ∃ a t, v = Value.int a t)
    (h : ∀ h' tk, Fr h₀ L h' m → News h₀ L h' news → Q (.bool false) { s with heap := h', toks := tk }) :
    wpAny (model prog w) A (compareOp .In .none (.ref v)) Q E s := by
  obtain ⟨ep, hat⟩ := (kda_dict N hp hd).dictAt
  have hT : s.TypeIs (.ref v) "dict_values" := ⟨_, (N _ hv).1, rfl⟩
  unfold compareOp
  refine wpAny_bind ?_
  unfold PySem.contains
  refine wpAny_holding ?_
  simp only [stdlibNamesSay?]
  refine wpAny_bind (wpAny_specialOf hT no_contains_values ?_)
  rw [if_neg (by decide)]
  unfold callSpecialUnlessNone?
  refine wpAny_bind (wpAny_bind (wpAny_specialOf hT no_contains_values (wpAny_pure ?_)))
  refine wpAny_bind (wpAny_rule ?_)
  obtain ⟨oI, St, hit, W, st⟩ := (kdl_values (knd := knd) (kvs := kvs) (ep := ep)).iter A.in1 s hh ⟨⟨_, (N _ hv).1, rfl, rfl⟩, hat⟩
  refine wpAny_bind (wpAny_tryCatch (wpAny_of_in1 (hit _ _ ?_)))
  refine wpAny_bind (wpAny_runValue (contains_none_loop W (fun i v hx => ?_) _ 0 _ rfl (Nat.zero_le _) st fun h' tk hk => ?_))
  · obtain ⟨k, hx⟩ := hx
    exact hvs i k v hx
  · have hk2 : ∀ b o, s.heap.get? b = some o → h'.get? b = some o := fun b o e => hk b o (fun hI => absurd (Heap.lt_size e) (by rw [List.mem_singleton.mp hI]; exact Nat.lt_irrefl _)) (Heap.get?_push_of_some _ e)
    exact wpAny_pure (wpAny_pure (h h' tk (F.keeps hk2) fun p hp => ⟨hk2 _ _ (N p hp).1, (N p hp).2⟩))
end
end
section
open PySem PySem.W PySem.Spec PySem.Calls PyProof.Rows
open PySem.Builtin.Re
def drv : Nat → Sre.M → Sre.M
  | 0, m => m.runFor 4
  | k + 1, m => drv k (m.runFor 4)
theorem runFor_done {n : Nat} {m : Sre.M} (h : m.outcome.isSome = true) : m.runFor n = m := by
  cases n with
  | zero => rfl
  | succ n => rw [Sre.M.runFor, if_pos h]
theorem drv_done {m : Sre.M} (h : m.outcome.isSome = true) : ∀ k, drv k m = m
  | 0 => runFor_done h
  | k + 1 => by rw [drv, runFor_done h]; exact drv_done h k
section
variable {M : Model} {A : Around} {E : Value → Shared → Prop} {s : Shared}
theorem wp_drive {Q : Sre.M → Shared → Prop} : ∀ (k T : Nat) (m : Sre.M), k < T → (drv k m).outcome.isSome = true → Q (drv k m) s → wpAny M A (reDrive T m) Q E s := by
  intro k
  induction k with
  | zero =>
    intro T m hT ho h
    obtain ⟨T, rfl⟩ : ∃ T', T = T' + 1 := ⟨T - 1, by omega⟩
    rw [reDrive]
    show wpAny M A (if (m.runFor 4).outcome.isSome = true then pure (m.runFor 4) else _) _ _ _
    rw [if_pos (show (m.runFor 4).outcome.isSome = true from ho)]
    exact wpAny_pure h
  | succ k ih =>
    intro T m hT ho h
    obtain ⟨T, rfl⟩ : ∃ T', T = T' + 1 := ⟨T - 1, by omega⟩
    rw [reDrive]
    show wpAny M A (if (m.runFor 4).outcome.isSome = true then pure (m.runFor 4) else _) _ _ _
    by_cases hd : (m.runFor 4).outcome.isSome = true
    · rw [if_pos hd]
      have e : drv (k + 1) m = m.runFor 4 := drv_done hd k
      rw [e] at h
      exact wpAny_pure h
    · rw [if_neg hd]
      exact wpAny_bind (wpAny_rule (ih T _ (by omega) ho h))
theorem wp_run {Q : Option Sre.M → Shared → Prop} (k : Nat) (m : Sre.M) (hk : k < 1000) (h : (drv k m).outcome = some .matched ∧ Q (some (drv k m)) s ∨ (drv k m).outcome = some .failed ∧ Q none s) : wpAny M A (reRunToEnd m) Q E s := by
  unfold reRunToEnd
  refine wpAny_bind (wp_drive k _ m ?_ ?_ ?_)
  · exact Nat.lt_of_lt_of_le hk (by decide)
  · rcases h with h | h <;> rw [h.1] <;> rfl
  · generalize drv k m = m' at *
    refine wpAny_bind ?_
    have key : ∀ l : List Nat, wpAny M A (forIn l PUnit.unit fun i (_ : PUnit) => if m'.seen.has i = true then (do rule (Sre.names.getD i ""); pure (ForInStep.yield PUnit.unit)) else pure (ForInStep.yield PUnit.unit)) (fun _ s' => s' = s) E s := by
      intro l
      induction l with
      | nil => exact wpAny_pure rfl
      | cons a l ih =>
        rw [List.forIn_cons]
        refine wpAny_bind ?_
        split
        · exact wpAny_bind (wpAny_rule (wpAny_pure ih))
        · exact wpAny_pure ih
    refine wpAny_mono (key _) (fun _ s' e => ?_) fun _ _ e => e
    subst e
    rcases h with h | h
    · rw [h.1]; exact wpAny_pure h.2
    · rw [h.1]; exact wpAny_pure h.2
def code1 : Array Nat := #[14, 4, 0, 1, 1, 6, 1, 16, 46, 1]
def code2 : Array Nat := #[14, 9, 4, 1, 2, 16, 10, 16, 13, 0, 7, 7, 16, 13, 16, 10, 15, 18, 5, 16, 10, 15, 13, 11, 16, 13, 5, 5, 0, 16, 10, 1, 15, 2, 0, 1]
def isFailed : Option Sre.Outcome → Bool
  | some .failed => true
  | _ => false
def isMatched : Option Sre.Outcome → Bool
  | some .matched => true
  | _ => false
theorem failed_of {o : Option Sre.Outcome} (h : isFailed o = true) : o = some .failed := by
  unfold isFailed at h; split at h
  · rfl
  · cases h
theorem matched_of {o : Option Sre.Outcome} (h : isMatched o = true) : o = some .matched := by
  unfold isMatched at h; split at h
  · rfl
  · cases h
theorem runs2 : ∀ n, n < 30 → isFailed (drv 300 (Sre.forSearch code2 (Array.replicate n 46) 0 0 n false)).outcome = true := by decide +kernel
theorem runs1a : ∀ n, n < 30 → (n == 0 || (isMatched (drv 20 (Sre.forSearch code1 (Array.replicate n 46) 0 0 n false)).outcome && (drv 20 (Sre.forSearch code1 (Array.replicate n 46) 0 0 n false)).start == 0 && (drv 20 (Sre.forSearch code1 (Array.replicate n 46) 0 0 n false)).handed == 1)) = true := by decide +kernel
theorem runs1b : ∀ n, n < 30 → (n == 0 || isFailed (drv 300 (Sre.forSearch code1 (Array.replicate n 46) 0 1 n false)).outcome) = true := by decide +kernel
end
end
section
open PySem PySem.W PySem.Spec PySem.Calls PyProof.Rows
open PySem.Builtin.Re
theorem plainAttrs_pattern : PlainAttrs "re.Pattern" :=
  ⟨⟨"object.__getattribute__", by rw [typeLookup_type, builtinLookup_eq_fast]; kernel_rfl, by decide +kernel⟩, by rw [typeLookup_type, builtinLookup_eq_fast]; kernel_rfl⟩
theorem slot_pattern_sub : Slot "re.Pattern" "sub" "re.Pattern.sub" :=
  .of (owner := "re.Pattern") (n := "sub") (by rw [typeLookup_type, builtinLookup_eq_fast]; kernel_rfl) (by decide +kernel) (by decide +kernel) (by decide +kernel)
    (by first | exact .inl (by decide +kernel) | exact .inr (by decide +kernel)) (by rw [isSubtype_type]; kernel_rfl)
theorem type_pattern_sub : typeOf (.builtin "re.Pattern.sub") = pure (.type "method_descriptor") := by show builtinType _ = _; rw [builtinType_eq_fast]; kernel_rfl
theorem entry_pattern_sub : entryFor table "re.Pattern.sub" = some Builtin.«re.Pattern.sub» := entryFor_of_tree (by kernel_rfl)
theorem entry_sub_loop : entryFor table "re.Pattern.sub.loop" = some Builtin.«re.Pattern.sub.loop» := entryFor_of_tree (by kernel_rfl)
theorem plain_sub_loop : plainId "re.Pattern.sub.loop" = true := by decide +kernel
theorem args_pattern_sub (a b c : Value) : argsOk "re.Pattern.sub" ⟨[a, b, c], []⟩ := by unfold argsOk; kernel_rfl
theorem no_str_call : typeLookup (.type "str") "__call__" = pure none := by rw [typeLookup_type, builtinLookup_eq_fast]; kernel_rfl
end
section
open PySem PySem.W PySem.Spec PySem.Calls PyProof.Rows
open PySem.Builtin.Re
def patObj (ps : Str) (a b : Tok) (fl : Int) (c : Addr) : Obj := { cls := .type "re.Pattern", data := .fields #[.str ps a, .int fl b, .int 0 0, .none, .none, .ref c, .int 0 0] }
def codesObj (xs : Array Value) : Obj := { cls := .type "tuple", data := .seq xs }
section
variable {prog : Program} {w : World} {A : Around} {E : Value → Shared → Prop} {s : Shared} {p c : Addr} {ps : Str} {a b : Tok} {fl : Int} {cv : Array Value} {code : Array Nat}
theorem whole_target {x : Str} {u : Tok} {Q : ReTarget → Shared → Prop} (hp : s.heap.get? p = some (patObj ps a b fl c)) (hc : s.heap.get? c = some (codesObj cv)) (hcode : (cv.map reRawOf).map Int.toNat = code)
    (h : Q { pattern := .ref p, string := .str x u, code := code, text := x.cps, kind := 0, groups := 0, pos := 0, lim := x.cps.size } s) : wpAny (model prog w) A (reWholeTarget (.ref p) (.str x u)) Q E s := by
  unfold reWholeTarget
  refine wpAny_bind (wpAny_fieldsOf hp rfl ?_)
  refine wpAny_bind (wpAny_of_eq (a := (x.cps, 0)) rfl ?_)
  refine wpAny_bind (m := reNoCollectionInside _ _) (wpAny_of_eq (a := ()) rfl ?_)
  refine wpAny_bind ?_
  unfold reRawItems
  refine wpAny_bind (wpAny_seqItems hc rfl ?_)
  refine wpAny_pure (wpAny_pure ?_)
  subst hcode
  exact h
abbrev subArgs (p : Addr) (x : Str) (u : Tok) (repl : Value) (n d : Int) (must : Bool) (l : Addr) : Args := ⟨[.ref p, .str x u, repl, rawInt 0, rawInt 0, rawInt n, rawInt d, rawInt d, .bool must, .ref l, .bool false], []⟩
theorem next_found {t : ReTarget} {start : Nat} {must : Bool} {Q : Option Sre.M → Shared → Prop} (k : Nat) (hk : k < 1000) (h : (drv k (Sre.forSearch t.code t.text t.groups start t.lim must)).outcome = some .matched ∧ Q (some (drv k (Sre.forSearch t.code t.text t.groups start t.lim must))) s ∨ (drv k (Sre.forSearch t.code t.text t.groups start t.lim must)).outcome = some .failed ∧ Q none s) :
    wpAny (model prog w) A (reNextFound t start must) Q E s := wp_run k _ hk h
theorem join_eq (sep : Str) (l : List Str) : Txt.join sep l = Str.join sep l := eq_of_beq (join_plain_closes sep l)
theorem strs_len : ∀ {vs : List Value} {ys : List Str}, StrsAre vs ys → vs.length = ys.length
  | _, _, .nil => rfl
  | _, _, .cons y t h => by simp [strs_len h]
theorem strs_push : ∀ {vs : List Value} {ys : List Str} (y : Str) (t : Tok), StrsAre vs ys → StrsAre (vs ++ [.str y t]) (ys ++ [y])
  | _, _, y, t, .nil => .cons y t .nil
  | _, _, y, t, .cons y' t' h => .cons y' t' (strs_push y t h)
theorem sub_none {x rs : Str} {u ru : Tok} {n : Int} {d k l cc : Nat} {items : Array Value} {ys : List Str} {R : Result → Shared → Prop} (hp : s.heap.get? p = some (patObj ps a b fl c)) (hc : s.heap.get? c = some (codesObj cv)) (hcode : (cv.map reRawOf).map Int.toNat = code)
    (hk : k < 1000) (hrun : isFailed (drv k (Sre.forSearch code x.cps 0 d x.cps.size false)).outcome = true) (hlen : x.cps.size ≤ 100)
    (hl : s.heap.get? l = some { cls := .type "list", dict := none, data := .seq items cc, slots := #[] }) (hys : StrsAre items.toList ys) (hy0 : ys.length ≤ 10) (hyl : (ys.map (·.length)).sum ≤ 100) (hne : items.isEmpty = false ∨ d < x.cps.size)
    (ret : ∀ t' h' tk, (∀ b o, b ≠ l → s.heap.get? b = some o → h'.get? b = some o) → R (.ok (.ret (.str (Txt.join ⟨#[]⟩ (ys ++ if d < x.cps.size then [⟨x.cps.extract d x.cps.size⟩] else [])) t'))) { s with heap := h', toks := tk }) :
    codeAny (model prog w) A (.builtin "re.Pattern.sub.loop" (subArgs p x u (.str rs ru) n d false l)) R s := by
  refine codeAny_builtin entry_sub_loop ?_
  rw [Around.under_plainId plain_sub_loop _]
  unfold Builtin.«re.Pattern.sub.loop»
  show wpAny _ A.in1 (reWholeTarget (.ref p) (.str x u) >>= _) _ _ s
  refine wpAny_bind (whole_target hp hc hcode ?_)
  refine wpAny_bind (m := reLiteralCannotBeTurned _) (wpAny_of_eq (a := ()) rfl ?_)
  show wpAny _ A.in1 ((if ((0 : Int) != 0 && decide (n ≥ 0)) = true then pure none else reNextFound _ ((d : Int)).toNat false) >>= _) _ _ s
  refine wpAny_bind ?_
  rw [if_neg (by simp), Int.toNat_natCast]
  refine next_found k hk (.inr ⟨failed_of hrun, ?_⟩)
  dsimp only
  have hsz : items.size ≤ 10 := by have := strs_len hys; rw [Array.length_toList] at this; omega
  have he0 : (⟨x.cps.extract 0 0⟩ : Str) = ⟨#[]⟩ := by simp
  have hsl : ∀ i j, (⟨x.cps.extract i j⟩ : Str).length ≤ sizeLine := fun i j => by
    show (x.cps.extract i j).size ≤ sizeLine
    rw [Array.size_extract, sizeLine_eq]; omega
  by_cases hd : d < x.cps.size
  · rw [if_pos hd]
    rw [if_pos hd] at ret
    refine wpAny_bind (show wpAny _ _ (mkStr ⟨x.cps.extract d x.cps.size⟩) _ _ _ from wpAny_mkStr ?_ (hsl _ _))
    refine wpAny_bind (wpAny_updateSeq hl rfl ?_ (by rw [sizeLine_eq]; omega) (by rw [Array.size_push, sizeLine_eq]; omega))
    refine wpAny_bind (show wpAny _ _ (mkStr ⟨x.cps.extract 0 0⟩) _ _ _ from wpAny_mkStr ?_ (hsl _ _))
    refine wpAny_bind (wpAny_seqItems (Heap.get?_update_self _ hl rfl) rfl ?_)
    rw [if_neg (by simp)]
    rw [he0]
    refine wpAny_bind (join_list (items := items.push (.str ⟨x.cps.extract d x.cps.size⟩ s.toks)) (ys := ys ++ [⟨x.cps.extract d x.cps.size⟩]) ⟨_, Heap.get?_update_self _ hl rfl, rfl, _, rfl⟩ ?_ ?_ fun t' k => ?_)
    · rw [Array.toList_push]; exact strs_push _ _ hys
    · show _ + _ * 0 ≤ _
      have : (⟨x.cps.extract d x.cps.size⟩ : Str).length ≤ 100 := by
        show (x.cps.extract d x.cps.size).size ≤ 100
        rw [Array.size_extract]; omega
      simp only [List.map_append, List.sum_append, List.map_cons, List.map_nil, List.sum_cons, List.sum_nil]; omega
    · exact wpAny_pure (ret t' _ k fun b o hb e => (Heap.get?_update_other _ _ (Ne.symm hb)).trans e)
  · rw [if_neg hd]
    rw [if_neg hd, List.append_nil] at ret
    refine wpAny_bind (show wpAny _ _ (mkStr ⟨x.cps.extract 0 0⟩) _ _ _ from wpAny_mkStr ?_ (hsl _ _))
    refine wpAny_bind (wpAny_seqItems hl rfl ?_)
    rw [if_neg (by rcases hne with h | h; exact Bool.eq_false_iff.mp h; exact absurd h hd)]
    rw [he0]
    refine wpAny_bind (join_list (items := items) (ys := ys) ⟨_, hl, rfl, _, rfl⟩ hys ?_ fun t' k => ?_)
    · show _ + _ * 0 ≤ _; omega
    · exact wpAny_pure (ret t' _ k fun b o hb e => e)
theorem call_slot_tree {T : String} {name : Str} {id : String} {bn : Builtin} {self : Value} {rest : List Value} {Q : Value → Shared → Prop} (h : Slot T name id) (hT : s.TypeIs self T) (hb : entryFor table id = some bn) (ha : argsOk id ⟨self :: rest, []⟩)
    (hc : wpAny (model prog w) A.in1 (bn ⟨self :: rest, []⟩) (fun fin s' => match fin with
      | .done f => (match (Except.ok f : Result) with | .ok (.ret v) => Q v s' | .ok _ => False | .error e => E e s')
      | .again c' => c'.quiet = true ∧ codeAny (model prog w) A c' (fun r s' => match r with | .ok (.ret v) => Q v s' | .ok _ => False | .error e => E e s') s') E s) :
    wpAny (model prog w) A (call (.builtin id) (self :: rest)) Q E s :=
  wpAny_call (codeAny_call_builtin h.plain hb (h.check _ _ _ _ _ _ _ _ hT ha hc))
theorem call_sub {x rs : Str} {u ru : Tok} {Q : Value → Shared → Prop} (hp : s.heap.get? p = some (patObj ps a b fl c)) (hc : s.heap.get? c = some (codesObj cv)) (hcode : (cv.map reRawOf).map Int.toNat = code) (hlit : rs.cps.contains 92 = false)
    (h : codeAny (model prog w) A (.builtin "re.Pattern.sub.loop" (subArgs p x u (.str rs ru) 0 0 false s.heap.objs.size)) (fun r s' => match r with | .ok (.ret v) => Q v s' | .ok _ => False | .error e => E e s') { s with heap := s.heap.push { cls := .type "list", data := .seq #[] } }) :
    wpAny (model prog w) A (call (.builtin "re.Pattern.sub") [.ref p, .str rs ru, .str x u]) Q E s := by
  refine call_slot_tree slot_pattern_sub ⟨_, hp, rfl⟩ entry_pattern_sub (args_pattern_sub _ _ _) ?_
  unfold Builtin.«re.Pattern.sub» reSubstitute
  refine wpAny_bind (m := reNamed _ _ _ _ _ _) (wpAny_of_eq (a := [some (.str rs ru), some (.str x u), none]) rfl ?_)
  try dsimp only
  refine wpAny_bind (wpAny_pure ?_)
  refine wpAny_bind (wpAny_specialOf (typeIs_str _ _ _) no_str_call ?_)
  rw [if_neg (by simp)]
  refine wpAny_bind (m := asStr? _) (wpAny_of_eq (a := some rs) rfl ?_)
  refine wpAny_bind (wpAny_pure ?_)
  rw [if_neg (by simp), if_pos (by rw [hlit]; rfl)]
  refine wpAny_bind (wpAny_pure ?_)
  refine wpAny_bind (wpAny_holding (whole_target hp hc hcode ?_))
  rw [if_neg (by simp)]
  refine wpAny_bind (wpAny_newList ?_ (by decide))
  exact wpAny_pure ⟨plainId_quiet plain_sub_loop _, h⟩
theorem call_sub_none {x rs : Str} {u ru : Tok} {k : Nat} {Q : Value → Shared → Prop} (hp : s.heap.get? p = some (patObj ps a b fl c)) (hc : s.heap.get? c = some (codesObj cv)) (hcode : (cv.map reRawOf).map Int.toNat = code) (hlit : rs.cps.contains 92 = false)
    (hk : k < 1000) (hrun : isFailed (drv k (Sre.forSearch code x.cps 0 0 x.cps.size false)).outcome = true) (hlen : x.cps.size ≤ 100) (h0 : 0 < x.cps.size)
    (h : ∀ t' h' tk, (∀ b o, s.heap.get? b = some o → h'.get? b = some o) → Q (.str x t') { s with heap := h', toks := tk }) :
    wpAny (model prog w) A (call (.builtin "re.Pattern.sub") [.ref p, .str rs ru, .str x u]) Q E s := by
  refine call_sub hp hc hcode hlit (sub_none (ys := []) (k := k) (d := 0) (Heap.get?_push_of_some _ hp) (Heap.get?_push_of_some _ hc) hcode hk hrun hlen (Heap.get?_push_size _ rfl) .nil (by simp) (by simp) (.inr h0) fun t' h' tk hk' => ?_)
  rw [if_pos h0]
  have e : Txt.join ⟨#[]⟩ ([] ++ [(⟨x.cps.extract 0 x.cps.size⟩ : Str)]) = x := by
    rw [join_eq]
    show (⟨x.cps.extract 0 x.cps.size⟩ : Str) = x
    simp
  rw [e]
  exact h t' h' tk fun b o e => hk' b o (Nat.ne_of_lt (Heap.lt_size e)) (Heap.get?_push_of_some _ e)
theorem call_sub_one {x rs : Str} {u ru : Tok} {k : Nat} {Q : Value → Shared → Prop} (hp : s.heap.get? p = some (patObj ps a b fl c)) (hc : s.heap.get? c = some (codesObj cv)) (hcode : (cv.map reRawOf).map Int.toNat = code) (hlit : rs.cps.contains 92 = false) (hrl : rs.length ≤ 50)
    (hk : k < 1000) (hrun : (isMatched (drv k (Sre.forSearch code x.cps 0 0 x.cps.size false)).outcome && (drv k (Sre.forSearch code x.cps 0 0 x.cps.size false)).start == 0 && (drv k (Sre.forSearch code x.cps 0 0 x.cps.size false)).handed == 1) = true)
    {k2 : Nat} (hk2 : k2 < 1000) (hrun2 : isFailed (drv k2 (Sre.forSearch code x.cps 0 1 x.cps.size false)).outcome = true) (hlen : x.cps.size ≤ 100)
    (h : ∀ t' h' tk, (∀ b o, s.heap.get? b = some o → h'.get? b = some o) → Q (.str (Txt.join ⟨#[]⟩ ([rs] ++ if 1 < x.cps.size then [⟨x.cps.extract 1 x.cps.size⟩] else [])) t') { s with heap := h', toks := tk }) :
    wpAny (model prog w) A (call (.builtin "re.Pattern.sub") [.ref p, .str rs ru, .str x u]) Q E s := by
  refine call_sub hp hc hcode hlit ?_
  simp only [Bool.and_eq_true, beq_iff_eq] at hrun
  obtain ⟨⟨hm, hs0⟩, hh1⟩ := hrun
  refine codeAny_builtin entry_sub_loop ?_
  rw [Around.under_plainId plain_sub_loop _]
  unfold Builtin.«re.Pattern.sub.loop»
  show wpAny _ A.in1 (reWholeTarget (.ref p) (.str x u) >>= _) _ _ _
  refine wpAny_bind (whole_target (Heap.get?_push_of_some _ hp) (Heap.get?_push_of_some _ hc) hcode ?_)
  refine wpAny_bind (m := reLiteralCannotBeTurned _) (wpAny_of_eq (a := ()) rfl ?_)
  show wpAny _ A.in1 ((if ((0 : Int) != 0 && decide ((0 : Int) ≥ 0)) = true then pure none else reNextFound _ ((0 : Nat) : Int).toNat false) >>= _) _ _ _
  refine wpAny_bind ?_
  rw [if_neg (by simp), Int.toNat_natCast]
  refine next_found k hk (.inl ⟨matched_of hm, ?_⟩)
  dsimp only
  rw [hs0, hh1]
  rw [if_neg (by decide), if_pos (by decide)]
  refine wpAny_bind (wpAny_pure ?_)
  rw [if_pos (by simp)]
  refine wpAny_bind (wpAny_updateSeq (Heap.get?_push_size _ rfl) rfl ?_ (by decide) (by rw [Array.size_push, sizeLine_eq]; decide))
  refine wpAny_pure ⟨plainId_quiet plain_sub_loop _, ?_⟩
  have hg : ∀ b o, b ≠ s.heap.objs.size → (s.heap.push { cls := .type "list", data := .seq #[] }).get? b = some o → ((s.heap.push { cls := .type "list", data := .seq #[] }).update s.heap.objs.size (Obj.mapSeq fun x => x.push (.str rs ru))).get? b = some o := fun b o hb e => (Heap.get?_update_other _ _ (Ne.symm hb)).trans e
  refine sub_none (ys := [rs]) (k := k2) (d := 1) (items := #[.str rs ru]) (hg _ _ (Nat.ne_of_lt (Heap.lt_size hp)) (Heap.get?_push_of_some _ hp)) (hg _ _ (Nat.ne_of_lt (Heap.lt_size hc)) (Heap.get?_push_of_some _ hc)) hcode hk2 hrun2 hlen (Heap.get?_update_self _ (Heap.get?_push_size _ rfl) rfl) (.cons rs ru .nil) (by simp) (by simp; omega) (.inl rfl) fun t' h' tk hk' => ?_
  exact h t' h' tk fun b o e => hk' b o (Nat.ne_of_lt (Heap.lt_size e)) (hg b o (Nat.ne_of_lt (Heap.lt_size e)) (Heap.get?_push_of_some _ e))
def dots (n : Nat) : Str := ⟨Array.replicate n 46⟩
theorem dots_one {n : Nat} (hn : 1 ≤ n) : Txt.join ⟨#[]⟩ ([Str.ofString ".."] ++ if 1 < (dots n).cps.size then [⟨(dots n).cps.extract 1 (dots n).cps.size⟩] else []) = dots (n + 1) := by
  rw [join_eq]
  have h2 : Str.ofString ".." = dots 2 := by decide +kernel
  rw [h2]
  have hs : (dots n).cps.size = n := Array.size_replicate
  rw [hs]
  split
  · show dots 2 ++ ⟨#[]⟩ ++ (⟨(Array.replicate n 46).extract 1 n⟩ : Str) = dots (n + 1)
    show (⟨(Array.replicate 2 46 ++ #[]) ++ (Array.replicate n 46).extract 1 n⟩ : Str) = ⟨Array.replicate (n + 1) 46⟩
    congr 1
    rw [Array.append_empty, Array.extract_replicate, Array.replicate_append_replicate]
    congr 1
    omega
  · obtain rfl : n = 1 := by omega
    rfl
theorem sub_method {A : Around} {pl : Sem Bool} {Q : Value × List Value → Shared → Prop} (hp : s.heap.get? p = some (patObj ps a b fl c)) (h : Q (.builtin "re.Pattern.sub", [.ref p]) s) : wpAny (model prog w) A (getMethod (.ref p) "sub" pl) Q E s :=
  getMethod_builtin ⟨_, hp, rfl⟩ plainAttrs_pattern slot_pattern_sub type_pattern_sub (fun a' e => by cases e; exact ⟨_, hp, rfl⟩) h
end
end
section
open PySem PySem.W PySem.Spec PySem.Calls PyProof.Rows
section
variable {prog : Program} {w : World} {A : Around} {R : Result → Shared → Prop} {s : Shared}
/-- a turn of the first clause of two -/
theorem comp2_outer {elt it1 it2 : Expr} {x y : Str} {px py : Pos} {scope : Scope} {pos : Pos} {it acc : Value} {env : Env} (I : Nat → Shared → Prop)
    (turn : ∀ n s, I n s → wpAny (model prog w) A (pyNext it) (fun r s₁ => match r with
      | none => R (.ok .next) s₁
      | some v => wpAny (model prog w) A (assign (.Name x px) env v) (fun _ s₂ => wpAny (model prog w) A (eval it2 env) (fun xv s₃ => wpAny (model prog w) A (pyIter xv) (fun i2 s₄ =>
          codeAny (model prog w) A (.compStart (.ListComp elt [⟨.Name x px, it1, [], 0⟩, ⟨.Name y py, it2, [], 0⟩] scope pos) 1 i2 acc env) (fun r s₅ => match r with
            | .ok _ => ∃ m, m < n ∧ I m s₅
            | .error e => cameBackBy (model prog w) A env (notedBy (model prog w) A env fun e s' => R (.error e) s') e s₅) s₄)
          (notedBy (model prog w) A env fun e s' => R (.error e) s') s₃)
          (notedBy (model prog w) A env fun e s' => R (.error e) s') s₂) (notedBy (model prog w) A env fun e s' => R (.error e) s') s₁) (notedBy (model prog w) A env fun e s' => R (.error e) s') s)
    (hs : ∀ x, foldedSetIterable it2 env x = pure x) (n : Nat) (h : I n s) :
    codeAny (model prog w) A (.compLoop (.ListComp elt [⟨.Name x px, it1, [], 0⟩, ⟨.Name y py, it2, [], 0⟩] scope pos) 0 it acc env) R s := by
  refine codeAny_loop rfl I (fun n s hI => ?_) n h
  show wpAny _ _ ((compTurn (.ListComp elt [⟨.Name x px, it1, [], 0⟩, ⟨.Name y py, it2, [], 0⟩] scope pos) 0 it acc env).onRaise (fun x => do noteFrame x env; theTreesLotGoes x)) _ _ s
  refine wpAny_noted ?_
  unfold compTurn
  show wpAny _ _ (standAt it1.pos >>= _) _ _ s
  refine wpAny_bind (wpAny_standAt ?_)
  show wpAny _ _ (pyNext it >>= _) _ _ s
  refine wpAny_bind (wpAny_mono (turn n s hI) (fun r s₁ h₁ => ?_) fun _ _ h' => h')
  cases r with
  | none => exact wpAny_pure h₁
  | some v =>
    show wpAny _ _ (letOwnedTupleGo (.Name x px) it v >>= _) _ _ _
    refine wpAny_bind (wpAny_of_eq (a := ()) rfl ?_)
    refine wpAny_bind (wpAny_mono h₁ (fun _ s₂ h₂ => ?_) fun _ _ h' => h')
    show wpAny _ _ (eval it2 env >>= _) _ _ _
    refine wpAny_bind (wpAny_mono h₂ (fun xv s₃ h₃ => ?_) fun _ _ h' => h')
    refine wpAny_bind (wpAny_standAt ?_)
    show wpAny _ _ (foldedSetIterable it2 env xv >>= _) _ _ _
    refine wpAny_bind (wpAny_of_eq (hs xv) ?_)
    refine wpAny_bind (wpAny_holding ?_)
    refine wpAny_mono h₃ (fun i2 s₄ h₄ => ?_) fun _ _ h' => h'
    refine wpAny_bind (wpAny_runOwn (codeAny_mono h₄ fun r s₅ h₅ => ?_))
    cases r with
    | ok f => exact wpAny_pure ⟨rfl, h₅⟩
    | error e => exact h₅
theorem comp2_start {elt it1 it2 : Expr} {x y : Str} {px py : Pos} {scope : Scope} {pos : Pos} {it acc : Value} {env : Env}
    (h0 : codeAny (model prog w) A (.compLoop (.ListComp elt [⟨.Name x px, it1, [], 0⟩, ⟨.Name y py, it2, [], 0⟩] scope pos) 1 it acc env) R s)
    (h : wpAny (model prog w) A (pyIter it) (fun it' s' => codeAny (model prog w) A (.compLoop (.ListComp elt [⟨.Name x px, it1, [], 0⟩, ⟨.Name y py, it2, [], 0⟩] scope pos) 1 it' acc env) R s')
      (notedBy (model prog w) A env fun x s' => R (.error x) s') s) :
    codeAny (model prog w) A (.compStart (.ListComp elt [⟨.Name x px, it1, [], 0⟩, ⟨.Name y py, it2, [], 0⟩] scope pos) 1 it acc env) R s := by
  refine codeAny_of_tree ?_
  show wpAny _ _ ((compStart (.ListComp elt [⟨.Name x px, it1, [], 0⟩, ⟨.Name y py, it2, [], 0⟩] scope pos) 1 it acc env).onRaise (fun x => do noteFrame x env; standAt theWindowsPlace)) _ _ s
  refine wpAny_notedAt ?_
  unfold compStart
  show wpAny _ _ (ask >>= _) _ _ s
  refine wpAny_bind (wpAny_askSetting (wpAny_ite ?_))
  split
  · first
      | exact wpAny_bind (wpAny_pure (wpAny_pure (And.intro rfl h0)))
      | exact wpAny_pure (And.intro rfl h0)
  · refine wpAny_bind (wpAny_rule ?_)
    show wpAny _ _ (standAt it2.pos >>= _) _ _ s
    exact wpAny_bind (wpAny_standAt (wpAny_bind (wpAny_mono h (fun it' s' h' => wpAny_pure (And.intro rfl h')) fun _ _ x => x)))
/-- a turn of the second clause of two -/
theorem comp2_inner {elt it1 it2 : Expr} {x y : Str} {px py : Pos} {scope : Scope} {pos : Pos} {it acc : Value} {env : Env} (I : Nat → Shared → Prop)
    (turn : ∀ n s, I n s → wpAny (model prog w) A (pyNext it) (fun r s₁ => match r with
      | none => R (.ok .next) s₁
      | some v => wpAny (model prog w) A (assign (.Name y py) env v) (fun _ s₂ => wpAny (model prog w) A (eval elt env) (fun xv s₃ =>
          wpAny (model prog w) A (call (.builtin "list.append") [acc, xv]) (fun _ s₄ => ∃ m, m < n ∧ I m s₄) (notedBy (model prog w) A env fun e s' => R (.error e) s') s₃)
          (notedBy (model prog w) A env fun e s' => R (.error e) s') s₂) (notedBy (model prog w) A env fun e s' => R (.error e) s') s₁) (notedBy (model prog w) A env fun e s' => R (.error e) s') s)
    (n : Nat) (h : I n s) :
    codeAny (model prog w) A (.compLoop (.ListComp elt [⟨.Name x px, it1, [], 0⟩, ⟨.Name y py, it2, [], 0⟩] scope pos) 1 it acc env) R s := by
  refine codeAny_loop rfl I (fun n s hI => ?_) n h
  show wpAny _ _ ((compTurn (.ListComp elt [⟨.Name x px, it1, [], 0⟩, ⟨.Name y py, it2, [], 0⟩] scope pos) 1 it acc env).onRaise (fun x => do noteFrame x env; theTreesLotGoes x)) _ _ s
  refine wpAny_noted ?_
  unfold compTurn
  show wpAny _ _ (standAt it2.pos >>= _) _ _ s
  refine wpAny_bind (wpAny_standAt ?_)
  show wpAny _ _ (pyNext it >>= _) _ _ s
  refine wpAny_bind (wpAny_mono (turn n s hI) (fun r s₁ h₁ => ?_) fun _ _ h' => h')
  cases r with
  | none => exact wpAny_pure h₁
  | some v =>
    show wpAny _ _ (letOwnedTupleGo (.Name y py) it v >>= _) _ _ _
    refine wpAny_bind (wpAny_of_eq (a := ()) rfl ?_)
    refine wpAny_bind (wpAny_mono h₁ (fun _ s₂ h₂ => ?_) fun _ _ h' => h')
    show wpAny _ _ ((eval elt env >>= fun z => call (.builtin "list.append") [acc, z] >>= fun _ => pure ()) >>= _) _ _ _
    refine wpAny_bind (wpAny_bind (wpAny_mono h₂ (fun z s₃ h₃ => wpAny_bind (wpAny_mono h₃ (fun _ s₄ h₄ => wpAny_pure (wpAny_pure ⟨rfl, h₄⟩)) fun _ _ h' => h')) fun _ _ h' => h'))
end
end
section
open PySem PySem.W PySem.Spec PySem.Calls PyProof.Rows
open LCg (NsObj ns_obj)
theorem nsub {h₀ h : Heap} {L : Addr} {l l' : List (Addr × Obj)} (N : News h₀ L h l) (hs : ∀ q ∈ l', q ∈ l) : News h₀ L h l' := fun q hq => N q (hs q hq)
/-- one object of the ledger is changed -/
theorem led_set {h₀ h h' : Heap} {L d : Addr} {m : Str → Option Value} {o o' : Obj} {l : List (Addr × Obj)} (F : Fr h₀ L h m) (N : News h₀ L h ((d, o) :: l)) (hl : ∀ q ∈ l, q.1 ≠ d)
    (e : h'.get? d = some o') (hs : ∀ b x, b ≠ d → h.get? b = some x → h'.get? b = some x) : Fr h₀ L h' m ∧ News h₀ L h' ((d, o') :: l) := by
  have z := N _ (.head _)
  refine ⟨⟨F.ns.at fun x ex => hs L x (Ne.symm z.2.1) ex, fun b x ex => hs b x (fun q => by subst q; exact nomatch (z.2.2.symm.trans ex)) (F.keep b x ex), F.above⟩, fun q hq => ?_⟩
  rcases List.mem_cons.mp hq with rfl | hq
  · exact ⟨e, z.2⟩
  · exact ⟨hs _ _ (hl q hq) (N q (.tail _ hq)).1, (N q (.tail _ hq)).2⟩
theorem led_drop {h₀ h h' : Heap} {L d : Addr} {m : Str → Option Value} {o : Obj} {l : List (Addr × Obj)} (F : Fr h₀ L h m) (N : News h₀ L h ((d, o) :: l)) (hl : ∀ q ∈ l, q.1 ≠ d)
    (hs : ∀ b x, b ≠ d → h.get? b = some x → h'.get? b = some x) : Fr h₀ L h' m ∧ News h₀ L h' l := by
  have z := N _ (.head _)
  exact ⟨⟨F.ns.at fun x ex => hs L x (Ne.symm z.2.1) ex, fun b x ex => hs b x (fun q => by subst q; exact nomatch (z.2.2.symm.trans ex)) (F.keep b x ex), F.above⟩, fun q hq => ⟨hs _ _ (hl q hq) (N q (.tail _ hq)).1, (N q (.tail _ hq)).2⟩⟩
section
variable {prog : Program} {w : World} {A : Around} {s : Shared} {h₀ : Heap} {L : Addr} {m : Str → Option Value} {env : Env} {scope : Scope} {cl : List (Str × Addr)}
/-- the inner loop of a two-clause list comprehension, over a list -/
theorem comp2_inner_K {elt it1 it2 : Expr} {x y : Str} {px py : Pos} {pos : Pos} {R : Result → Shared → Prop} {C D I2 sub : Addr} {oC : Obj} {mC : Str → Option Value} {vs2 : List Value} (J : Nat → List Value → List (Addr × Obj) → Prop)
    (hh : A.handled = none) (hkind : scope.kind = .function) (hy : scope.names.lookup y = some .local)
    (hsub : ∀ k ys nw, J k ys nw → ∃ n, (sub, listOf vs2.toArray n) ∈ nw) (hlen : ∀ k ys nw, J k ys nw → ys.length ≤ 1000)
    (hCD : C ≠ D) (hCI : C ≠ I2) (hDI : D ≠ I2)
    (turn : ∀ k v ys nw nD oC' mC' oI h tk (E' : Value → Shared → Prop), vs2[k]? = some v → J k ys nw → NsObj oC' mC' → (∀ z, mC' z = if z = y then some v else mC z) → Fr h₀ L h m →
      News h₀ L h ((C, oC') :: (D, listOf ys.toArray nD) :: (I2, oI) :: nw) → (∀ q ∈ nw, q.1 ≠ C ∧ q.1 ≠ D ∧ q.1 ≠ I2) →
      wpAny (model prog w) A (eval elt (compEnvC scope cl C env)) (fun yv s₅ => ∃ h' tk' nw', s₅ = { s with heap := h', toks := tk' } ∧ Fr h₀ L h' m ∧ News h₀ L h' ((C, oC') :: (D, listOf ys.toArray nD) :: (I2, oI) :: nw') ∧
        (∀ q ∈ nw', q.1 ≠ C ∧ q.1 ≠ D ∧ q.1 ≠ I2) ∧ J (k + 1) (ys ++ [yv]) nw') E' { s with heap := h, toks := tk })
    (done : ∀ ys nw nD oC' mC' h tk, J vs2.length ys nw → NsObj oC' mC' → Fr h₀ L h m → News h₀ L h ((C, oC') :: (D, listOf ys.toArray nD) :: nw) → (∀ q ∈ nw, q.1 ≠ C ∧ q.1 ≠ D ∧ q.1 ≠ I2) →
      (∀ z, z ≠ y → mC' z = mC z) → R (.ok .next) { s with heap := h, toks := tk })
    {ys : List Value} {nw : List (Addr × Obj)} {nD : Nat} {h : Heap} {tk : Nat} (hj : J 0 ys nw) (hC : NsObj oC mC) (F : Fr h₀ L h m)
    (N : News h₀ L h ((C, oC) :: (D, listOf ys.toArray nD) :: (I2, { cls := .type "list_iterator", data := .fields #[.ref sub, .int 0 0] }) :: nw)) (hd : ∀ q ∈ nw, q.1 ≠ C ∧ q.1 ≠ D ∧ q.1 ≠ I2) :
    codeAny (model prog w) A (.compLoop (.ListComp elt [⟨.Name x px, it1, [], 0⟩, ⟨.Name y py, it2, [], 0⟩] scope pos) 1 (.ref I2) (.ref D) (compEnvC scope cl C env)) R { s with heap := h, toks := tk } := by
  refine comp2_inner (fun n st' => ∃ k ys nw nD oC' mC' oI h' tk', n = vs2.length - k ∧ k ≤ vs2.length ∧ st' = { s with heap := h', toks := tk' } ∧ J k ys nw ∧ NsObj oC' mC' ∧ (∀ z, z ≠ y → mC' z = mC z) ∧ Fr h₀ L h' m ∧
    News h₀ L h' ((C, oC') :: (D, listOf ys.toArray nD) :: (I2, oI) :: nw) ∧ oI.cls = .type "list_iterator" ∧ oI.data = .fields #[.ref sub, .int k 0] ∧ (∀ q ∈ nw, q.1 ≠ C ∧ q.1 ≠ D ∧ q.1 ≠ I2)) ?_ (vs2.length - 0)
    ⟨0, ys, nw, nD, oC, mC, _, h, tk, rfl, Nat.zero_le _, rfl, hj, hC, fun _ _ => rfl, F, N, rfl, rfl, hd⟩
  rintro n st' ⟨k, ys, nw, nD, oC', mC', oI, h', tk', rfl, hk, rfl, hj, hC', hm, F, N, c1, c2, hd⟩
  obtain ⟨n2, hs2⟩ := hsub _ _ _ hj
  have hLs := News.isList N (.tail _ (.tail _ (.tail _ hs2)))
  have hIt : Heap.IsListIter h' I2 sub k := ⟨oI, (N _ (.tail _ (.tail _ (.head _)))).1, c1, c2⟩
  rcases Nat.lt_or_ge k vs2.length with hlt | hge
  · refine wpAny_pyNext_list_item (x := vs2[k]) hIt hLs (by simp [hlt]) fun h₁ hit₁ hs₁ => ?_
    obtain ⟨oI₁, hg₁, hc₁, hd₁⟩ := hit₁
    have hvk : vs2[k]? = some vs2[k] := List.getElem?_eq_getElem hlt
    obtain ⟨F1, N1⟩ := led_set (d := I2) F (nsub N (l' := (I2, oI) :: (C, oC') :: (D, listOf ys.toArray nD) :: nw) (by intro q hq; simp only [List.mem_cons] at hq ⊢; grind)) (by
      intro q hq; simp only [List.mem_cons] at hq
      rcases hq with rfl | rfl | hq
      · exact hCI
      · exact hDI
      · exact (hd q hq).2.2) hg₁ (fun b x hb e => hs₁.extBut b x hb e)
    dsimp only
    refine wpAny_assign_Name (wpAny_storeName_local (lookup_relabel_local hy) (hC'.ns (N1 _ (.tail _ (.head _))).1) (fun h₃ hn₃ hs₃ => ?_) (by simp [compEnvC, relabel, hkind]))
    obtain ⟨oC₃, heC, hoC₃⟩ := ns_obj hn₃
    obtain ⟨F3, N3⟩ := led_set (d := C) F1 (nsub N1 (l' := (C, oC') :: (D, listOf ys.toArray nD) :: (I2, oI₁) :: nw) (by intro q hq; simp only [List.mem_cons] at hq ⊢; grind)) (by
      intro q hq; simp only [List.mem_cons] at hq
      rcases hq with rfl | rfl | hq
      · exact Ne.symm hCD
      · exact Ne.symm hCI
      · exact (hd q hq).1) heC (fun b x hb e => hs₃.extBut b x hb e)
    refine wpAny_mono (turn k vs2[k] ys nw nD oC₃ _ oI₁ h₃ _ _ hvk hj hoC₃ ?_ F3 N3 hd) (fun yv s₅ h₅ => ?_) fun _ _ e => e
    · intro z
      by_cases hz : z = y
      · simp [hz]
      · simp [hz, hm z hz]
    obtain ⟨h5, tk5, nw5, rfl, F5, N5, hd5, hj5⟩ := h₅
    refine append_K (news := (D, listOf ys.toArray nD) :: (C, oC₃) :: (I2, oI₁) :: nw5) F5 (nsub N5 (by intro q hq; simp only [List.mem_cons] at hq ⊢; grind)) (Upd.head ?_) ?_ ?_
    · intro q hq; simp only [List.mem_cons] at hq
      rcases hq with rfl | rfl | hq
      · exact hCD
      · exact Ne.symm hDI
      · exact (hd5 q hq).2.1
    · intro h6 F6 N6
      refine ⟨vs2.length - (k + 1), by omega, k + 1, ys ++ [yv], nw5, nD + 1, oC₃, _, oI₁, h6, tk5, rfl, hlt, rfl, hj5, hoC₃, ?_, F6, nsub N6 ?_, hc₁, hd₁, hd5⟩
      · intro z hz
        simp [hz, hm z hz]
      · intro q hq; simp only [List.mem_cons, List.push_toArray] at hq ⊢; grind
    · have := hlen _ _ _ hj
      simp only [List.size_toArray, sizeLine_eq]; omega
  · refine wpAny_pyNext_list_end hh hIt hLs (by simp; omega) fun h₁ he₁ => ?_
    obtain rfl : k = vs2.length := by omega
    obtain ⟨F1, N1⟩ := led_drop (d := I2) F (nsub N (l' := (I2, oI) :: (C, oC') :: (D, listOf ys.toArray nD) :: nw) (by intro q hq; simp only [List.mem_cons] at hq ⊢; grind)) (by
      intro q hq; simp only [List.mem_cons] at hq
      rcases hq with rfl | rfl | hq
      · exact hCI
      · exact hDI
      · exact (hd q hq).2.2) (fun b x hb e => he₁ b x hb e)
    exact done ys nw nD oC' mC' h₁ tk' hj hC' F1 N1 hd hm
end
end
section
open PySem PySem.W PySem.Spec PySem.Calls PyProof.Rows
open LCg (NsObj ns_obj)
theorem rot3 {h₀ h : Heap} {L : Addr} {a b c : Addr × Obj} {l : List (Addr × Obj)} (N : News h₀ L h (a :: b :: c :: l)) : News h₀ L h (c :: a :: b :: l) := nsub N (by intro q hq; simp only [List.mem_cons] at hq ⊢; grind)
theorem tor3 {h₀ h : Heap} {L : Addr} {a b c : Addr × Obj} {l : List (Addr × Obj)} (N : News h₀ L h (c :: a :: b :: l)) : News h₀ L h (a :: b :: c :: l) := nsub N (by intro q hq; simp only [List.mem_cons] at hq ⊢; grind)
theorem tor4 {h₀ h : Heap} {L : Addr} {a b c : Addr × Obj} {l : List (Addr × Obj)} (N : News h₀ L h (c :: a :: b :: l)) : News h₀ L h (a :: b :: c :: l) := tor3 N
def Apart (C D I : Addr) (nw : List (Addr × Obj)) : Prop := (C ≠ D ∧ C ≠ I ∧ D ≠ I) ∧ ∀ q ∈ nw, q.1 ≠ C ∧ q.1 ≠ D ∧ q.1 ≠ I
section
variable {prog : Program} {w : World} {A : Around} {E : Value → Shared → Prop} {s : Shared} {h₀ : Heap} {L : Addr} {m : Str → Option Value} {env : Env} {scope : Scope} {cl : List (Str × Addr)} {news : List (Addr × Obj)}
theorem comp2_open {elt it1 it2 : Expr} {x y : Str} {px py : Pos} {pos : Pos} {Q : Value → Shared → Prop} (hclos : closureFor scope env = pure cl) (hkind : scope.kind = .function) (hnames : ∀ y ∈ scope.names, y.2 = .local → scope.names.lookup y.1 = some .local)
    (hs : ∀ x, foldedSetIterable it1 env x = pure x)
    (h : wpAny (model prog w) A (eval it1 env) (fun xv s₁ => wpAny (model prog w) A (pyIter xv) (fun it s₂ => wpAny (model prog w) A (newList []) (fun acc s₃ =>
      wpAny (model prog w) A (newFunctionEnv scope env.globals cl [] env.qual none .none (some env)) (fun cenv s₄ =>
        codeAny (model prog w) A (.compStart (.ListComp elt [⟨.Name x px, it1, [], 0⟩, ⟨.Name y py, it2, [], 0⟩] scope pos) 0 it acc { cenv with scope := relabel scope env }) (compPost (model prog w) A E none Q acc cenv.locals) s₄) E s₃) E s₂) E s₁) E s) :
    wpAny (model prog w) A (eval (.ListComp elt [⟨.Name x px, it1, [], 0⟩, ⟨.Name y py, it2, [], 0⟩] scope pos) env) Q E s := by
  rw [eval_ListComp]
  exact wpAny_comprehension_free (use := none) rfl hs hclos hkind hnames h
theorem comp2_range_K {elt it1 it2 : Expr} {x y : Str} {px py : Pos} {pos : Pos} {r : Addr} {b : Int} {t u v : Tok} {Q : Value → Shared → Prop} (J : Nat → List Value → List (Addr × Obj) → Prop)
    (hh : A.handled = none) (hcell : ∀ z ∈ scope.names, z.2 ≠ .cell) (hkind : scope.kind = .function) (hx : scope.names.lookup x = some .local) (hy : scope.names.lookup y = some .local) (hxy : x ≠ y)
    (hr : IsRange s.heap r 0 b 1 t u v) (hsmall : Builtin.Range.small 0 b 1 = true) (hs2 : ∀ C z, foldedSetIterable it2 (compEnvC scope cl C env) z = pure z)
    (F : Fr h₀ L s.heap m) (N : News h₀ L s.heap news) (hj : J 0 [] news) (hlen : ∀ k ys nw, J k ys nw → ys.length ≤ 900)
    (turn : ∀ k tv ys nw nD C D I oC mC oI h tk (E' : Value → Shared → Prop), k < (Builtin.Range.rangeSize 0 b 1).toNat → J k ys nw → NsObj oC mC → mC x = some (.int k tv) → Fr h₀ L h m → News h₀ L h ((C, oC) :: (D, listOf ys.toArray nD) :: (I, oI) :: nw) → Apart C D I nw →
      wpAny (model prog w) A (eval it2 (compEnvC scope cl C env)) (fun xv s₃ => ∃ (sub : Addr) (vs2 : List Value) (h' : Heap) (tk' : Nat) (nw' : List (Addr × Obj)), ∃ J2 : Nat → List Value → List (Addr × Obj) → Prop, xv = .ref sub ∧ s₃ = { s with heap := h', toks := tk' } ∧ Fr h₀ L h' m ∧
        News h₀ L h' ((C, oC) :: (D, listOf ys.toArray nD) :: (I, oI) :: nw') ∧ Apart C D I nw' ∧ J2 0 ys nw' ∧ (∀ k ys nw, J2 k ys nw → ∃ n, (sub, listOf vs2.toArray n) ∈ nw) ∧ (∀ k ys nw, J2 k ys nw → ys.length ≤ 900) ∧
        (∀ j vj ys nw nD I2 oC' mC' oI2 h tk (E' : Value → Shared → Prop), vs2[j]? = some vj → J2 j ys nw → NsObj oC' mC' → mC' x = some (.int k tv) → mC' y = some vj → Fr h₀ L h m →
          News h₀ L h ((C, oC') :: (D, listOf ys.toArray nD) :: (I2, oI2) :: (I, oI) :: nw) → Apart C D I nw → Apart C D I2 ((I, oI) :: nw) →
          wpAny (model prog w) A (eval elt (compEnvC scope cl C env)) (fun yv s₅ => ∃ h' tk' nw', s₅ = { s with heap := h', toks := tk' } ∧ Fr h₀ L h' m ∧ News h₀ L h' ((C, oC') :: (D, listOf ys.toArray nD) :: (I2, oI2) :: (I, oI) :: nw') ∧
            Apart C D I nw' ∧ Apart C D I2 ((I, oI) :: nw') ∧ J2 (j + 1) (ys ++ [yv]) nw') E' { s with heap := h, toks := tk }) ∧
        (∀ ys nw, J2 vs2.length ys nw → J (k + 1) ys nw)) E' { s with heap := h, toks := tk })
    (done : ∀ ys nw nD D h tk, J (Builtin.Range.rangeSize 0 b 1).toNat ys nw → Fr h₀ L h m → News h₀ L h ((D, listOf ys.toArray nD) :: nw) → (∀ q ∈ nw, q.1 ≠ D) → Q (.ref D) { s with heap := h, toks := tk }) :
    wpAny (model prog w) A (pyIter (.ref r)) (fun it s₂ => wpAny (model prog w) A (newList []) (fun acc s₃ =>
      wpAny (model prog w) A (newFunctionEnv scope env.globals cl [] env.qual none .none (some env)) (fun cenv s₄ =>
        codeAny (model prog w) A (.compStart (.ListComp elt [⟨.Name x px, it1, [], 0⟩, ⟨.Name y py, it2, [], 0⟩] scope pos) 0 it acc { cenv with scope := relabel scope env }) (compPost (model prog w) A E none Q acc cenv.locals) s₄) E s₃) E s₂) E s := by
  refine wpAny_pyIter_range hr hsmall ?_
  generalize hz : Builtin.Range.rangeSize 0 b 1 = z at *
  refine wpAny_newObj_type (wpAny_newFunctionEnv hcell (by intro y hy; simp at hy) (fun h₁ hns₁ hsb₁ => ?_) hkind)
  dsimp only at hns₁ hsb₁ ⊢
  obtain ⟨oC, heC, hoC⟩ := ns_obj hns₁
  have N0 := News.push (((F.push _).push _)) (News.push (F.push _) (News.push F N { cls := Value.type "range_iterator", data := Data.fields #[rawInt 0, rawInt z, rawInt 1] }) { cls := Value.type "list", data := Data.seq ([] : List Value).toArray }) { cls := Value.type (if (some env).isSome = true then "dict" else "frame"), data := Data.dict #[] }
  have hI : ∀ q ∈ news, q.1 < s.heap.objs.size := fun q hq => Heap.lt_size (N q hq).1
  generalize hD : (s.heap.push { cls := Value.type "range_iterator", data := Data.fields #[rawInt 0, rawInt z, rawInt 1] }).objs.size = D at *
  have hD' : D = s.heap.objs.size + 1 := by rw [← hD, Heap.size_push]
  generalize hC : ((s.heap.push { cls := Value.type "range_iterator", data := Data.fields #[rawInt 0, rawInt z, rawInt 1] }).push { cls := Value.type "list", data := Data.seq ([] : List Value).toArray }).objs.size = C at *
  have hC' : C = s.heap.objs.size + 2 := by rw [← hC, Heap.size_push, hD, hD']
  obtain ⟨F1, N1⟩ := led_set (d := C) (((F.push _).push _).push _) N0 (by
    intro q hq; simp only [List.mem_cons] at hq
    rcases hq with rfl | rfl | hq
    · exact Nat.ne_of_lt (show D < C by omega)
    · exact Nat.ne_of_lt (show s.heap.objs.size < C by omega)
    · exact Nat.ne_of_lt (Nat.lt_trans (hI q hq) (by omega))) heC (fun b x hb e => hsb₁.extBut b x hb e)
  have hA : Apart C D s.heap.objs.size news := ⟨⟨Nat.ne_of_gt (show D < C by omega), Nat.ne_of_gt (show s.heap.objs.size < C by omega), Nat.ne_of_gt (show s.heap.objs.size < D by omega)⟩, fun q hq => ⟨Nat.ne_of_lt (Nat.lt_trans (hI q hq) (by omega)), Nat.ne_of_lt (Nat.lt_trans (hI q hq) (by omega)), Nat.ne_of_lt (hI q hq)⟩⟩
  have loop : codeAny (model prog w) A (.compLoop (.ListComp elt [⟨.Name x px, it1, [], 0⟩, ⟨.Name y py, it2, [], 0⟩] scope pos) 0 (.ref s.heap.objs.size) (.ref D) (compEnvC scope cl C env)) (compPost (model prog w) A E none Q (Value.ref D) C) { s with heap := h₁, toks := s.toks + ([] : List (Str × Value)).length } := by
    generalize s.heap.objs.size = I at *
    refine comp2_outer (fun n st' => ∃ k ys nw nD oC' mC' oI h' tk', n = z.toNat - k ∧ k ≤ z.toNat ∧ st' = { s with heap := h', toks := tk' } ∧ J k ys nw ∧ NsObj oC' mC' ∧ Fr h₀ L h' m ∧
      News h₀ L h' ((C, oC') :: (D, listOf ys.toArray nD) :: (I, oI) :: nw) ∧ oI = { cls := .type "range_iterator", dict := none, data := .fields #[rawInt (0 + (k : Int) * 1), rawInt (z - k), rawInt 1], slots := #[] } ∧ Apart C D I nw) ?_ (hs2 C) (z.toNat - 0)
      ⟨0, [], news, 0, oC, _, _, h₁, _, rfl, Nat.zero_le _, rfl, hj, hoC, F1, N1, by simp, hA⟩
    rintro n st' ⟨k, ys, nw, nD, oC', mC', oI, h', tk', rfl, hk, rfl, hj, hC', F, N, rfl, hA⟩
    have hg := (N _ (.tail _ (.tail _ (.head _)))).1
    rcases Nat.lt_or_ge k z.toNat with hlt | hge
    · refine wpAny_pyNext_range_item hg (by omega) fun h₂ hit₂ hs₂ => ?_
      obtain ⟨F2, N2⟩ := led_set (d := I) F (rot3 N) (by
        intro q hq; simp only [List.mem_cons] at hq
        rcases hq with rfl | rfl | hq
        · exact hA.1.2.1
        · exact hA.1.2.2
        · exact (hA.2 q hq).2.2) hit₂ (fun b x hb e => hs₂.extBut b x hb e)
      have e1 : (0 : Int) + (k : Int) * 1 + 1 = 0 + ((k + 1 : Nat) : Int) * 1 := by push_cast; omega
      have e2 : z - (k : Int) - 1 = z - ((k + 1 : Nat) : Int) := by push_cast; omega
      have e3 : (0 : Int) + (k : Int) * 1 = (k : Int) := by omega
      rw [e1, e2] at N2
      rw [e3]
      generalize hoI : ({ cls := .type "range_iterator", dict := none, data := .fields #[rawInt (0 + ((k + 1 : Nat) : Int) * 1), rawInt (z - ((k + 1 : Nat) : Int)), rawInt 1], slots := #[] } : Obj) = oI₂ at *
      dsimp only
      refine wpAny_assign_Name (wpAny_storeName_local (lookup_relabel_local hx) (hC'.ns (N2 _ (.tail _ (.head _))).1) (fun h₃ hn₃ hs₃ => ?_) (by simp [compEnvC, relabel, hkind]))
      obtain ⟨oC₃, heC, hoC₃⟩ := ns_obj hn₃
      obtain ⟨F3, N3⟩ := led_set (d := C) F2 (tor3 N2) (by
        intro q hq; simp only [List.mem_cons] at hq
        rcases hq with rfl | rfl | hq
        · exact Ne.symm hA.1.1
        · exact Ne.symm hA.1.2.1
        · exact (hA.2 q hq).1) heC (fun b x hb e => hs₃.extBut b x hb e)
      refine wpAny_mono (turn k _ ys nw nD C D I oC₃ _ oI₂ h₃ _ _ hlt hj hoC₃ (by simp; rfl) F3 N3 hA) (fun xv s₄ h₄ => ?_) fun _ _ e => e
      obtain ⟨sub, vs2, h5, tk5, nw5, J2, rfl, rfl, F5, N5, hA5, hj5, hsub, hlen2, iturn, fin⟩ := h₄
      obtain ⟨n5, hs5⟩ := hsub _ _ _ hj5
      refine wpAny_pyIter_list (News.isList N5 (.tail _ (.tail _ (.tail _ hs5)))) ?_
      have N6 := tor3 (News.push F5 N5 { cls := .type "list_iterator", data := .fields #[.ref sub, .int 0 0] })
      have F6 := F5.push { cls := .type "list_iterator", data := .fields #[.ref sub, .int 0 0] }
      have hlt6 : ∀ q ∈ (C, oC₃) :: (D, listOf ys.toArray nD) :: (I, oI₂) :: nw5, q.1 < h5.objs.size := fun q hq => Heap.lt_size (N5 q hq).1
      dsimp only
      generalize h5.objs.size = I2 at *
      have loop2 := comp2_inner_K (s := s) (prog := prog) (w := w) (A := A) (elt := elt) (it1 := it1) (it2 := it2) (x := x) (y := y) (px := px) (py := py) (pos := pos) (env := env) (scope := scope) (cl := cl) (C := C) (D := D) (I2 := I2) (sub := sub) (vs2 := vs2)
        (R := fun r s₅ => match r with
            | .ok _ => ∃ m', m' < z.toNat - k ∧ ∃ k ys nw nD oC' mC' oI h' tk', m' = z.toNat - k ∧ k ≤ z.toNat ∧ s₅ = { s with heap := h', toks := tk' } ∧ J k ys nw ∧ NsObj oC' mC' ∧ Fr h₀ L h' m ∧ News h₀ L h' ((C, oC') :: (D, listOf ys.toArray nD) :: (I, oI) :: nw) ∧ oI = { cls := .type "range_iterator", dict := none, data := .fields #[rawInt (0 + (k : Int) * 1), rawInt (z - k), rawInt 1], slots := #[] } ∧ Apart C D I nw
            | .error e => cameBackBy (model prog w) A (compEnvC scope cl C env) (notedBy (model prog w) A (compEnvC scope cl C env) fun e s' => compPost (model prog w) A E none Q (Value.ref D) C (.error e) s') e s₅)
        (fun j ys nwI => ∃ nw, nwI = (I, oI₂) :: nw ∧ J2 j ys nw ∧ Apart C D I nw) hh hkind hy ?_ ?_ hA5.1.1 ?_ ?_ ?_ ?_ ⟨nw5, rfl, hj5, hA5⟩ hoC₃ F6 N6 ?_ (tk := tk5)
      · exact comp2_start loop2 (wpAny_pyIter_listiter ⟨_, (N6 _ (.tail _ (.tail _ (.head _)))).1, rfl, rfl⟩ loop2)
      · rintro j ys₁ nwI ⟨nw₁, rfl, hj₁, _⟩
        obtain ⟨n, hm⟩ := hsub _ _ _ hj₁
        exact ⟨n, .tail _ hm⟩
      · rintro j ys₁ nwI ⟨nw₁, rfl, hj₁, _⟩
        exact Nat.le_trans (hlen2 _ _ _ hj₁) (by omega)
      · exact Nat.ne_of_lt (hlt6 _ (.head _))
      · exact Nat.ne_of_lt (hlt6 _ (.tail _ (.head _)))
      · rintro j vj ys₁ nwI nD₁ oC₁ mC₁ oI₁ h₇ tk₇ E₇ hvj ⟨nw₁, rfl, hj₁, hA₁⟩ hC₁ hm₁ F₇ N₇ hd₇
        refine wpAny_mono (iturn j vj ys₁ nw₁ nD₁ I2 oC₁ mC₁ oI₁ h₇ tk₇ E₇ hvj hj₁ hC₁ ?_ ?_ F₇ N₇ hA₁ ⟨⟨hA5.1.1, Nat.ne_of_lt (hlt6 _ (.head _)), Nat.ne_of_lt (hlt6 _ (.tail _ (.head _)))⟩, hd₇⟩) (fun yv s₈ h₈ => ?_) fun _ _ e => e
        · rw [hm₁ x, if_neg hxy]; simp
        · rw [hm₁ y, if_pos rfl]
        · obtain ⟨h9, tk9, nw9, e9, F9, N9, hA9, hA9', hj9⟩ := h₈
          exact ⟨h9, tk9, _, e9, F9, N9, hA9'.2, nw9, rfl, hj9, hA9⟩
      · rintro ys₁ nwI nD₁ oC₁ mC₁ h₇ tk₇ ⟨nw₁, rfl, hj₁, hA₁⟩ hC₁ F₇ N₇ hd₇ hm₁
        exact ⟨z.toNat - (k + 1), by omega, k + 1, ys₁, nw₁, nD₁, oC₁, mC₁, oI₂, h₇, tk₇, rfl, by omega, rfl, fin _ _ hj₁, hC₁, F₇, N₇, hoI.symm, hA₁⟩
      · intro q hq
        rcases List.mem_cons.mp hq with rfl | hq
        · exact ⟨Ne.symm hA5.1.2.1, Ne.symm hA5.1.2.2, Nat.ne_of_lt (hlt6 _ (.tail _ (.tail _ (.head _))))⟩
        · exact ⟨(hA5.2 q hq).1, (hA5.2 q hq).2.1, Nat.ne_of_lt (hlt6 _ (.tail _ (.tail _ (.tail _ hq))))⟩
    · refine wpAny_pyNext_range_end hh hg (by omega) fun h₂ he₂ => ?_
      obtain rfl : k = z.toNat := by omega
      obtain ⟨F2, N2⟩ := led_drop (d := I) F (rot3 N) (by
        intro q hq; simp only [List.mem_cons] at hq
        rcases hq with rfl | rfl | hq
        · exact hA.1.2.1
        · exact hA.1.2.2
        · exact (hA.2 q hq).2.2) (fun b x hb e => he₂ b x hb e)
      refine ⟨mC', hC'.ns (N2 _ (.head _)).1, fun h₃ hs₃ => ?_⟩
      obtain ⟨F3, N3⟩ := led_drop (d := C) F2 N2 (by
        intro q hq; simp only [List.mem_cons] at hq
        rcases hq with rfl | hq
        · exact Ne.symm hA.1.1
        · exact (hA.2 q hq).1) (fun b x hb e => hs₃.extBut b x hb e)
      exact done ys nw nD D h₃ tk' hj F3 N3 (fun q hq => (hA.2 q hq).2.1)
  exact codeAny_compStart_list loop (wpAny_pyIter_rangeiter (N1 _ (.tail _ (.tail _ (.head _)))).1 loop)
end
end
section
open PySem PySem.W PySem.Spec PySem.Calls PyProof.Rows
open LCg (NsObj ns_obj)
section
variable {prog : Program} {w : World} {A : Around} {E : Value → Shared → Prop} {s : Shared} {h₀ : Heap} {L : Addr} {m : Str → Option Value} {env : Env} {scope : Scope} {cl : List (Str × Addr)} {news : List (Addr × Obj)}
theorem comp1_open {elt it1 tgt : Expr} {pos : Pos} {Q : Value → Shared → Prop} (hclos : closureFor scope env = pure cl) (hkind : scope.kind = .function) (hnames : ∀ y ∈ scope.names, y.2 = .local → scope.names.lookup y.1 = some .local)
    (hs : ∀ x, foldedSetIterable it1 env x = pure x)
    (h : wpAny (model prog w) A (eval it1 env) (fun xv s₁ => wpAny (model prog w) A (pyIter xv) (fun it s₂ => wpAny (model prog w) A (newList []) (fun acc s₃ =>
      wpAny (model prog w) A (newFunctionEnv scope env.globals cl [] env.qual none .none (some env)) (fun cenv s₄ =>
        codeAny (model prog w) A (.compStart (.ListComp elt [⟨tgt, it1, [], 0⟩] scope pos) 0 it acc { cenv with scope := relabel scope env }) (compPost (model prog w) A E none Q acc cenv.locals) s₄) E s₃) E s₂) E s₁) E s) :
    wpAny (model prog w) A (eval (.ListComp elt [⟨tgt, it1, [], 0⟩] scope pos) env) Q E s := by
  rw [eval_ListComp]
  exact wpAny_comprehension_free (use := none) rfl hs hclos hkind hnames h
/-- a turn of the only clause -/
theorem comp1_turn {elt it1 tgt : Expr} {scope : Scope} {pos : Pos} {it acc : Value} {env : Env} {R : Result → Shared → Prop} (I : Nat → Shared → Prop)
    (turn : ∀ n s, I n s → wpAny (model prog w) A (pyNext it) (fun r s₁ => match r with
      | none => R (.ok .next) s₁
      | some v => wpAny (model prog w) A (letOwnedTupleGo tgt it v) (fun _ s₁' => wpAny (model prog w) A (assign tgt env v) (fun _ s₂ => wpAny (model prog w) A (eval elt env) (fun xv s₃ =>
          wpAny (model prog w) A (call (.builtin "list.append") [acc, xv]) (fun _ s₄ => ∃ m, m < n ∧ I m s₄) (notedBy (model prog w) A env fun e s' => R (.error e) s') s₃)
          (notedBy (model prog w) A env fun e s' => R (.error e) s') s₂) (notedBy (model prog w) A env fun e s' => R (.error e) s') s₁') (notedBy (model prog w) A env fun e s' => R (.error e) s') s₁) (notedBy (model prog w) A env fun e s' => R (.error e) s') s)
    (n : Nat) (h : I n s) :
    codeAny (model prog w) A (.compLoop (.ListComp elt [⟨tgt, it1, [], 0⟩] scope pos) 0 it acc env) R s := by
  refine codeAny_loop rfl I (fun n s hI => ?_) n h
  show wpAny _ _ ((compTurn (.ListComp elt [⟨tgt, it1, [], 0⟩] scope pos) 0 it acc env).onRaise (fun x => do noteFrame x env; theTreesLotGoes x)) _ _ s
  refine wpAny_noted ?_
  unfold compTurn
  show wpAny _ _ (standAt it1.pos >>= _) _ _ s
  refine wpAny_bind (wpAny_standAt ?_)
  show wpAny _ _ (pyNext it >>= _) _ _ s
  refine wpAny_bind (wpAny_mono (turn n s hI) (fun r s₁ h₁ => ?_) fun _ _ h' => h')
  cases r with
  | none => exact wpAny_pure h₁
  | some v =>
    show wpAny _ _ (letOwnedTupleGo tgt it v >>= _) _ _ _
    refine wpAny_bind (wpAny_mono h₁ (fun _ s₂ h₂ => ?_) fun _ _ h' => h')
    refine wpAny_bind (wpAny_mono h₂ (fun _ s₂ h₂ => ?_) fun _ _ h' => h')
    show wpAny _ _ ((eval elt env >>= fun z => call (.builtin "list.append") [acc, z] >>= fun _ => pure ()) >>= _) _ _ _
    refine wpAny_bind (wpAny_bind (wpAny_mono h₂ (fun z s₃ h₃ => wpAny_bind (wpAny_mono h₃ (fun _ s₄ h₄ => wpAny_pure (wpAny_pure ⟨rfl, h₄⟩)) fun _ _ h' => h')) fun _ _ h' => h'))
/-- the loop of a one-clause list comprehension -/
theorem comp1_core {elt it1 : Expr} {x : Str} {px : Pos} {pos : Pos} {C D I : Addr} {oC oI : Obj} {mC : Str → Option Value} {n : Nat} {V : Nat → Value → Prop} {O : Nat → Obj → Prop} {Q : Value → Shared → Prop} (J : Nat → List Value → List (Addr × Obj) → Prop)
    (hkind : scope.kind = .function) (hx : scope.names.lookup x = some .local) (hlen : ∀ k ys nw, J k ys nw → ys.length ≤ 900)
    (item : ∀ k (s' : Shared) oi ys nw (Q : Option Value → Shared → Prop) (E' : Value → Shared → Prop), k < n → O k oi → J k ys nw → s'.heap.get? I = some oi → News h₀ L s'.heap nw →
      (∀ v h' tk' oi', V k v → O (k + 1) oi' → h'.get? I = some oi' → Heap.ExtBut I s'.heap h' → Q (some v) { s' with heap := h', toks := tk' }) → wpAny (model prog w) A (pyNext (.ref I)) Q E' s')
    (last : ∀ (s' : Shared) oi ys nw (Q : Option Value → Shared → Prop) (E' : Value → Shared → Prop), O n oi → J n ys nw → s'.heap.get? I = some oi → News h₀ L s'.heap nw →
      (∀ h' tk', Heap.ExtBut I s'.heap h' → Q none { s' with heap := h', toks := tk' }) → wpAny (model prog w) A (pyNext (.ref I)) Q E' s')
    (turn : ∀ k v ys nw nD oC mC oI h tk (E' : Value → Shared → Prop), k < n → V k v → J k ys nw → NsObj oC mC → mC x = some v → Fr h₀ L h m → News h₀ L h ((C, oC) :: (D, listOf ys.toArray nD) :: (I, oI) :: nw) → Apart C D I nw →
      wpAny (model prog w) A (eval elt (compEnvC scope cl C env)) (fun yv s₅ => ∃ h' tk' nw', s₅ = { s with heap := h', toks := tk' } ∧ Fr h₀ L h' m ∧ News h₀ L h' ((C, oC) :: (D, listOf ys.toArray nD) :: (I, oI) :: nw') ∧ Apart C D I nw' ∧ J (k + 1) (ys ++ [yv]) nw') E' { s with heap := h, toks := tk })
    (done : ∀ ys nw nD h tk, J n ys nw → Fr h₀ L h m → News h₀ L h ((D, listOf ys.toArray nD) :: nw) → (∀ q ∈ nw, q.1 ≠ D) → Q (.ref D) { s with heap := h, toks := tk })
    {nw : List (Addr × Obj)} {nD : Nat} {h : Heap} {tk : Nat} (hO : O 0 oI) (hj : J 0 [] nw) (hC : NsObj oC mC) (F : Fr h₀ L h m) (N : News h₀ L h ((C, oC) :: (D, listOf ([] : List Value).toArray nD) :: (I, oI) :: nw)) (hA : Apart C D I nw) :
    codeAny (model prog w) A (.compLoop (.ListComp elt [⟨.Name x px, it1, [], 0⟩] scope pos) 0 (.ref I) (.ref D) (compEnvC scope cl C env)) (compPost (model prog w) A E none Q (Value.ref D) C) { s with heap := h, toks := tk } := by
  refine comp1_turn (fun z st' => ∃ k ys nw nD oC' mC' oI h' tk', z = n - k ∧ k ≤ n ∧ st' = { s with heap := h', toks := tk' } ∧ J k ys nw ∧ NsObj oC' mC' ∧ Fr h₀ L h' m ∧
      News h₀ L h' ((C, oC') :: (D, listOf ys.toArray nD) :: (I, oI) :: nw) ∧ O k oI ∧ Apart C D I nw) ?_ (n - 0)
      ⟨0, [], nw, nD, oC, _, _, h, tk, rfl, Nat.zero_le _, rfl, hj, hC, F, N, hO, hA⟩
  rintro z st' ⟨k, ys, nw, nD, oC', mC', oI, h', tk', rfl, hk, rfl, hj, hC', F, N, hO, hA⟩
  have hg := (N _ (.tail _ (.tail _ (.head _)))).1
  have Nr : News h₀ L h' nw := fun q hq => N q (.tail _ (.tail _ (.tail _ hq)))
  rcases Nat.lt_or_ge k n with hlt | hge
  · refine item k _ oI ys nw _ _ hlt hO hj hg Nr fun v h₂ tk₂ oI₂ hV hO₂ hg₂ hs₂ => ?_
    obtain ⟨F2, N2⟩ := led_set (d := I) F (rot3 N) (by
      intro q hq; simp only [List.mem_cons] at hq
      rcases hq with rfl | rfl | hq
      · exact hA.1.2.1
      · exact hA.1.2.2
      · exact (hA.2 q hq).2.2) hg₂ (fun b x hb e => hs₂ b x hb e)
    dsimp only
    refine wpAny_of_eq (a := ()) rfl ?_
    refine wpAny_assign_Name (wpAny_storeName_local (lookup_relabel_local hx) (hC'.ns (N2 _ (.tail _ (.head _))).1) (fun h₃ hn₃ hs₃ => ?_) (by simp [compEnvC, relabel, hkind]))
    obtain ⟨oC₃, heC, hoC₃⟩ := ns_obj hn₃
    obtain ⟨F3, N3⟩ := led_set (d := C) F2 (tor3 N2) (by
      intro q hq; simp only [List.mem_cons] at hq
      rcases hq with rfl | rfl | hq
      · exact Ne.symm hA.1.1
      · exact Ne.symm hA.1.2.1
      · exact (hA.2 q hq).1) heC (fun b x hb e => hs₃.extBut b x hb e)
    refine wpAny_mono (turn k _ ys nw nD oC₃ _ oI₂ h₃ _ _ hlt hV hj hoC₃ (by simp) F3 N3 hA) (fun yv s₅ h₅ => ?_) fun _ _ e => e
    obtain ⟨h5, tk5, nw5, rfl, F5, N5, hA5, hj5⟩ := h₅
    refine append_K (news := (D, listOf ys.toArray nD) :: (C, oC₃) :: (I, oI₂) :: nw5) F5 (nsub N5 (by intro q hq; simp only [List.mem_cons] at hq ⊢; grind)) (Upd.head ?_) ?_ ?_
    · intro q hq; simp only [List.mem_cons] at hq
      rcases hq with rfl | rfl | hq
      · exact hA5.1.1
      · exact Ne.symm hA5.1.2.2
      · exact (hA5.2 q hq).2.1
    · intro h6 F6 N6
      refine ⟨n - (k + 1), by omega, k + 1, ys ++ [yv], nw5, nD + 1, oC₃, _, oI₂, h6, tk5, rfl, hlt, rfl, hj5, hoC₃, F6, nsub N6 ?_, hO₂, hA5⟩
      intro q hq; simp only [List.mem_cons, List.push_toArray] at hq ⊢; grind
    · have := hlen _ _ _ hj
      simp only [List.size_toArray, sizeLine_eq]; omega
  · obtain rfl : k = n := by omega
    refine last _ oI ys nw _ _ hO hj hg Nr fun h₂ tk₂ he₂ => ?_
    obtain ⟨F2, N2⟩ := led_drop (d := I) F (rot3 N) (by
      intro q hq; simp only [List.mem_cons] at hq
      rcases hq with rfl | rfl | hq
      · exact hA.1.2.1
      · exact hA.1.2.2
      · exact (hA.2 q hq).2.2) (fun b x hb e => he₂ b x hb e)
    refine ⟨mC', hC'.ns (N2 _ (.head _)).1, fun h₃ hs₃ => ?_⟩
    obtain ⟨F3, N3⟩ := led_drop (d := C) F2 N2 (by
      intro q hq; simp only [List.mem_cons] at hq
      rcases hq with rfl | hq
      · exact Ne.symm hA.1.1
      · exact (hA.2 q hq).1) (fun b x hb e => hs₃.extBut b x hb e)
    exact done ys nw nD h₃ tk₂ hj F3 N3 (fun q hq => (hA.2 q hq).2.1)
/-- what stands between the iterator and the loop -/
theorem comp1_start {elt it1 : Expr} {tgt : Expr} {pos : Pos} {I : Addr} {oI : Obj} {Q : Value → Shared → Prop} {h : Heap} {tk : Nat}
    (hcell : ∀ z ∈ scope.names, z.2 ≠ .cell) (hkind : scope.kind = .function) (F : Fr h₀ L h m) (N : News h₀ L h ((I, oI) :: news)) (hn : ∀ q ∈ news, q.1 ≠ I)
    (hiter : ∀ h' tk' (Q' : Value → Shared → Prop) (E' : Value → Shared → Prop), h'.get? I = some oI → Q' (.ref I) { s with heap := h', toks := tk' } → wpAny (model prog w) A (pyIter (.ref I)) Q' E' { s with heap := h', toks := tk' })
    (loop : ∀ C D oC mC h' tk', NsObj oC mC → Fr h₀ L h' m → News h₀ L h' ((C, oC) :: (D, listOf ([] : List Value).toArray 0) :: (I, oI) :: news) → Apart C D I news →
      codeAny (model prog w) A (.compLoop (.ListComp elt [⟨tgt, it1, [], 0⟩] scope pos) 0 (.ref I) (.ref D) (compEnvC scope cl C env)) (compPost (model prog w) A E none Q (Value.ref D) C) { s with heap := h', toks := tk' }) :
    wpAny (model prog w) A (newList []) (fun acc s₃ =>
      wpAny (model prog w) A (newFunctionEnv scope env.globals cl [] env.qual none .none (some env)) (fun cenv s₄ =>
        codeAny (model prog w) A (.compStart (.ListComp elt [⟨tgt, it1, [], 0⟩] scope pos) 0 (.ref I) acc { cenv with scope := relabel scope env }) (compPost (model prog w) A E none Q acc cenv.locals) s₄) E s₃) E { s with heap := h, toks := tk } := by
  refine wpAny_newObj_type (wpAny_newFunctionEnv hcell (by intro y hy; simp at hy) (fun h₁ hns₁ hsb₁ => ?_) hkind)
  dsimp only at hns₁ hsb₁ ⊢
  obtain ⟨oC, heC, hoC⟩ := ns_obj hns₁
  have N0 := News.push (F.push _) (News.push F N { cls := Value.type "list", data := Data.seq ([] : List Value).toArray }) { cls := Value.type (if (some env).isSome = true then "dict" else "frame"), data := Data.dict #[] }
  have hI : ∀ q ∈ (I, oI) :: news, q.1 < h.objs.size := fun q hq => Heap.lt_size (N q hq).1
  generalize hD : h.objs.size = D at *
  generalize hC : (h.push { cls := Value.type "list", data := Data.seq ([] : List Value).toArray }).objs.size = C at *
  have hC' : C = D + 1 := by rw [← hC, Heap.size_push, hD]
  obtain ⟨F1, N1⟩ := led_set (d := C) ((F.push _).push _) N0 (by
    intro q hq
    rcases List.mem_cons.mp hq with rfl | hq
    · exact Nat.ne_of_lt (show D < C by omega)
    · exact Nat.ne_of_lt (Nat.lt_trans (hI q hq) (by omega))) heC (fun b x hb e => hsb₁.extBut b x hb e)
  have hA : Apart C D I news := ⟨⟨Nat.ne_of_gt (show D < C by omega), Nat.ne_of_gt (Nat.lt_trans (hI _ (.head _)) (by omega)), Nat.ne_of_gt (hI _ (.head _))⟩, fun q hq => ⟨Nat.ne_of_lt (Nat.lt_trans (hI q (.tail _ hq)) (by omega)), Nat.ne_of_lt (hI q (.tail _ hq)), hn q hq⟩⟩
  have lp := loop C D oC _ h₁ (tk + ([] : List (Str × Value)).length) hoC F1 N1 hA
  exact codeAny_compStart_list lp (hiter _ _ _ _ (N1 _ (.tail _ (.tail _ (.head _)))).1 lp)
theorem comp1_list_K {elt it1 : Expr} {x : Str} {px : Pos} {pos : Pos} {l : Addr} {vs : List Value} {Q : Value → Shared → Prop} (J : Nat → List Value → List (Addr × Obj) → Prop)
    (hh : A.handled = none) (hcell : ∀ z ∈ scope.names, z.2 ≠ .cell) (hkind : scope.kind = .function) (hx : scope.names.lookup x = some .local)
    (hl : ∀ k ys nw, J k ys nw → ∃ n', (l, listOf vs.toArray n') ∈ nw)
    (F : Fr h₀ L s.heap m) (N : News h₀ L s.heap news) (hj : J 0 [] news) (hlen : ∀ k ys nw, J k ys nw → ys.length ≤ 900)
    (turn : ∀ k v ys nw nD C D I oC mC oI h tk (E' : Value → Shared → Prop), vs[k]? = some v → J k ys nw → NsObj oC mC → mC x = some v → Fr h₀ L h m → News h₀ L h ((C, oC) :: (D, listOf ys.toArray nD) :: (I, oI) :: nw) → Apart C D I nw → 
      wpAny (model prog w) A (eval elt (compEnvC scope cl C env)) (fun yv s₅ => ∃ h' tk' nw', s₅ = { s with heap := h', toks := tk' } ∧ Fr h₀ L h' m ∧ News h₀ L h' ((C, oC) :: (D, listOf ys.toArray nD) :: (I, oI) :: nw') ∧ Apart C D I nw' ∧ J (k + 1) (ys ++ [yv]) nw') E' { s with heap := h, toks := tk })
    (done : ∀ ys nw nD D h tk, J vs.length ys nw → Fr h₀ L h m → News h₀ L h ((D, listOf ys.toArray nD) :: nw) → (∀ q ∈ nw, q.1 ≠ D) → Q (.ref D) { s with heap := h, toks := tk }) :
    wpAny (model prog w) A (pyIter (.ref l)) (fun it s₂ => wpAny (model prog w) A (newList []) (fun acc s₃ =>
      wpAny (model prog w) A (newFunctionEnv scope env.globals cl [] env.qual none .none (some env)) (fun cenv s₄ =>
        codeAny (model prog w) A (.compStart (.ListComp elt [⟨.Name x px, it1, [], 0⟩] scope pos) 0 it acc { cenv with scope := relabel scope env }) (compPost (model prog w) A E none Q acc cenv.locals) s₄) E s₃) E s₂) E s := by
  obtain ⟨n0, hl0⟩ := hl 0 [] news hj
  refine wpAny_pyIter_list (News.isList N hl0) ?_
  refine comp1_start hcell hkind (F.push _) (News.push F N _) (fun q hq => Nat.ne_of_lt (Heap.lt_size (N q hq).1)) ?_ ?_
  · intro h' tk' Q' E' hg hQ
    exact wpAny_pyIter_listiter ⟨_, hg, rfl, rfl⟩ hQ
  · intro C D oC mC h' tk' hC F' N' hA
    refine comp1_core (n := vs.length) (V := fun k v => vs[k]? = some v) (O := fun k o => o.cls = .type "list_iterator" ∧ o.data = .fields #[.ref l, .int k 0]) J hkind hx hlen ?_ ?_ ?_ ?_ ⟨rfl, rfl⟩ hj hC F' N' hA
    · intro k s' oi ys nw Q' E' hk hO hj₁ hg Nr hQ
      obtain ⟨n1, hl1⟩ := hl k ys nw hj₁
      refine wpAny_pyNext_list_item (x := vs[k]) ⟨oi, hg, hO⟩ (News.isList Nr hl1) (by simp [hk]) fun h' hit hs => ?_
      obtain ⟨oi', hg', hc', hd'⟩ := hit
      exact hQ _ h' s'.toks oi' (by simp [hk]) ⟨hc', hd'⟩ hg' hs.extBut
    · intro s' oi ys nw Q' E' hO hj₁ hg Nr hQ
      obtain ⟨n1, hl1⟩ := hl _ ys nw hj₁
      exact wpAny_pyNext_list_end hh ⟨oi, hg, hO⟩ (News.isList Nr hl1) (by simp) fun h' he => hQ h' s'.toks he
    · intro k v ys nw nD oC mC oI h tk E' hk hV hj₁ hC₁ hm F₁ N₁ hA₁
      exact turn k v ys nw nD C D _ oC mC oI h tk E' hV hj₁ hC₁ hm F₁ N₁ hA₁
    · intro ys nw nD h tk hj₁ F₁ N₁ hn₁
      exact done ys nw nD D h tk hj₁ F₁ N₁ hn₁
theorem comp1_range_K {elt it1 : Expr} {x : Str} {px : Pos} {pos : Pos} {r : Addr} {a b c : Int} {t u v : Tok} {Q : Value → Shared → Prop} (J : Nat → List Value → List (Addr × Obj) → Prop)
    (hh : A.handled = none) (hcell : ∀ z ∈ scope.names, z.2 ≠ .cell) (hkind : scope.kind = .function) (hx : scope.names.lookup x = some .local)
    (hr : IsRange s.heap r a b c t u v) (hsmall : Builtin.Range.small a b c = true)
    (F : Fr h₀ L s.heap m) (N : News h₀ L s.heap news) (hj : J 0 [] news) (hlen : ∀ k ys nw, J k ys nw → ys.length ≤ 900)
    (turn : ∀ k tv ys nw nD C D I oC mC oI h tk (E' : Value → Shared → Prop), k < (Builtin.Range.rangeSize a b c).toNat → J k ys nw → NsObj oC mC → mC x = some (.int (a + k * c) tv) → Fr h₀ L h m → News h₀ L h ((C, oC) :: (D, listOf ys.toArray nD) :: (I, oI) :: nw) → Apart C D I nw → 
      wpAny (model prog w) A (eval elt (compEnvC scope cl C env)) (fun yv s₅ => ∃ h' tk' nw', s₅ = { s with heap := h', toks := tk' } ∧ Fr h₀ L h' m ∧ News h₀ L h' ((C, oC) :: (D, listOf ys.toArray nD) :: (I, oI) :: nw') ∧ Apart C D I nw' ∧ J (k + 1) (ys ++ [yv]) nw') E' { s with heap := h, toks := tk })
    (done : ∀ ys nw nD D h tk, J (Builtin.Range.rangeSize a b c).toNat ys nw → Fr h₀ L h m → News h₀ L h ((D, listOf ys.toArray nD) :: nw) → (∀ q ∈ nw, q.1 ≠ D) → Q (.ref D) { s with heap := h, toks := tk }) :
    wpAny (model prog w) A (pyIter (.ref r)) (fun it s₂ => wpAny (model prog w) A (newList []) (fun acc s₃ =>
      wpAny (model prog w) A (newFunctionEnv scope env.globals cl [] env.qual none .none (some env)) (fun cenv s₄ =>
        codeAny (model prog w) A (.compStart (.ListComp elt [⟨.Name x px, it1, [], 0⟩] scope pos) 0 it acc { cenv with scope := relabel scope env }) (compPost (model prog w) A E none Q acc cenv.locals) s₄) E s₃) E s₂) E s := by
  refine wpAny_pyIter_range hr hsmall ?_
  generalize hN : Builtin.Range.rangeSize a b c = z at *
  refine comp1_start hcell hkind (F.push _) (News.push F N _) (fun q hq => Nat.ne_of_lt (Heap.lt_size (N q hq).1)) ?_ ?_
  · intro h' tk' Q' E' hg hQ
    exact wpAny_pyIter_rangeiter hg hQ
  · intro C D oC mC h' tk' hC F' N' hA
    refine comp1_core (n := z.toNat) (V := fun k y => ∃ tv, y = .int (a + k * c) tv) (O := fun k o => o = { cls := .type "range_iterator", dict := none, data := .fields #[rawInt (a + k * c), rawInt (z - k), rawInt c], slots := #[] }) J hkind hx hlen ?_ ?_ ?_ ?_ ?_ hj hC F' N' hA
    · intro k s' oi ys nw Q' E' hk hO hj₁ hg Nr hQ
      subst hO
      refine wpAny_pyNext_range_item hg (by omega) fun h' hit hs => ?_
      refine hQ _ h' _ _ ⟨_, rfl⟩ ?_ hit hs.extBut
      have e1 : a + ((k + 1 : Nat) : Int) * c = a + (k : Int) * c + c := by push_cast; rw [Int.add_mul, Int.one_mul, Int.add_assoc]
      have e2 : z - ((k + 1 : Nat) : Int) = z - (k : Int) - 1 := by push_cast; omega
      rw [e1, e2]
    · intro s' oi ys nw Q' E' hO hj₁ hg Nr hQ
      subst hO
      exact wpAny_pyNext_range_end hh hg (by omega) fun h' he => hQ h' s'.toks he
    · intro k v ys nw nD oC mC oI h tk E' hk hV hj₁ hC₁ hm F₁ N₁ hA₁
      obtain ⟨tv, rfl⟩ := hV
      exact turn k tv ys nw nD C D _ oC mC oI h tk E' hk hj₁ hC₁ hm F₁ N₁ hA₁
    · intro ys nw nD h tk hj₁ F₁ N₁ hn₁
      exact done ys nw nD D h tk hj₁ F₁ N₁ hn₁
    · simp
end
end
section
open PySem PySem.W PySem.Spec PySem.Calls PyProof.Rows
def TalKV (kvs : List (Int × Value)) (l : List Nat) : Prop :=
  (kvs.map (·.1)).Nodup ∧ (∀ kv ∈ kvs, ∃ j : Nat, kv.1 = (j : Int) ∧ 0 < l.count j ∧ ∃ t, kv.2 = Value.str (dots (l.count j + 1)) t) ∧ (∀ j : Nat, 0 < l.count j → ∃ v, ((j : Int), v) ∈ kvs)
theorem tal_nil : TalKV [] [] := ⟨List.nodup_nil, by simp, by simp⟩
theorem valueAt_mem {kvs : List (Int × Value)} {k : Int} {v : Value} (h : valueAt kvs k = some v) : (k, v) ∈ kvs := by
  unfold valueAt at h
  obtain ⟨kv, hf, hv⟩ := Option.map_eq_some_iff.mp h
  have h1 := List.find?_some hf
  have h2 := List.mem_of_find?_eq_some hf
  simp at h1
  subst h1 hv
  exact h2
theorem mem_valueAt {kvs : List (Int × Value)} (hn : (kvs.map (·.1)).Nodup) {k : Int} {v : Value} (h : (k, v) ∈ kvs) : valueAt kvs k = some v := by
  obtain ⟨i, hi, e⟩ := List.mem_iff_getElem.mp h
  exact valueAt_of_get hn (i := i) (by rw [List.getElem?_eq_getElem hi, e])
theorem tal_at {kvs : List (Int × Value)} {l : List Nat} (h : TalKV kvs l) {j : Nat} (hj : 0 < l.count j) : ∃ t, valueAt kvs (j : Int) = some (Value.str (dots (l.count j + 1)) t) := by
  obtain ⟨v, hv⟩ := h.2.2 j hj
  obtain ⟨i, hi, _, t, ht⟩ := h.2.1 _ hv
  obtain rfl : j = i := Int.ofNat_inj.mp hi
  exact ⟨t, by rw [mem_valueAt h.1 hv]; exact congrArg some ht⟩
theorem tal_none {kvs : List (Int × Value)} {l : List Nat} (h : TalKV kvs l) {j : Nat} (hj : l.count j = 0) : valueAt kvs (j : Int) = none := by
  cases e : valueAt kvs (j : Int) with
  | none => rfl
  | some v =>
    obtain ⟨i, hi, hc, _⟩ := h.2.1 _ (valueAt_mem e)
    obtain rfl : j = i := Int.ofNat_inj.mp hi
    omega
theorem tal_get {kvs : List (Int × Value)} {l : List Nat} (h : TalKV kvs l) (j : Nat) (tk : Tok) : ∃ t, (valueAt kvs (j : Int)).getD (Value.str (Str.ofString ".") tk) = Value.str (dots (l.count j + 1)) t := by
  rcases Nat.eq_zero_or_pos (l.count j) with h0 | h0
  · rw [tal_none h h0, h0]; exact ⟨tk, rfl⟩
  · obtain ⟨t, e⟩ := tal_at h h0
    exact ⟨t, by rw [e]; rfl⟩
theorem tal_set {kvs : List (Int × Value)} {l : List Nat} (h : TalKV kvs l) (j : Nat) (t : Tok) : TalKV (stored kvs (j : Int) (Value.str (dots (l.count j + 1 + 1)) t)) (l ++ [j]) := by
  have hcnt : ∀ i, (l ++ [j]).count i = l.count i + if i = j then 1 else 0 := by
    intro i
    rw [List.count_append, List.count_singleton]
    by_cases e : i = j
    · subst e; simp
    · rw [if_neg e, if_neg (by simpa using fun e' => e e'.symm)]
  unfold stored
  split
  · rename_i hany
    refine ⟨?_, ?_, ?_⟩
    · rw [List.map_map]
      have : ((fun x : Int × Value => x.1) ∘ fun kv => if kv.1 = (j : Int) then (kv.1, Value.str (dots (l.count j + 1 + 1)) t) else kv) = fun x => x.1 := by
        funext kv; simp only [Function.comp]; split <;> rfl
      rw [this]; exact h.1
    · intro kv hkv
      obtain ⟨x, hx, rfl⟩ := List.mem_map.mp hkv
      obtain ⟨i, hi, hc, t', ht'⟩ := h.2.1 x hx
      by_cases e : x.1 = (j : Int)
      · rw [if_pos e]
        refine ⟨j, e, by rw [hcnt]; simp, t, ?_⟩
        rw [hcnt, if_pos rfl]
      · rw [if_neg e]
        have : i ≠ j := fun e' => e (by rw [hi, e'])
        exact ⟨i, hi, by rw [hcnt]; omega, t', by rw [hcnt, if_neg this]; exact ht'⟩
    · intro i hi
      by_cases e : i = j
      · subst e
        obtain ⟨x, hx, he⟩ := List.any_eq_true.mp hany
        have he : x.1 = (i : Int) := by simpa using he
        exact ⟨_, List.mem_map.mpr ⟨x, hx, by rw [if_pos he, he]⟩⟩
      · rw [hcnt, if_neg e] at hi
        obtain ⟨v, hv⟩ := h.2.2 i hi
        exact ⟨v, List.mem_map.mpr ⟨_, hv, by rw [if_neg fun e' => e (Int.ofNat_inj.mp e')]⟩⟩
  · rename_i hany
    have hno : ∀ x ∈ kvs, x.1 ≠ (j : Int) := fun x hx e => hany (List.any_eq_true.mpr ⟨x, hx, by simpa using e⟩)
    have hc0 : l.count j = 0 := by
      rcases Nat.eq_zero_or_pos (l.count j) with h0 | h0
      · exact h0
      · obtain ⟨v, hv⟩ := h.2.2 j h0
        exact absurd rfl (hno _ hv)
    refine ⟨?_, ?_, ?_⟩
    · rw [List.map_append, List.nodup_append]
      refine ⟨h.1, by simp, ?_⟩
      intro a ha b hb
      obtain ⟨x, hx, rfl⟩ := List.mem_map.mp ha
      simp at hb
      subst hb
      exact hno x hx
    · intro kv hkv
      rcases List.mem_append.mp hkv with hkv | hkv
      · obtain ⟨i, hi, hc, t', ht'⟩ := h.2.1 kv hkv
        have : i ≠ j := fun e' => hno kv hkv (by rw [hi, e'])
        exact ⟨i, hi, by rw [hcnt]; omega, t', by rw [hcnt, if_neg this]; exact ht'⟩
      · rw [List.mem_singleton.mp hkv]
        exact ⟨j, rfl, by rw [hcnt]; simp, t, by rw [hcnt, if_pos rfl]⟩
    · intro i hi
      by_cases e : i = j
      · subst e
        exact ⟨_, List.mem_append.mpr (.inr (.head _))⟩
      · rw [hcnt, if_neg e] at hi
        obtain ⟨v, hv⟩ := h.2.2 i hi
        exact ⟨v, List.mem_append.mpr (.inl hv)⟩
theorem nodup_sub_len : ∀ {a b : List Int}, a.Nodup → (∀ x ∈ a, x ∈ b) → a.length ≤ b.length
  | [], _, _, _ => Nat.zero_le _
  | x :: a, b, hn, hs => by
    have hx := hs x (.head _)
    have h2 := nodup_sub_len (a := a) (b := b.erase x) (List.nodup_cons.mp hn).2 fun y hy => (List.mem_erase_of_ne (by rintro rfl; exact (List.nodup_cons.mp hn).1 hy)).mpr (hs y (.tail _ hy))
    rw [List.length_erase_of_mem hx] at h2
    have := List.length_pos_of_mem hx
    rw [List.length_cons]; omega
theorem tal_sub {ka kb : List (Int × Value)} {la lb : List Nat} (ha : TalKV ka la) (hb : TalKV kb lb) (h : ∀ j, la.count j = lb.count j) : ka.length ≤ kb.length := by
  have := nodup_sub_len (a := ka.map (·.1)) (b := kb.map (·.1)) ha.1 fun x hx => by
    obtain ⟨kv, hkv, rfl⟩ := List.mem_map.mp hx
    obtain ⟨j, hj, hc, _⟩ := ha.2.1 kv hkv
    obtain ⟨v, hv⟩ := hb.2.2 j (by rw [← h]; exact hc)
    rw [hj]
    exact List.mem_map.mpr ⟨_, hv, rfl⟩
  simpa using this
theorem tal_len {ka kb : List (Int × Value)} {la lb : List Nat} (ha : TalKV ka la) (hb : TalKV kb lb) (h : ∀ j, la.count j = lb.count j) : ka.length = kb.length :=
  Nat.le_antisymm (tal_sub ha hb h) (tal_sub hb ha fun j => (h j).symm)
theorem tal_hits {A : Around} {s : Shared} {kb : List (Int × Value)} {la lb : List Nat} (hb : TalKV kb lb) (h : ∀ j, la.count j = lb.count j) :
    ∀ {ka : List (Int × Value)}, (∀ kv ∈ ka, ∃ j : Nat, kv.1 = (j : Int) ∧ 0 < la.count j ∧ ∃ t, kv.2 = Value.str (dots (la.count j + 1)) t) → KeqHits A s kb ka true
  | [], _ => .nil
  | (k, v) :: r, hr => by
    obtain ⟨j, hj, hc, t, ht⟩ := hr _ (.head _)
    obtain ⟨u, hu⟩ := tal_at hb (j := j) (by rw [← h]; exact hc)
    have ih := tal_hits (A := A) (s := s) hb h (ka := r) fun kv hkv => hr kv (.tail _ hkv)
    dsimp only at hj ht
    subst hj ht
    rw [← h] at hu
    have e := SeqAt.EqAt.str_str (A := A) (s := s) (dots (la.count j + 1)) t (dots (la.count j + 1)) u
    have e2 := KeqHits.hit hu e ih
    simpa using e2
end
section
open PySem PySem.W PySem.Spec PySem.Calls PyProof.Rows
theorem st_canLayAll0 : ∀ ns : List Str, (∀ x ∈ ns, PyData.strOk x = true) → PyData.canLayAll0 (ns.map PyData.str) = true
  | [], _ => rfl
  | a :: r, h => by simp [PyData.canLayAll0, PyData.canLay0, h a (.head _), st_canLayAll0 r fun x hx => h x (.tail _ hx)]
theorem st_depthAll : ∀ ns : List Str, PyData.depthAll (ns.map PyData.str) = 0
  | [] => rfl
  | _ :: r => by simp [PyData.depthAll, PyData.depth, st_depthAll r]
theorem st_shaped {ns : List Str} (h : ∀ x ∈ ns, PyData.strOk x = true) : SeqAt.shaped (.list (ns.map PyData.str)) = true := by
  simp [SeqAt.shaped, PyData.canLay0, PyData.depth, st_canLayAll0 ns h, st_depthAll]
theorem st_sameAll : ∀ ns : List Str, PySem.Spec.sameAll (ns.map PyData.str) (ns.map PyData.str) = true
  | [] => by simp [PySem.Spec.sameAll]
  | a :: r => by
    simp only [List.map_cons, PySem.Spec.sameAll, PySem.Spec.same, st_sameAll r]
    simp
theorem st_same (ns : List Str) : PySem.Spec.same (.list (ns.map PyData.str)) (.list (ns.map PyData.str)) = true := by
  simp only [PySem.Spec.same]; exact st_sameAll ns
theorem st_carried : ∀ {vs : List Value} {ns : List Str}, StrsAre vs ns → CarriedAll vs (ns.map PyData.str)
  | _, _, .nil => .nil
  | _, _, .cons _ t r => .cons (.str _ t) (st_carried r)
section
variable {prog : Program} {w : World} {A : Around} {E : Value → Shared → Prop} {s : Shared} {a b : Addr} {xs ys : List Value} {ns : List Str} {Q : Value → Shared → Prop}
theorem ne_strs (ha : s.heap.IsList a xs.toArray) (hb : s.heap.IsList b ys.toArray) (hi : StrsAre xs ns) (hj : StrsAre ys ns) (ho : ∀ x ∈ ns, PyData.strOk x = true) (hu : A.units + 64 < cLine) (h : Q (.bool false) s) :
    wpAny (model prog w) A (compareOp .NotEq (.ref a) (.ref b)) Q E s :=
  ne_dataH_same (reads_newData ha (st_carried hi)) (reads_newData hb (st_carried hj)) (st_shaped ho) (st_shaped ho) hu (SeqAt.noMix_of_shape (.list .str) rfl _ _ (list_map_has fun _ => rfl) (list_map_has fun _ => rfl)) (by rw [st_same]; exact h)
end
theorem strs_of : ∀ {vs : List Value} {ns : List Str}, vs.length = ns.length → (∀ (j : Nat) (v : Value), vs[j]? = some v → ∃ n : Str, ns[j]? = some n ∧ ∃ t : Tok, v = Value.str n t) → StrsAre vs ns := fun h1 h2 => kdy_strs h1 h2
theorem dots_ok (n : Nat) : PyData.strOk (dots n) = true := by
  unfold PyData.strOk dots
  rw [Array.all_eq_true]
  intro i hi
  rw [Array.getElem_replicate]
  decide
theorem dots_mul_fin : ∀ k : Fin 31, Txt.mul (Str.ofString ".") (k.val : Int) = dots k.val := by decide +kernel
theorem dots_mul {k : Nat} (h : k ≤ 30) : Txt.mul (Str.ofString ".") (k : Int) = dots k := dots_mul_fin ⟨k, by omega⟩
end
section
open PySem PySem.W PySem.Spec PySem.Calls PyProof.Rows
open Sem (wp)
open AutoSeq1 (wpAny_loadPart')
set_option maxHeartbeats 2000000 in
theorem enum_newT (l : Addr) (items : Array Value) (n : Nat) (dct : Option Addr) (sl : Array (Option Value)) :
    Meets (Builtin.«enumerate.__new__» ⟨[.type "enumerate", .ref l], []⟩) (fun _ R s => s.heap.get? l = some { cls := .type "tuple", dict := dct, data := .seq items n, slots := sl } ∧
      R (.ok (.ret (.ref (s.heap.push { cls := .type "tuple_iterator", data := .fields #[.ref l, .int 0 0] }).objs.size)))
        { s with heap := (s.heap.push { cls := .type "tuple_iterator", data := .fields #[.ref l, .int 0 0] }).push { cls := .type "enumerate", data := .fields #[.none, .bool false, .ref s.heap.objs.size, rawInt 0, .none, .none] } }) :=
  .of_wp fun prog w A R s h => by
    obtain ⟨hp, g, d, tk, os⟩ := s; obtain ⟨hl, h⟩ := h
    have hsub := sub_enumerate
    have hL : Heap.IsTuple (Shared.heap ⟨hp, g, d, tk, os⟩) l items := ⟨_, hl, rfl, n, rfl⟩
    wp_walk using wpAny_loadPart' hl
    refine wpAny_stack_any fun st => wpAny_pure ?_
    split
    · rename_i c _ _ _ _ _
      cases (c == Value.type "enumerate")
      · wp_walk using wpAny_loadPart' hl, wpAny_pyIter_tuple hL
        exact ⟨_, rfl, h⟩
      · wp_walk using wpAny_loadPart' hl, wpAny_pyIter_tuple hL
        exact ⟨_, rfl, h⟩
    · wp_walk using wpAny_loadPart' hl, wpAny_pyIter_tuple hL
      exact ⟨_, rfl, h⟩
section
variable {prog : Program} {w : World} {A : Around} {E : Value → Shared → Prop} {s : Shared}
theorem enumerate_tuple {l : Addr} {items : Array Value} {Q : Value → Shared → Prop} (hL : s.heap.IsTuple l items)
    (h : ∀ h', IsEnum h' (s.heap.objs.size + 1) s.heap.objs.size 0 .none → h'.IsTupleIter s.heap.objs.size l 0 → h'.objs.size = s.heap.objs.size + 2 →
      (∀ b o, s.heap.get? b = some o → h'.get? b = some o) → Q (.ref (s.heap.objs.size + 1)) { s with heap := h' }) :
    wpAny (model prog w) A (call (.type "enumerate") [.ref l]) Q E s := by
  obtain ⟨⟨c, dct, dt, sl⟩, hl, hc, n, hd⟩ := hL
  replace hc : c = .type "tuple" := hc
  replace hd : dt = .seq items n := hd
  subst hc hd
  refine callType_new F.called_enumerate (by decide) (F.typeCall_enumerate_1 _) (F.newCall_enumerate_1 _) (fun obj => F.args_object_init_2 obj _) F.entry_enumerate_new
    (enum_newT l items n dct sl) ⟨hl, ?_⟩
  have hz : (s.heap.push { cls := .type "tuple_iterator", data := .fields #[.ref l, .int 0 0] }).objs.size = s.heap.objs.size + 1 := Heap.size_push ..
  show _ ∧ _
  rw [hz]
  have he : IsEnum ((s.heap.push { cls := .type "tuple_iterator", data := .fields #[.ref l, .int 0 0] }).push
      { cls := .type "enumerate", data := .fields #[.none, .bool false, .ref s.heap.objs.size, rawInt 0, .none, .none] }) (s.heap.objs.size + 1) s.heap.objs.size 0 .none := by
    have := Heap.get?_push_size (s.heap.push { cls := .type "tuple_iterator", data := .fields #[.ref l, .int 0 0] })
      (o := { cls := .type "enumerate", data := .fields #[.none, .bool false, .ref s.heap.objs.size, rawInt 0, .none, .none] }) rfl
    rw [hz] at this; exact this
  refine ⟨⟨_, he, rfl⟩, h _ he ⟨_, Heap.get?_push_of_some _ (Heap.get?_push_size _ rfl), rfl, rfl⟩ (by rw [Heap.size_push, hz]) fun b o x => Heap.get?_push_of_some _ (Heap.get?_push_of_some _ x)⟩
theorem nextOf_tuple_item {it t : Addr} {i : Nat} {items} {x : Value} {Q : Value → Shared → Prop} (hit : s.heap.IsTupleIter it t i)
    (ht : s.heap.IsTuple t items) (hx : items[i]? = some x)
    (hQ : ∀ h', h'.IsTupleIter it t (i + 1) → Heap.SameBut it s.heap h' → Q x { s with heap := h' }) :
    wpAny (model prog w) A (Builtin.SmallTypes.nextOf (.ref it)) Q E s := by
  obtain ⟨o, ho, hc, hd⟩ := id hit
  obtain ⟨ol, hol, _, nl, hdl⟩ := ht
  unfold Builtin.SmallTypes.nextOf
  refine wpAny_bind (wpAny_callSpecial?_slot (name := Str.ofString "__next__") hit.typeIs F.slot_tuple_iterator_next
    (wpAny_call_entry F.slot_tuple_iterator_next hit.typeIs F.entry_tuple_iterator_next ?_ (F.args_tuple_iterator_next_1 _)))
  show wpAny _ _ (field (.ref it) 0 >>= _) _ _ s
  refine wpAny_bind (wpAny_field ho hd (x := .ref t) rfl ?_)
  show wpAny _ _ (if (Value.ref t == Value.none) = true then _ else _) _ _ s
  rw [if_neg (show ¬ ((Value.ref t == Value.none) = true) from Bool.false_ne_true)]
  show wpAny _ _ (field (.ref it) 1 >>= _) _ _ s
  refine wpAny_bind (wpAny_field ho hd (x := .int i 0) rfl ?_)
  show wpAny _ _ (seqItems? (.ref t) >>= _) _ _ s
  refine wpAny_bind (wpAny_seqItems hol hdl ?_)
  simp only [Int.toNat_natCast, hx]
  refine wpAny_bind (wpAny_setField ho hd (by simp) (wpAny_pure ⟨x, rfl, wpAny_pure (hQ _ ?_ (Heap.SameBut.update ..))⟩))
  exact ⟨_, Heap.get?_update_self _ ho (Obj.isFreed_of_fields (Obj.data_mapFields hd _)), (Obj.cls_mapFields ..).trans hc, by
    rw [Obj.data_mapFields hd]; simp [rawInt]⟩
theorem nextOf_tuple_end {it t : Addr} {i : Nat} {items} {Q : Value → Shared → Prop} (hh : A.handled = none)
    (hit : s.heap.IsTupleIter it t i) (ht : s.heap.IsTuple t items) (hx : items[i]? = none)
    (hE : ∀ h' e, Heap.ExtBut it s.heap h' → (∃ o, h'.get? e = some o ∧ o.cls = .type "StopIteration") → E (.ref e) { s with heap := h' }) :
    wpAny (model prog w) A (Builtin.SmallTypes.nextOf (.ref it)) Q E s := by
  obtain ⟨o, ho, hc, hd⟩ := id hit
  obtain ⟨ol, hol, _, nl, hdl⟩ := ht
  unfold Builtin.SmallTypes.nextOf
  refine wpAny_bind (wpAny_callSpecial?_slot (name := Str.ofString "__next__") hit.typeIs F.slot_tuple_iterator_next
    (wpAny_call_entry F.slot_tuple_iterator_next hit.typeIs F.entry_tuple_iterator_next ?_ (F.args_tuple_iterator_next_1 _)))
  show wpAny _ _ (field (.ref it) 0 >>= _) _ _ s
  refine wpAny_bind (wpAny_field ho hd (x := .ref t) rfl ?_)
  show wpAny _ _ (if (Value.ref t == Value.none) = true then _ else _) _ _ s
  rw [if_neg (show ¬ ((Value.ref t == Value.none) = true) from Bool.false_ne_true)]
  show wpAny _ _ (field (.ref it) 1 >>= _) _ _ s
  refine wpAny_bind (wpAny_field ho hd (x := .int i 0) rfl ?_)
  show wpAny _ _ (seqItems? (.ref t) >>= _) _ _ s
  refine wpAny_bind (wpAny_seqItems hol hdl ?_)
  simp only [Int.toNat_natCast, hx]
  refine wpAny_bind (wpAny_rule (wpAny_bind (wpAny_setField ho hd (by simp) ?_)))
  show wpAny _ _ (newExc (.type "StopIteration") [] >>= _) _ _ _
  refine wpAny_bind ?_
  simp only [newExc, newTuple]
  refine wpAny_bind (wpAny_newObj_type ?_ (by size_fits))
  refine wpAny_bind (m := firstArgMember _ _) (wpAny_of_eq (a := Value.none) (by first | rfl | (simp only [firstArgMember]; rfl)) ?_)
  refine wpAny_newObj_type ?_ (by size_fits)
  simp only [raiseNew]
  refine wpAny_bind (wpAny_handled ?_)
  first | rw [show A.in1.handled = none from hh] | rw [hh]
  refine wpAny_bind (wpAny_pure (wpAny_throw ?_))
  exact hE _ _ (((Heap.SameBut.update ..).extBut.push _).push _) ⟨_, Heap.get?_push_size _ rfl, rfl⟩
end
theorem draws_tuple {prog : Program} {w : World} {A : Around} (hh : A.handled = none) (it l : Addr) (hne : l ≠ it) (items : Array Value) :
    Draws prog w A it [it, l] items.size (fun i v => items[i]? = some v) (fun i h => h.IsTupleIter it l i ∧ h.IsTuple l items) where
  live := fun _ _ st => let ⟨o, ho, _⟩ := st.1; ⟨o, ho⟩
  frame := fun _ _ _ st hk => ⟨let ⟨o, ho, r⟩ := st.1; ⟨o, hk it (by simp) o ho, r⟩, let ⟨o, ho, r⟩ := st.2; ⟨o, hk l (by simp) o ho, r⟩⟩
  item := fun i s Q E hi st hQ => by
    refine nextOf_tuple_item st.1 st.2 (x := items[i]) (by simp [hi]) fun h' hit' hs' => ?_
    exact hQ _ h' s.toks (by simp [hi]) ⟨hit', st.2.extBut hs'.extBut hne⟩ hs'
  done := fun s Q E st hE => nextOf_tuple_end hh st.1 st.2 (by simp) hE
end
section
open PySem PySem.W PySem.Spec PySem.Calls PyProof.Rows
open LCg (NsObj ns_obj)
def Apart4 (C D e it : Addr) (nw : List (Addr × Obj)) : Prop := (C ≠ D ∧ C ≠ e ∧ C ≠ it ∧ D ≠ e ∧ D ≠ it ∧ e ≠ it) ∧ ∀ q ∈ nw, q.1 ≠ C ∧ q.1 ≠ D ∧ q.1 ≠ e ∧ q.1 ≠ it
theorem fr_off {h₀ h h' : Heap} {L : Addr} {m : Str → Option Value} (F : Fr h₀ L h m) (X : List Addr) (hX : ∀ a ∈ X, a ≠ L ∧ h₀.get? a = none) (hk : ∀ b o, b ∉ X → h.get? b = some o → h'.get? b = some o) : Fr h₀ L h' m :=
  ⟨F.ns.at fun x ex => hk L x (fun hm => (hX L hm).1 rfl) ex, fun b x ex => hk b x (fun hm => by rw [(hX b hm).2] at ex; cases ex) (F.keep b x ex), F.above⟩
theorem news_off {h₀ h h' : Heap} {L : Addr} {l : List (Addr × Obj)} (N : News h₀ L h l) (X : List Addr) (hX : ∀ q ∈ l, q.1 ∉ X) (hk : ∀ b o, b ∉ X → h.get? b = some o → h'.get? b = some o) : News h₀ L h' l :=
  fun q hq => ⟨hk _ _ (hX q hq) (N q hq).1, (N q hq).2⟩
theorem news_at {h₀ h h' : Heap} {L d : Addr} {o o' : Obj} {l : List (Addr × Obj)} (N : News h₀ L h ((d, o) :: l)) (e : h'.get? d = some o') (N' : News h₀ L h' l) : News h₀ L h' ((d, o') :: l) := fun q hq => by
  rcases List.mem_cons.mp hq with rfl | hq
  · exact ⟨e, (N (d, o) (.head _)).2⟩
  · exact N' q hq
section
variable {prog : Program} {w : World} {A : Around} {E : Value → Shared → Prop} {s : Shared} {h₀ : Heap} {L : Addr} {m : Str → Option Value} {env : Env} {scope : Scope} {cl : List (Str × Addr)} {news : List (Addr × Obj)}
/-- a list comprehension whose list a name takes -/
theorem assign_comp_open {elt it1 tgt : Expr} {y : Str} {py pos spos : Pos} {Q : Flow → Shared → Prop}
    (hsw : swapsWith (.ListComp elt [⟨tgt, it1, [], 0⟩] scope pos) (some (.Name y py)) spos.line env = pure true)
    (hclos : closureFor scope env = pure cl) (hkind : scope.kind = .function) (hnames : ∀ y ∈ scope.names, y.2 = .local → scope.names.lookup y.1 = some .local)
    (hs : ∀ x, foldedSetIterable it1 env x = pure x)
    (h : wpAny (model prog w) A (eval it1 env) (fun xv s₁ => wpAny (model prog w) A (pyIter xv) (fun it s₂ => wpAny (model prog w) A (newList []) (fun acc s₃ =>
      wpAny (model prog w) A (newFunctionEnv scope env.globals cl [] env.qual none .none (some env)) (fun cenv s₄ =>
        codeAny (model prog w) A (.compStart (.ListComp elt [⟨tgt, it1, [], 0⟩] scope pos) 0 it acc { cenv with scope := relabel scope env }) (compPost (model prog w) A E (some (assign (.Name y py) env)) (fun _ s' => Q .next s') acc cenv.locals) s₄) E s₃) E s₂) E s₁) E s) :
    wpAny (model prog w) A (exec (.Assign [.Name y py] (.ListComp elt [⟨tgt, it1, [], 0⟩] scope pos) spos) env) Q E s := by
  rw [exec_Assign_Name_used _ _ _ _ hsw]
  refine wpAny_bind (wpAny_standAt (wpAny_bind ?_))
  show wpAny _ A (do let _ ← comprehension (.ListComp elt [⟨tgt, it1, [], 0⟩] scope pos) scope env _ (newList []) false (eval it1 env) (some (assign (.Name y py) env))) _ _ s
  exact wpAny_bind (wpAny_mono (wpAny_comprehension_free (use := some (assign (.Name y py) env)) (Q := fun _ s' => Q .next s') rfl hs hclos hkind hnames h) (fun _ s' hq => wpAny_pure (wpAny_pure hq)) fun _ _ e => e)
theorem start_any {elt it1 : Expr} {tgt : Expr} {pos : Pos} {use : Option (Value → Sem Unit)} {Q : Value → Shared → Prop} {h : Heap} {tk : Nat} {it : Value}
    (hcell : ∀ z ∈ scope.names, z.2 ≠ .cell) (hkind : scope.kind = .function) (F : Fr h₀ L h m) (N : News h₀ L h news)
    (hiter : ∀ h' tk' (Q' : Value → Shared → Prop) (E' : Value → Shared → Prop), News h₀ L h' news → Q' it { s with heap := h', toks := tk' } → wpAny (model prog w) A (pyIter it) Q' E' { s with heap := h', toks := tk' })
    (loop : ∀ C D oC mC h' tk', NsObj oC mC → Fr h₀ L h' m → News h₀ L h' ((C, oC) :: (D, listOf ([] : List Value).toArray 0) :: news) → C ≠ D → (∀ q ∈ news, q.1 ≠ C ∧ q.1 ≠ D) →
      codeAny (model prog w) A (.compLoop (.ListComp elt [⟨tgt, it1, [], 0⟩] scope pos) 0 it (.ref D) (compEnvC scope cl C env)) (compPost (model prog w) A E use Q (Value.ref D) C) { s with heap := h', toks := tk' }) :
    wpAny (model prog w) A (newList []) (fun acc s₃ =>
      wpAny (model prog w) A (newFunctionEnv scope env.globals cl [] env.qual none .none (some env)) (fun cenv s₄ =>
        codeAny (model prog w) A (.compStart (.ListComp elt [⟨tgt, it1, [], 0⟩] scope pos) 0 it acc { cenv with scope := relabel scope env }) (compPost (model prog w) A E use Q acc cenv.locals) s₄) E s₃) E { s with heap := h, toks := tk } := by
  refine wpAny_newObj_type (wpAny_newFunctionEnv hcell (by intro y hy; simp at hy) (fun h₁ hns₁ hsb₁ => ?_) hkind)
  dsimp only at hns₁ hsb₁ ⊢
  obtain ⟨oC, heC, hoC⟩ := ns_obj hns₁
  have N0 := News.push (F.push _) (News.push F N { cls := Value.type "list", data := Data.seq ([] : List Value).toArray }) { cls := Value.type (if (some env).isSome = true then "dict" else "frame"), data := Data.dict #[] }
  have hI : ∀ q ∈ news, q.1 < h.objs.size := fun q hq => Heap.lt_size (N q hq).1
  generalize hD : h.objs.size = D at *
  generalize hC : (h.push { cls := Value.type "list", data := Data.seq ([] : List Value).toArray }).objs.size = C at *
  have hC' : C = D + 1 := by rw [← hC, Heap.size_push, hD]
  obtain ⟨F1, N1⟩ := led_set (d := C) ((F.push _).push _) N0 (by
    intro q hq
    rcases List.mem_cons.mp hq with rfl | hq
    · exact Nat.ne_of_lt (show D < C by omega)
    · exact Nat.ne_of_lt (Nat.lt_trans (hI q hq) (by omega))) heC (fun b x hb e => hsb₁.extBut b x hb e)
  have lp := loop C D oC _ h₁ (tk + ([] : List (Str × Value)).length) hoC F1 N1 (Nat.ne_of_gt (show D < C by omega)) fun q hq => ⟨Nat.ne_of_lt (Nat.lt_trans (hI q hq) (by omega)), Nat.ne_of_lt (hI q hq)⟩
  exact codeAny_compStart_list lp (hiter _ _ _ _ (fun q hq => N1 q (.tail _ (.tail _ hq))) lp)
/-- the loop over enumerate(a tuple) -/
theorem enum_core {elt it1 : Expr} {a b : Str} {pa pb tp pos : Pos} {kk : Nat} {C D e it T : Addr} {oC oi : Obj} {mC : Str → Option Value} {items : List Value} {R : Result → Shared → Prop} (J : Nat → List Value → List (Addr × Obj) → Prop)
    (hh : A.handled = none) (hkind : scope.kind = .function) (ha : scope.names.lookup a = some .local) (hb : scope.names.lookup b = some .local) (hab : a ≠ b) (hlen : ∀ k ys nw, J k ys nw → ys.length ≤ 900)
    (hT : ∀ k ys nw, J k ys nw → ∃ oT n, (T, oT) ∈ nw ∧ oT.cls = .type "tuple" ∧ oT.data = .seq items.toArray n)
    (turn : ∀ k v tv ys nw nD oC mC oe oi h tk (E' : Value → Shared → Prop), items[k]? = some v → J k ys nw → NsObj oC mC → mC a = some (.int k tv) → mC b = some v → Fr h₀ L h m → News h₀ L h ((C, oC) :: (D, listOf ys.toArray nD) :: (e, oe) :: (it, oi) :: nw) → Apart4 C D e it nw →
      wpAny (model prog w) A (eval elt (compEnvC scope cl C env)) (fun yv s₅ => ∃ h' tk' nw', s₅ = { s with heap := h', toks := tk' } ∧ Fr h₀ L h' m ∧ News h₀ L h' ((C, oC) :: (D, listOf ys.toArray nD) :: (e, oe) :: (it, oi) :: nw') ∧ Apart4 C D e it nw' ∧ J (k + 1) (ys ++ [yv]) nw') E' { s with heap := h, toks := tk })
    (done : ∀ ys nw nD oC mC h tk, J items.length ys nw → NsObj oC mC → Fr h₀ L h m → News h₀ L h ((C, oC) :: (D, listOf ys.toArray nD) :: nw) → Apart4 C D e it nw → R (.ok .next) { s with heap := h, toks := tk })
    {nw : List (Addr × Obj)} {nD : Nat} {h : Heap} {tk : Nat} {oe : Obj} (hj : J 0 [] nw) (hC : NsObj oC mC) (F : Fr h₀ L h m) (N : News h₀ L h ((C, oC) :: (D, listOf ([] : List Value).toArray nD) :: (e, oe) :: (it, oi) :: nw)) (hA : Apart4 C D e it nw)
    (he0 : ∃ old, oe = { cls := .type "enumerate", dict := none, data := .fields #[.none, .bool false, .ref it, rawInt (0 : Nat), .none, old], slots := #[] }) (hi0 : oi.cls = .type "tuple_iterator" ∧ oi.data = .fields #[.ref T, .int (0 : Nat) 0]) :
    codeAny (model prog w) A (.compLoop (.ListComp elt [⟨.Tuple [.Name a pa, .Name b pb] kk tp, it1, [], 0⟩] scope pos) 0 (.ref e) (.ref D) (compEnvC scope cl C env)) R { s with heap := h, toks := tk } := by
  refine comp1_turn (fun z st' => ∃ k ys nw nD oC' mC' oe oi h' tk', z = items.length - k ∧ k ≤ items.length ∧ st' = { s with heap := h', toks := tk' } ∧ J k ys nw ∧ NsObj oC' mC' ∧ Fr h₀ L h' m ∧
      News h₀ L h' ((C, oC') :: (D, listOf ys.toArray nD) :: (e, oe) :: (it, oi) :: nw) ∧ (∃ old, oe = { cls := .type "enumerate", dict := none, data := .fields #[.none, .bool false, .ref it, rawInt k, .none, old], slots := #[] }) ∧ (oi.cls = .type "tuple_iterator" ∧ oi.data = .fields #[.ref T, .int k 0]) ∧ Apart4 C D e it nw) ?_ (items.length - 0)
      ⟨0, [], nw, nD, oC, _, oe, oi, _, tk, rfl, Nat.zero_le _, rfl, hj, hC, F, N, he0, hi0, hA⟩
  rintro z st' ⟨k, ys, nw, nD, oC', mC', oe, oi, h', tk', rfl, hk, rfl, hj, hC', F, N, ⟨old, rfl⟩, hoi, hA⟩
  obtain ⟨oT, nT, hTm, hTc, hTd⟩ := hT _ _ _ hj
  have hE : IsEnum h' e it k old := (N _ (.tail _ (.tail _ (.head _)))).1
  have hI : h'.IsTupleIter it T k := ⟨oi, (N _ (.tail _ (.tail _ (.tail _ (.head _))))).1, hoi.1, hoi.2⟩
  have hTu : h'.IsTuple T items.toArray := ⟨oT, (N _ (.tail _ (.tail _ (.tail _ (.tail _ hTm))))).1, hTc, nT, hTd⟩
  have hTe : T ≠ e := (hA.2 _ hTm).2.2.1
  have hTi : T ≠ it := (hA.2 _ hTm).2.2.2
  have DR := draws_tuple (prog := prog) (w := w) (A := A.in1) hh it T hTi items.toArray
  have hX : ∀ x ∈ [e, it], x ≠ L ∧ h₀.get? x = none := by
    intro x hx
    rcases List.mem_cons.mp hx with rfl | hx
    · exact (N _ (.tail _ (.tail _ (.head _)))).2
    · rw [List.mem_singleton.mp hx]; exact (N _ (.tail _ (.tail _ (.tail _ (.head _))))).2
  have hlC : C < h'.objs.size := Heap.lt_size (N _ (.head _)).1
  rcases Nat.lt_or_ge k items.length with hlt | hge
  · refine wpAny_pyNext_enum_itemD DR hE ⟨hI, hTu⟩ (by simpa using hlt) hA.1.2.2.2.2.2 (by simp; exact ⟨hA.1.2.2.2.2.2, Ne.symm hTe⟩) fun x h₁ tk₁ hP ho hst hTup hsz hkeep => ?_
    dsimp only
    refine wpAny_letOwnedTupleGo_enum ho fun h₂ he₂ hs₂ => ?_
    have hTup2 : h₂.IsTuple h'.objs.size #[.int k tk₁, x] := ⟨_, (hs₂.2 _ (Nat.ne_of_gt (Heap.lt_size hE))).trans hTup, rfl, _, rfl⟩
    have keep2 : ∀ b o, b ∉ [e, it] → h'.get? b = some o → h₂.get? b = some o := fun b o hb e' => by
      simp at hb
      exact hs₂.extBut b o hb.1 (hkeep b o hb.1 hb.2 e')
    have hC2 : h₂.Ns C mC' := hC'.ns (keep2 C oC' (by simp; exact ⟨hA.1.2.1, hA.1.2.2.1⟩) (N _ (.head _)).1)
    refine kcp_assign hh hTup2 (lookup_relabel_local ha) (lookup_relabel_local hb) (by simp [compEnvC, relabel, hkind]) hC2 fun h₃ tk₃ hn₃ hk₃ => ?_
    obtain ⟨oC₃, heC, hoC₃⟩ := ns_obj hn₃
    obtain ⟨oi₂, hgi, hci, hdi⟩ := hst.1
    have hki : h₂.get? it = some oi₂ := hs₂.extBut it oi₂ (Ne.symm hA.1.2.2.2.2.2) hgi
    have hCn := (N _ (.head _)).2
    have F3 : Fr h₀ L h₃ m := fr_off (fr_off F [e, it] hX keep2) [C] (fun x hx => by rw [List.mem_singleton.mp hx]; exact hCn) fun b o hb e' => hk₃ b o (fun e9 => hb (List.mem_singleton.mpr e9)) e'
    have N3 : News h₀ L h₃ ((C, oC₃) :: (D, listOf ys.toArray nD) :: (e, { cls := .type "enumerate", dict := none, data := .fields #[.none, .bool false, .ref it, rawInt ((k + 1 : Nat) : Int), .none, x], slots := #[] }) :: (it, oi₂) :: nw) := by
      have Nd : News h₀ L h₂ ((D, listOf ys.toArray nD) :: nw) := news_off (l := (D, listOf ys.toArray nD) :: nw) (nsub N (by intro q hq; simp only [List.mem_cons] at hq ⊢; grind)) [e, it] (by
        intro q hq
        rcases List.mem_cons.mp hq with rfl | hq
        · simp; exact ⟨hA.1.2.2.2.1, hA.1.2.2.2.2.1⟩
        · simp; exact (hA.2 q hq).2.2) keep2
      intro q hq
      simp only [List.mem_cons] at hq
      rcases hq with rfl | rfl | rfl | rfl | hq
      · exact ⟨heC, hCn⟩
      · exact ⟨hk₃ _ _ (Ne.symm hA.1.1) (Nd _ (.head _)).1, (Nd _ (.head _)).2⟩
      · exact ⟨hk₃ _ _ (Ne.symm hA.1.2.1) he₂, hX e (by simp)⟩
      · exact ⟨hk₃ _ _ (Ne.symm hA.1.2.2.1) hki, hX it (by simp)⟩
      · exact ⟨hk₃ _ _ (hA.2 q hq).1 (Nd q (.tail _ hq)).1, (Nd q (.tail _ hq)).2⟩
    refine wpAny_mono (turn k x tk₁ ys nw nD oC₃ _ _ oi₂ h₃ _ _ (by simpa using hP) hj hoC₃ (by rw [if_neg hab, if_pos rfl]) (by rw [if_pos rfl]) F3 N3 hA) (fun yv s₅ h₅ => ?_) fun _ _ e' => e'
    obtain ⟨h5, tk5, nw5, rfl, F5, N5, hA5, hj5⟩ := h₅
    refine append_K (news := (D, listOf ys.toArray nD) :: (C, oC₃) :: (e, { cls := .type "enumerate", dict := none, data := .fields #[.none, .bool false, .ref it, rawInt ((k + 1 : Nat) : Int), .none, x], slots := #[] }) :: (it, oi₂) :: nw5) F5 (nsub N5 (by intro q hq; simp only [List.mem_cons] at hq ⊢; grind)) (Upd.head ?_) ?_ ?_
    · intro q hq; simp only [List.mem_cons] at hq
      rcases hq with rfl | rfl | rfl | hq
      · exact hA5.1.1
      · exact Ne.symm hA5.1.2.2.2.1
      · exact Ne.symm hA5.1.2.2.2.2.1
      · exact (hA5.2 q hq).2.1
    · intro h6 F6 N6
      refine ⟨items.length - (k + 1), by omega, k + 1, ys ++ [yv], nw5, nD + 1, oC₃, _, _, oi₂, h6, tk5, rfl, hlt, rfl, hj5, hoC₃, F6, nsub N6 ?_, ⟨x, rfl⟩, ⟨hci, hdi⟩, hA5⟩
      intro q hq; simp only [List.mem_cons, List.push_toArray] at hq ⊢; grind
    · have := hlen _ _ _ hj
      simp only [List.size_toArray, sizeLine_eq]; omega
  · obtain rfl : k = items.length := by omega
    refine wpAny_pyNext_enum_endD DR hE (by simpa using And.intro hI hTu) fun h₁ he₁ => ?_
    have hkeep : ∀ b o, b ∉ [e, it] → h'.get? b = some o → h₁.get? b = some o := fun b o hb e' => by
      simp at hb
      exact he₁ b o hb.2 e'
    refine done ys nw nD oC' mC' h₁ tk' hj hC' (fr_off F [e, it] hX hkeep) (news_off (l := (C, oC') :: (D, listOf ys.toArray nD) :: nw) (nsub N (by intro q hq; simp only [List.mem_cons] at hq ⊢; grind)) [e, it] ?_ hkeep) hA
    intro q hq
    simp only [List.mem_cons] at hq
    rcases hq with rfl | rfl | hq
    · simp; exact ⟨hA.1.2.1, hA.1.2.2.1⟩
    · simp; exact ⟨hA.1.2.2.2.1, hA.1.2.2.2.2.1⟩
    · simp; exact (hA.2 q hq).2.2
end
end
section
open PySem PySem.W PySem.Spec PySem.Calls PyProof.Rows
example : True := by w_top off; trivial
example : PySem.Challenge.rw_re0010_01 = PySem.Challenge.rw_re0010_01 ∧ hd.heap_39 = hd.heap_39 := by k_fill; exact ⟨rfl, rfl⟩
theorem push_spec {w : World} {p : Program} {loose : List Str} {mean : ExcName → Option Value} {mg mb : Str → Option Value} {dp un : Nat} {gd : Option (List Code)} {cn : Str} {cs : Scope} {a : Addr} {ccd : Value} {cl : List (Str × Addr)} {outer : List Env} {A₀ : Around} {base h₀ : Heap} {L : Addr} {m : Str → Option Value} {s : Shared} {Q E : Value → Shared → Prop} {lx dx pb st : Addr} {n1 : Nat} {t1 t2 t3 t4 t5 t6 : Tok} {hh1 hh2 hh3 hh4 : Int} {its : List Value} {n2 : Nat} {v : Value} {rest : List (Addr × Obj)} (B : Below A₀ base outer h₀) (F : Fr h₀ L s.heap m) (X : (hd.heap_39 w.params).In h₀) (T : Top p loose mean mg mb h₀) (hk : cs.kind = .function) (hdp : dp + 15 < recursionLimit) (hun : un + 140 < cLine)
    (N : News h₀ L s.heap ((pb, listOf its.toArray n2) :: (lx, instObj 76 dx) :: (dx, dictOf [⟨hh1, .str (Str.ofString "lineno") t1, .int 1 t5⟩, ⟨hh2, .str (Str.ofString "instream") t2, .ref st⟩, ⟨hh3, .str (Str.ofString "whitespace") t3, .str (Str.ofString "\n\t\r ") t6⟩, ⟨hh4, .str (Str.ofString "pushback") t4, .ref pb⟩] n1) :: rest))
    (h1 : (lx : Nat) ≠ pb) (h2 : (dx : Nat) ≠ pb) (hr : ∀ q ∈ rest, q.1 ≠ pb) (hz : its.length ≤ 100)
    (ret : ∀ h' tk', Fr h₀ L h' m → News h₀ L h' ((pb, listOf (its ++ [v]).toArray (n2 + 1)) :: (lx, instObj 76 dx) :: (dx, dictOf [⟨hh1, .str (Str.ofString "lineno") t1, .int 1 t5⟩, ⟨hh2, .str (Str.ofString "instream") t2, .ref st⟩, ⟨hh3, .str (Str.ofString "whitespace") t3, .str (Str.ofString "\n\t\r ") t6⟩, ⟨hh4, .str (Str.ofString "pushback") t4, .ref pb⟩] n1) :: rest) → Q .none { s with heap := h', toks := tk' }) :
    wpAny (model PySem.Challenge.pw_re0010_01 w) (ktrTop dp un gd cn cs L a ccd cl outer) (call (.ref 73) [.ref lx, v]) Q E s := by
  refine wpAny_call ?_
  k_dflt ktr_enter
  k_steps
  refine append_K (by k_asm) (by k_asm) (Upd.head ?_) ?_ ?_
  · intro q hq
    rcases List.mem_cons.mp hq with rfl | hq
    · exact h1
    rcases List.mem_cons.mp hq with rfl | hq
    · exact h2
    exact hr q hq
  · intro h' F' N'
    rw [List.push_toArray] at N'
    k_steps
    exact ret _ _ (by k_asm) (by k_asm)
  · simp only [List.size_toArray, sizeLine_eq]; omega
theorem get1_spec {w : World} {p : Program} {loose : List Str} {mean : ExcName → Option Value} {mg mb : Str → Option Value} {dp un : Nat} {gd : Option (List Code)} {cn : Str} {cs : Scope} {a : Addr} {ccd : Value} {cl : List (Str × Addr)} {outer : List Env} {A₀ : Around} {base h₀ : Heap} {L : Addr} {m : Str → Option Value} {s : Shared} {Q E : Value → Shared → Prop} {lx dx pb st : Addr} {n1 : Nat} {t1 t2 t3 t4 t5 t6 : Tok} {hh1 hh2 hh3 hh4 : Int} {its : List Value} {n2 : Nat} {v : Value} {rest : List (Addr × Obj)} (B : Below A₀ base outer h₀) (F : Fr h₀ L s.heap m) (X : (hd.heap_39 w.params).In h₀) (T : Top p loose mean mg mb h₀) (hk : cs.kind = .function) (hdp : dp + 15 < recursionLimit) (hun : un + 140 < cLine)
    (N : News h₀ L s.heap ((pb, listOf (v :: its).toArray n2) :: (lx, instObj 76 dx) :: (dx, dictOf [⟨hh1, .str (Str.ofString "lineno") t1, .int 1 t5⟩, ⟨hh2, .str (Str.ofString "instream") t2, .ref st⟩, ⟨hh3, .str (Str.ofString "whitespace") t3, .str (Str.ofString "\n\t\r ") t6⟩, ⟨hh4, .str (Str.ofString "pushback") t4, .ref pb⟩] n1) :: rest))
    (h1 : (lx : Nat) ≠ pb) (h2 : (dx : Nat) ≠ pb) (hr : ∀ q ∈ rest, q.1 ≠ pb) (hz : its.length ≤ 100)
    (ret : ∀ h' tk', Fr h₀ L h' m → News h₀ L h' ((pb, listOf its.toArray (n2 + 1)) :: (lx, instObj 76 dx) :: (dx, dictOf [⟨hh1, .str (Str.ofString "lineno") t1, .int 1 t5⟩, ⟨hh2, .str (Str.ofString "instream") t2, .ref st⟩, ⟨hh3, .str (Str.ofString "whitespace") t3, .str (Str.ofString "\n\t\r ") t6⟩, ⟨hh4, .str (Str.ofString "pushback") t4, .ref pb⟩] n1) :: rest) → Q v { s with heap := h', toks := tk' }) :
    wpAny (model PySem.Challenge.pw_re0010_01 w) (ktrTop dp un gd cn cs L a ccd cl outer) (call (.ref 66) [.ref lx]) Q E s := by
  refine wpAny_call ?_
  k_dflt ktr_enter
  k_steps
  refine kl_popAt (k := 0) (p := []) (q := its) (by k_asm) (by k_asm) rfl (by simp [seqIndex?]) rfl (Upd.head ?_) ?_ ?_
  · intro q hq
    rcases List.mem_cons.mp hq with rfl | hq
    · exact h1
    rcases List.mem_cons.mp hq with rfl | hq
    · exact h2
    exact hr q hq
  · simp only [List.length_cons, sizeLine_eq]; omega
  · intro h' F' N'
    dsimp only [List.nil_append] at N'
    k_steps
    exact ret _ _ (by k_asm) (by k_asm)
end
section
open PySem PySem.W PySem.Spec PySem.Calls PyProof.Rows
example : True := by w_top off; trivial
example : PySem.Challenge.rw_re0010_01 = PySem.Challenge.rw_re0010_01 ∧ hd.heap_39 = hd.heap_39 := by k_fill; exact ⟨rfl, rfl⟩
def NsO (o : Obj) (m : Str → Option Value) : Prop := ∃ es ep, o.data = .dict es ep ∧ StrKeys es ∧ ∀ name, nsFind es name = m name
theorem NsO.ns {h : Heap} {a : Addr} {o : Obj} {m : Str → Option Value} (x : NsO o m) (e : h.get? a = some o) : h.Ns a m := let ⟨es, ep, d, k, f⟩ := x; ⟨o, es, ep, e, d, k, f⟩
theorem NsO.of {h : Heap} {a : Addr} {m : Str → Option Value} (x : h.Ns a m) : ∃ o, h.get? a = some o ∧ NsO o m := let ⟨o, es, ep, e, d, k, f⟩ := x; ⟨o, e, es, ep, d, k, f⟩
theorem chg_fr {h₀ h h' : Heap} {L x : Addr} {m : Str → Option Value} {o : Obj} {news : List (Addr × Obj)} (F : Fr h₀ L h m) (N : News h₀ L h news) (hx : (x, o) ∈ news)
    (e4 : ∀ b o, b ≠ x → h.get? b = some o → h'.get? b = some o) : Fr h₀ L h' m :=
  ⟨F.ns.at fun o' e => e4 L o' (Ne.symm (N _ hx).2.1) e, fun b o' e => e4 b o' (fun q => by subst q; exact nomatch ((N _ hx).2.2.symm.trans e)) (F.keep b o' e), F.above⟩
theorem chg_news {h₀ h h' : Heap} {L x : Addr} {o o' : Obj} {rest : List (Addr × Obj)} (N : News h₀ L h ((x, o) :: rest)) (hr : ∀ q ∈ rest, q.1 ≠ x) (e1 : h'.get? x = some o')
    (e4 : ∀ b o, b ≠ x → h.get? b = some o → h'.get? b = some o) : News h₀ L h' ((x, o') :: rest) := fun p hp => by
  rcases List.mem_cons.mp hp with rfl | hp
  · exact ⟨e1, (N _ (.head _)).2⟩
  · exact ⟨e4 _ _ (hr p hp) (N p (.tail _ hp)).1, (N p (.tail _ hp)).2⟩
theorem news_add {h₀ h h' : Heap} {L x : Addr} {m : Str → Option Value} {o : Obj} {news : List (Addr × Obj)} (F : Fr h₀ L h m) (N : News h₀ L h' news) (hx : x = h.objs.size) (e : h'.get? x = some o) : News h₀ L h' ((x, o) :: news) := fun p hp => by
  rcases List.mem_cons.mp hp with rfl | hp
  · subst hx
    exact ⟨e, Nat.ne_of_gt F.ns.lt, next_is_new F⟩
  · exact N p hp
theorem News.sub {h₀ h : Heap} {L : Addr} {l l' : List (Addr × Obj)} (N : News h₀ L h l) (hs : ∀ q, q ∈ l' → q ∈ l) : News h₀ L h l' := fun q hq => N q (hs q hq)
def ReadSpec (w : World) (rd at' : Addr) (G : List (Addr × Obj)) : Prop :=
  ∀ {p : Program} {loose : List Str} {mean : ExcName → Option Value} {mg mb : Str → Option Value} {dp un : Nat} {gd : Option (List Code)} {cn : Str} {cs : Scope} {a : Addr} {ccd : Value} {cl : List (Str × Addr)} {outer : List Env} {A₀ : Around} {base h₀ : Heap} {L : Addr} {m : Str → Option Value} {s : Shared} {R : Result → Shared → Prop} {rest : List (Addr × Obj)} {t tk : Tok} {n : Nat}, Below A₀ base outer h₀ → Fr h₀ L s.heap m → (hd.heap_39 w.params).In h₀ → Top p loose mean mg mb h₀ → cs.kind = .function → dp + 5 < recursionLimit → un + 40 < cLine →
    News h₀ L s.heap ((at', listOf [Value.int 0 tk].toArray n) :: (G ++ rest)) → (∀ q ∈ G ++ rest, q.1 ≠ at') →
    (∀ h' tk' tk2 u, Fr h₀ L h' m → News h₀ L h' ((at', listOf [Value.int 0 tk2].toArray n) :: (G ++ rest)) → R (.ok (.ret (.str (Str.ofString "") u))) { s with heap := h', toks := tk' }) →
    codeAny (model PySem.Challenge.pw_re0010_01 w) (ktrTop dp un gd cn cs L a ccd cl outer) (.call (.ref rd) ⟨[.int 1 t], []⟩) R s
theorem readchar_spec {w : World} {p : Program} {loose : List Str} {mean : ExcName → Option Value} {mg mb : Str → Option Value} {dp un : Nat} {gd : Option (List Code)} {cn : Str} {cs : Scope} {a : Addr} {ccd : Value} {cl : List (Str × Addr)} {outer : List Env} {A₀ : Around} {base h₀ : Heap} {L : Addr} {m : Str → Option Value} {s : Shared} {R : Result → Shared → Prop} {lx dx pb st : Addr} {n1 : Nat} {t1 t2 t3 t4 t5 t6 : Tok} {hh1 hh2 hh3 hh4 : Int} {sd rd at' : Addr} {osd : Obj} {fd : FuncData} {sl : Array (Option Value)} {mm : Str → Option Value} {n3 : Nat} {ct0 : Tok} {G rest : List (Addr × Obj)} (B : Below A₀ base outer h₀) (F : Fr h₀ L s.heap m) (X : (hd.heap_39 w.params).In h₀) (T : Top p loose mean mg mb h₀) (hk : cs.kind = .function) (hdp : dp + 8 < recursionLimit) (hun : un + 60 < cLine)
    (RS : ReadSpec w rd at' G) (hfn : ∃ oc od fd sl, (rd, (⟨oc, od, .func fd, sl⟩ : Obj)) ∈ G) (hsd : NsO osd mm) (hmm : mm (Str.ofString "read") = some (.ref rd))
    (N : News h₀ L s.heap ((at', listOf [Value.int 0 ct0].toArray n3) :: (lx, instObj 76 dx) :: (dx, dictOf [⟨hh1, .str (Str.ofString "lineno") t1, .int 1 t5⟩, ⟨hh2, .str (Str.ofString "instream") t2, .ref st⟩, ⟨hh3, .str (Str.ofString "whitespace") t3, .str (Str.ofString "\n\t\r ") t6⟩, ⟨hh4, .str (Str.ofString "pushback") t4, .ref pb⟩] n1) :: (st, ⟨.type "function", some sd, .func fd, sl⟩) :: (sd, osd) :: (G ++ rest)))
    (hr : ∀ q ∈ (lx, instObj 76 dx) :: (dx, dictOf [⟨hh1, .str (Str.ofString "lineno") t1, .int 1 t5⟩, ⟨hh2, .str (Str.ofString "instream") t2, .ref st⟩, ⟨hh3, .str (Str.ofString "whitespace") t3, .str (Str.ofString "\n\t\r ") t6⟩, ⟨hh4, .str (Str.ofString "pushback") t4, .ref pb⟩] n1) :: (st, ⟨.type "function", some sd, .func fd, sl⟩) :: (sd, osd) :: (G ++ rest), q.1 ≠ at')
    (ret : ∀ h' tk' tk2 u, Fr h₀ L h' m → News h₀ L h' ((at', listOf [Value.int 0 tk2].toArray n3) :: (lx, instObj 76 dx) :: (dx, dictOf [⟨hh1, .str (Str.ofString "lineno") t1, .int 1 t5⟩, ⟨hh2, .str (Str.ofString "instream") t2, .ref st⟩, ⟨hh3, .str (Str.ofString "whitespace") t3, .str (Str.ofString "\n\t\r ") t6⟩, ⟨hh4, .str (Str.ofString "pushback") t4, .ref pb⟩] n1) :: (st, ⟨.type "function", some sd, .func fd, sl⟩) :: (sd, osd) :: (G ++ rest)) → R (.ok (.ret (.str (Str.ofString "") u))) { s with heap := h', toks := tk' }) :
    codeAny (model PySem.Challenge.pw_re0010_01 w) (ktrTop dp un gd cn cs L a ccd cl outer) (.call (.ref 59) ⟨[.ref lx], []⟩) R s := by
  (k_dflt (refine' code_def ?k1 ?k2 ?k3 ?k4 ?k5 ?kA ?kF ?kK ?k6 ?k7 ?k8 ?k9 ?kB ?_ ?c2 ?c3 ?c4 ?c5; (case kA => exact rfl); (case kF => exact rfl); (case kK => first | exact rfl | assumption); (case k1 => k_asm); (case k2 => k_asm); (case k3 => k_asm); (case k4 => k_asm); (case k5 => k_asm); (case k6 => k_is); (case k7 => k_is); (case k8 => ktr_room); (case k9 => exact BindsTo.of_eq rfl); (case c5 => decide); (case kB => exact locs rfl); (case c2 => exact rfl); (case c3 => exact rfl); (case c4 => exact rfl); k_whole; intro g' L' h' FG' F' N' B' X' T'; (try dsimp only); (try k_fold)))
  repeat ((fail_if_success (with_reducible show wpAny _ _ (getMethod (Value.ref st) _ _) _ _ _)); (first | (k_unfold; (try dsimp only)) | walk1 | (dsimp only; walk1) | (leave1; (try dsimp only))))
  (with_reducible rename News _ _ _ _ => kN); (with_reducible rename Fr _ _ _ _ => kF)
  refine getmethod_fn (kN.get (.tail _ (.tail _ (.tail _ (.head _))))) (hsd.ns (kN.get (.tail _ (.tail _ (.tail _ (.tail _ (.head _))))))) hmm ?_
  dsimp only
  obtain ⟨oc9, od9, fd9, sl9, hm9⟩ := hfn
  have hm9' : (rd, (⟨oc9, od9, .func fd9, sl9⟩ : Obj)) ∈ G ++ rest := List.mem_append.mpr (.inl hm9)
  refine callWith_F (FnAt.of kN (.tail _ (.tail _ (.tail _ (.tail _ (.tail _ hm9')))))) ?_
  repeat ((fail_if_success (with_reducible show wpAny _ _ (call _ _) _ _ _)); (first | (k_unfold; (try dsimp only)) | walk1 | (dsimp only; walk1) | (leave1; (try dsimp only))))
  · exact FnAt.of (by k_asm) (.tail _ (.tail _ (.tail _ (.tail _ (.tail _ hm9')))))
  (with_reducible rename News _ _ _ _ => kN); (with_reducible rename Fr _ _ _ _ => kF)
  refine wpAny_call (RS (n := n3) (tk := ct0) (dp := dp + 1) (un := un + 3) (outer := envX cn cs L a ccd cl :: outer) (rest := (lx, instObj 76 dx) :: (dx, dictOf [⟨hh1, .str (Str.ofString "lineno") t1, .int 1 t5⟩, ⟨hh2, .str (Str.ofString "instream") t2, .ref st⟩, ⟨hh3, .str (Str.ofString "whitespace") t3, .str (Str.ofString "\n\t\r ") t6⟩, ⟨hh4, .str (Str.ofString "pushback") t4, .ref pb⟩] n1) :: (st, ⟨.type "function", some sd, .func fd, sl⟩) :: (sd, osd) :: rest) (by k_asm) kF (by k_asm) (by k_asm) rfl (by omega) (by omega) (News.sub kN ?_) ?_ ?_)
  · intro q hq; simp only [List.mem_cons, List.mem_append] at hq ⊢; grind
  · intro q hq; apply hr; simp only [List.mem_cons, List.mem_append] at hq ⊢; grind
  · intro h2 tk2 tk3 u F2 N2
    replace N2 := News.sub (l' := (at', listOf [Value.int 0 tk3].toArray n3) :: (lx, instObj 76 dx) :: (dx, dictOf [⟨hh1, .str (Str.ofString "lineno") t1, .int 1 t5⟩, ⟨hh2, .str (Str.ofString "instream") t2, .ref st⟩, ⟨hh3, .str (Str.ofString "whitespace") t3, .str (Str.ofString "\n\t\r ") t6⟩, ⟨hh4, .str (Str.ofString "pushback") t4, .ref pb⟩] n1) :: (st, ⟨.type "function", some sd, .func fd, sl⟩) :: (sd, osd) :: (G ++ rest)) N2 (by intro q hq; simp only [List.mem_cons, List.mem_append] at hq ⊢; grind)
    dsimp only
    k_steps
    exact ret _ _ _ _ (by k_asm) (by k_asm)
theorem get0_spec {w : World} {p : Program} {loose : List Str} {mean : ExcName → Option Value} {mg mb : Str → Option Value} {dp un : Nat} {gd : Option (List Code)} {cn : Str} {cs : Scope} {a : Addr} {ccd : Value} {cl : List (Str × Addr)} {outer : List Env} {A₀ : Around} {base h₀ : Heap} {L : Addr} {m : Str → Option Value} {s : Shared} {R : Result → Shared → Prop} {lx dx pb st : Addr} {n1 : Nat} {t1 t2 t3 t4 t5 t6 : Tok} {hh1 hh2 hh3 hh4 : Int} {sd rd at' : Addr} {osd : Obj} {fd : FuncData} {sl : Array (Option Value)} {mm : Str → Option Value} {n2 n3 : Nat} {ct0 : Tok} {G rest : List (Addr × Obj)} (B : Below A₀ base outer h₀) (F : Fr h₀ L s.heap m) (X : (hd.heap_39 w.params).In h₀) (T : Top p loose mean mg mb h₀) (hk : cs.kind = .function) (hdp : dp + 10 < recursionLimit) (hun : un + 80 < cLine)
    (RS : ReadSpec w rd at' G) (hfn : ∃ oc od fd sl, (rd, (⟨oc, od, .func fd, sl⟩ : Obj)) ∈ G) (hsd : NsO osd mm) (hmm : mm (Str.ofString "read") = some (.ref rd))
    (N : News h₀ L s.heap ((at', listOf [Value.int 0 ct0].toArray n3) :: (lx, instObj 76 dx) :: (dx, dictOf [⟨hh1, .str (Str.ofString "lineno") t1, .int 1 t5⟩, ⟨hh2, .str (Str.ofString "instream") t2, .ref st⟩, ⟨hh3, .str (Str.ofString "whitespace") t3, .str (Str.ofString "\n\t\r ") t6⟩, ⟨hh4, .str (Str.ofString "pushback") t4, .ref pb⟩] n1) :: (st, ⟨.type "function", some sd, .func fd, sl⟩) :: (sd, osd) :: (pb, listOf ([] : List Value).toArray n2) :: (G ++ rest)))
    (hr : ∀ q ∈ (lx, instObj 76 dx) :: (dx, dictOf [⟨hh1, .str (Str.ofString "lineno") t1, .int 1 t5⟩, ⟨hh2, .str (Str.ofString "instream") t2, .ref st⟩, ⟨hh3, .str (Str.ofString "whitespace") t3, .str (Str.ofString "\n\t\r ") t6⟩, ⟨hh4, .str (Str.ofString "pushback") t4, .ref pb⟩] n1) :: (st, ⟨.type "function", some sd, .func fd, sl⟩) :: (sd, osd) :: (pb, listOf ([] : List Value).toArray n2) :: (G ++ rest), q.1 ≠ at')
    (ret : ∀ h' tk' tk2 u, Fr h₀ L h' m → News h₀ L h' ((at', listOf [Value.int 0 tk2].toArray n3) :: (lx, instObj 76 dx) :: (dx, dictOf [⟨hh1, .str (Str.ofString "lineno") t1, .int 1 t5⟩, ⟨hh2, .str (Str.ofString "instream") t2, .ref st⟩, ⟨hh3, .str (Str.ofString "whitespace") t3, .str (Str.ofString "\n\t\r ") t6⟩, ⟨hh4, .str (Str.ofString "pushback") t4, .ref pb⟩] n1) :: (st, ⟨.type "function", some sd, .func fd, sl⟩) :: (sd, osd) :: (pb, listOf ([] : List Value).toArray n2) :: (G ++ rest)) → R (.ok (.ret (.str (Str.ofString "") u))) { s with heap := h', toks := tk' }) :
    codeAny (model PySem.Challenge.pw_re0010_01 w) (ktrTop dp un gd cn cs L a ccd cl outer) (.call (.ref 66) ⟨[.ref lx], []⟩) R s := by
  (k_dflt (refine' code_def ?k1 ?k2 ?k3 ?k4 ?k5 ?kA ?kF ?kK ?k6 ?k7 ?k8 ?k9 ?kB ?_ ?c2 ?c3 ?c4 ?c5; (case kA => exact rfl); (case kF => exact rfl); (case kK => first | exact rfl | assumption); (case k1 => k_asm); (case k2 => k_asm); (case k3 => k_asm); (case k4 => k_asm); (case k5 => k_asm); (case k6 => k_is); (case k7 => k_is); (case k8 => ktr_room); (case k9 => exact BindsTo.of_eq rfl); (case c5 => decide); (case kB => exact locs rfl); (case c2 => exact rfl); (case c3 => exact rfl); (case c4 => exact rfl); k_whole; intro g' L' h' FG' F' N' B' X' T'; (try dsimp only); (try k_fold)))
  repeat ((fail_if_success (with_reducible show wpAny _ _ (call (Value.builtin "iter") _) _ _ _)); (first | (k_unfold; (try dsimp only)) | walk1 | (dsimp only; walk1) | (leave1; (try dsimp only))))
  (with_reducible rename News _ _ _ _ => kN); (with_reducible rename Fr _ _ _ _ => kF)
  (with_reducible rename Frag.In _ _ => kX)
  refine iter2_K kF kN (.head _) ?_
  intro q9 t9 hq9 it h9 F9 N9 hit
  subst hq9
  dsimp only
  repeat ((fail_if_success (with_reducible show wpAny _ _ (exec (Stmt.For _ _ _ _ _) _) _ _ _)); (first | (k_unfold; (try dsimp only)) | walk1 | (dsimp only; walk1) | (leave1; (try dsimp only))))
  refine wpAny_For ?_
  (first | (k_unfold; (try dsimp only)) | walk1 | (dsimp only; walk1) | (leave1; (try dsimp only)))
  (with_reducible rename News _ _ _ _ => kN); (with_reducible rename Fr _ _ _ _ => kF)
  refine pyIter_cit (kN.get (.head _)) (forLoop_end ?_)
  have hf59 := kX 59 _ (by k_is)
  refine pyNext_citK (P := fun rest' => ∃ tk2, rest' = (at', listOf [Value.int 0 tk2].toArray n3) :: (lx, instObj 76 dx) :: (dx, dictOf [⟨hh1, .str (Str.ofString "lineno") t1, .int 1 t5⟩, ⟨hh2, .str (Str.ofString "instream") t2, .ref st⟩, ⟨hh3, .str (Str.ofString "whitespace") t3, .str (Str.ofString "\n\t\r ") t6⟩, ⟨hh4, .str (Str.ofString "pushback") t4, .ref pb⟩] n1) :: (st, ⟨.type "function", some sd, .func fd, sl⟩) :: (sd, osd) :: (pb, listOf ([] : List Value).toArray n2) :: (G ++ rest)) rfl kF kN hf59 rfl ?_ ?_
  · intro R' hR'
    refine readchar_spec (dp := dp + 1) (un := un + 3 + 1) (outer := envX cn cs L a ccd cl :: outer) (n3 := n3) (ct0 := ct0) (lx := lx) (dx := dx) (pb := pb) (st := st) (n1 := n1) (t1 := t1) (t2 := t2) (t3 := t3) (t4 := t4) (t5 := t5) (t6 := t6) (hh1 := hh1) (hh2 := hh2) (hh3 := hh3) (hh4 := hh4) (fd := fd) (sl := sl) (sd := sd) (osd := osd) (G := G) (rest := (it, citObj (.ref q9) (.str (Str.ofString "") t9) false) :: (q9, methodObj (.ref 59) (.ref lx)) :: (pb, listOf ([] : List Value).toArray n2) :: rest) (by k_asm) kF kX (by k_asm) rfl (by omega) (by omega) RS hfn hsd hmm (News.sub kN ?_) ?_ ?_
    · intro q hq; simp only [List.mem_cons, List.mem_append] at hq ⊢; grind
    · intro q hq; simp only [List.mem_cons, List.mem_append] at hq
      rcases hq with rfl | rfl | rfl | rfl | hq | rfl | rfl | rfl | hq
      · exact hr _ (by simp)
      · exact hr _ (by simp)
      · exact hr _ (by simp)
      · exact hr _ (by simp)
      · exact hr _ (by simp [hq])
      · exact Ne.symm (hit (at', listOf [Value.int 0 ct0].toArray n3) (by simp))
      · k_ne
      · exact hr _ (by simp)
      · exact hr _ (by simp [hq])
    · intro h2 tk2 tk3 u F2 N2
      refine hR' u h2 tk2 _ F2 (News.sub N2 ?_) ?_ ⟨tk3, rfl⟩
      · intro q hq; simp only [List.mem_cons, List.mem_append] at hq ⊢; grind
      · intro q hq
        rcases List.mem_cons.mp hq with rfl | hq
        · exact hit _ (by simp)
        rcases List.mem_cons.mp hq with rfl | hq
        · exact hit (at', listOf [Value.int 0 ct0].toArray n3) (by simp)
        exact hit _ (by simp only [List.mem_cons, List.mem_append] at hq ⊢; grind)
  · rintro h2 tk2 rest2 F2 N2 ⟨tk3, rfl⟩
    dsimp only
    k_steps
    exact ret _ _ _ _ (by k_asm) (by k_asm)
end
section
open PySem PySem.W PySem.Spec PySem.Calls PyProof.Rows
example : True := by w_top off; trivial
example : PySem.Challenge.rw_re0010_01 = PySem.Challenge.rw_re0010_01 ∧ hd.heap_39 = hd.heap_39 := by k_fill; exact ⟨rfl, rfl⟩
def Get0Spec (w : World) (lx dx pb at' : Addr) (D : Obj) (G : List (Addr × Obj)) : Prop :=
  ∀ {p : Program} {loose : List Str} {mean : ExcName → Option Value} {mg mb : Str → Option Value} {dp un : Nat} {gd : Option (List Code)} {cn : Str} {cs : Scope} {a : Addr} {ccd : Value} {cl : List (Str × Addr)} {outer : List Env} {A₀ : Around} {base h₀ : Heap} {L : Addr} {m : Str → Option Value} {s : Shared} {R : Result → Shared → Prop} {rest : List (Addr × Obj)} {ct0 : Tok} {n2 n3 : Nat}, Below A₀ base outer h₀ → Fr h₀ L s.heap m → (hd.heap_39 w.params).In h₀ → Top p loose mean mg mb h₀ → cs.kind = .function → dp + 10 < recursionLimit → un + 80 < cLine →
    News h₀ L s.heap ((at', listOf [Value.int 0 ct0].toArray n3) :: (pb, listOf ([] : List Value).toArray n2) :: (lx, instObj 76 dx) :: (dx, D) :: (G ++ rest)) →
    (∀ q ∈ (pb, listOf ([] : List Value).toArray n2) :: (lx, instObj 76 dx) :: (dx, D) :: (G ++ rest), q.1 ≠ at') →
    (∀ h' tk' tk2 u, Fr h₀ L h' m → News h₀ L h' ((at', listOf [Value.int 0 tk2].toArray n3) :: (pb, listOf ([] : List Value).toArray n2) :: (lx, instObj 76 dx) :: (dx, D) :: (G ++ rest)) → R (.ok (.ret (.str (Str.ofString "") u))) { s with heap := h', toks := tk' }) →
    codeAny (model PySem.Challenge.pw_re0010_01 w) (ktrTop dp un gd cn cs L a ccd cl outer) (.call (.ref 66) ⟨[.ref lx], []⟩) R s
theorem get0_of {w : World} {lx dx pb st : Addr} {n1 : Nat} {t1 t2 t3 t4 t5 t6 : Tok} {hh1 hh2 hh3 hh4 : Int} {sd rd at' : Addr} {osd : Obj} {fd : FuncData} {sl : Array (Option Value)} {mm : Str → Option Value} {G : List (Addr × Obj)}
    (RS : ReadSpec w rd at' G) (hfn : ∃ oc od fd sl, (rd, (⟨oc, od, .func fd, sl⟩ : Obj)) ∈ G) (hsd : NsO osd mm) (hmm : mm (Str.ofString "read") = some (.ref rd)) :
    Get0Spec w lx dx pb at' (dictOf [⟨hh1, .str (Str.ofString "lineno") t1, .int 1 t5⟩, ⟨hh2, .str (Str.ofString "instream") t2, .ref st⟩, ⟨hh3, .str (Str.ofString "whitespace") t3, .str (Str.ofString "\n\t\r ") t6⟩, ⟨hh4, .str (Str.ofString "pushback") t4, .ref pb⟩] n1) ((sd, osd) :: (st, ⟨.type "function", some sd, .func fd, sl⟩) :: G) := by
  intro p loose mean mg mb dp un gd cn cs a ccd cl outer A₀ base h₀ L m s R rest ct0 n2 n3 B F X T hk hdp hun N hr ret
  refine get0_spec (n2 := n2) (n3 := n3) (ct0 := ct0) (lx := lx) (dx := dx) (pb := pb) (st := st) (n1 := n1) (t1 := t1) (t2 := t2) (t3 := t3) (t4 := t4) (t5 := t5) (t6 := t6) (hh1 := hh1) (hh2 := hh2) (hh3 := hh3) (hh4 := hh4) (fd := fd) (sl := sl) (sd := sd) (osd := osd) (G := G) (rest := rest) B F X T hk hdp hun RS hfn hsd hmm (News.sub N ?_) ?_ ?_
  · intro q hq; simp only [List.mem_cons, List.mem_append] at hq ⊢; grind
  · intro q hq; apply hr; simp only [List.mem_cons, List.mem_append] at hq ⊢; grind
  · intro h2 tk2 tk3 u F2 N2
    exact ret h2 tk2 tk3 u F2 (News.sub N2 (by intro q hq; simp only [List.mem_cons, List.mem_append] at hq ⊢; grind))
theorem lex_pack {h₀ h : Heap} {L pb lx dx sd st c1 rd c2 at' cA cT : Addr} {o0 o1 o2 osd ost oc1 ord oc2 oat oA oT tab : Obj} {rest : List (Addr × Obj)}
    (N : News h₀ L h ((pb, o0) :: (lx, o1) :: (dx, o2) :: (sd, osd) :: (st, ost) :: (c1, oc1) :: (rd, ord) :: (c2, oc2) :: (at', oat) :: (cA, oA) :: (cT, oT) :: (99, tab) :: rest)) :
    News h₀ L h ((pb, o0) :: (at', oat) :: (lx, o1) :: (dx, o2) :: (((sd, osd) :: (st, ost) :: [(c1, oc1), (rd, ord), (c2, oc2), (cA, oA), (cT, oT)]) ++ (99, tab) :: rest)) :=
  News.sub N (by intro q hq; simp only [List.mem_cons, List.mem_append] at hq ⊢; grind)
local macro_rules | `(tactic| k_all) => `(tactic| first | with_reducible assumption | (refine rest_ne (by with_reducible assumption) ?_; omega))
theorem lexer_spec {w : World} {p : Program} {loose : List Str} {mean : ExcName → Option Value} {mg mb : Str → Option Value} {dp un : Nat} {gd : Option (List Code)} {cn : Str} {cs : Scope} {a : Addr} {ccd : Value} {cl : List (Str × Addr)} {outer : List Env} {A₀ : Around} {base h₀ : Heap} {L : Addr} {m : Str → Option Value} {s : Shared} {R : Result → Shared → Prop} {t : Tok} {rest : List (Addr × Obj)} (B : Below A₀ base outer h₀) (F : Fr h₀ L s.heap m) (X : (hd.heap_39 w.params).In h₀) (T : Top p loose mean mg mb h₀) (hk : cs.kind = .function) (hdp : dp + 4 < recursionLimit) (hun : un + 40 < cLine) (C : CodeHd base 103 99)
    (N : News h₀ L s.heap ((99, tabObj #[]) :: rest)) (hr : ∀ q ∈ rest, q.1 ≠ 99)
    (ret : ∀ {lx dx pb st at' : Addr} {n1 n2 n3 : Nat} {t1 t2 t3 t4 t5 t6 ct0 : Tok} {hh1 hh2 hh3 hh4 : Int} {G : List (Addr × Obj)} {tab : Array Value} h' tk', Fr h₀ L h' m →
      News h₀ L h' ((pb, listOf ([] : List Value).toArray n2) :: (at', listOf [Value.int 0 ct0].toArray n3) :: (lx, instObj 76 dx) :: (dx, dictOf [⟨hh1, .str (Str.ofString "lineno") t1, .int 1 t5⟩, ⟨hh2, .str (Str.ofString "instream") t2, .ref st⟩, ⟨hh3, .str (Str.ofString "whitespace") t3, .str (Str.ofString "\n\t\r ") t6⟩, ⟨hh4, .str (Str.ofString "pushback") t4, .ref pb⟩] n1) :: (G ++ (99, tabObj tab) :: rest)) →
      Get0Spec w lx dx pb at' (dictOf [⟨hh1, .str (Str.ofString "lineno") t1, .int 1 t5⟩, ⟨hh2, .str (Str.ofString "instream") t2, .ref st⟩, ⟨hh3, .str (Str.ofString "whitespace") t3, .str (Str.ofString "\n\t\r ") t6⟩, ⟨hh4, .str (Str.ofString "pushback") t4, .ref pb⟩] n1) G → ((at' : Nat) ≠ pb ∧ (lx : Nat) ≠ pb ∧ (dx : Nat) ≠ pb ∧ (lx : Nat) ≠ at' ∧ (dx : Nat) ≠ at') → (∀ q ∈ G, q.1 ≠ pb ∧ q.1 ≠ at') → (∀ q ∈ (99, tabObj tab) :: rest, q.1 ≠ pb ∧ q.1 ≠ at') → R (.ok (.ret (.ref lx))) { s with heap := h', toks := tk' })
     :
    codeAny (model PySem.Challenge.pw_re0010_01 w) (ktrTop dp un gd cn cs L a ccd cl outer) (.call (.ref 104) ⟨[.str (Str.ofString "") t], []⟩) R s := by
  (k_dflt (refine' code_defC ?k1 ?k2 ?k3 ?k4 ?k5 ?kA ?kF ?kK ?k6 ?k7 ?k8 ?k9 ?kB ?kD ?_ ?c2 ?c3 ?c4; (case kA => exact rfl); (case kF => exact rfl); (case kK => assumption); (case k1 => k_asm); (case k2 => k_asm); (case k3 => k_asm); (case k4 => k_asm); (case k5 => k_asm); (case k6 => k_is); (case k7 => k_is); (case k8 => ktr_room); (case k9 => exact BindsTo.of_eq rfl); (case kB => exact rfl); (case kD => decide +kernel); (case c2 => exact rfl); (case c3 => exact rfl); (case c4 => exact rfl); k_whole; intro g' L' h' tk' cells' FG' F' N' Y' B' X' T' l1; (try k_lt l1); k_cells Y'; (try simp only [List.cons_append, List.nil_append] at N'); (try dsimp only); (try k_fold)))
  have hb := allLt_mem l1.2
  repeat ((fail_if_success (with_reducible show wpAny _ _ (setAttr _ _ _) _ _ _)); (first | (k_unfold; (try dsimp only)) | walk1 | (dsimp only; walk1) | (leave1; (try dsimp only))))
  (with_reducible rename News _ _ _ _ => kN); (with_reducible rename Fr _ _ _ _ => kF)
  refine setattr_fn (kN.get (.head _)) ?_
  intro h1 m1 e1 e2 e3 e4
  obtain ⟨osd, e5, e6⟩ := NsO.of e2
  have F1 := chg_fr kF kN (.head _) e4
  have N1 := chg_news kN (by repeat' (first | (refine' List.forall_mem_cons.mpr ⟨?_, ?_⟩; k_ne) | k_all)) e1 e4
  have N2 := news_add kF N1 rfl e5
  have l9 := allLt_of (fun p hp => Heap.lt_size (kN p hp).1)
  simp only [AllLt, and_true] at l9
  repeat ((fail_if_success (with_reducible show wpAny _ _ (call (Value.ref 76) _) _ _ _)); (first | (k_unfold; (try dsimp only)) | walk1 | (dsimp only; walk1) | (leave1; (try dsimp only))))
  (k_dflt (refine' call_cls ?k1 ?k2 ?k3 ?k4 ?k5 ?k6 ?_; (case k1 => k_asm); (case k2 => k_asm); (case k3 => k_asm); (case k4 => k_is); (case k5 => k_is); (case k6 => k_is); k_whole; intro x' d' h' F' N' l1 l2; (try k_lt l1); (try k_lt2 l2); (try k_sweep)))
  (k_dflt (refine' code_defL ?k1 ?k2 ?k3 ?k4 ?k5 ?kA ?kF ?kK ?k6 ?k7 ?k8 ?k9 ?kB ?_ ?c2 ?c3 ?c4 ?c5; (case kA => exact rfl); (case kF => exact rfl); (case kK => first | exact rfl | assumption); (case k1 => k_asm); (case k2 => k_asm); (case k3 => k_asm); (case k4 => k_asm); (case k5 => k_asm); (case k6 => k_is); (case k7 => k_is); (case k8 => ktr_room); (case k9 => exact BindsTo.of_eq rfl); (case c5 => decide); (case kB => exact locs rfl); (case c2 => exact rfl); (case c3 => exact rfl); (case c4 => exact rfl); k_whole; intro g' L' h' FG' F' N' B' X' T' l1; k_lt l1; (try dsimp only); (try k_fold)))
  k_steps
  (with_reducible rename News _ _ _ _ => kN); (with_reducible rename Fr _ _ _ _ => kF)
  have N9 := lex_pack kN
  refine ret _ _ kF N9 (get0_of (mm := m1) ?_ ⟨_, _, _, _, .tail _ (.head _)⟩ e6 e3) ⟨by k_ne, by k_ne, by k_ne, by k_ne, by k_ne⟩ ?_ ?_
  rotate_left
  · repeat' (first | (refine' List.forall_mem_cons.mpr ⟨⟨?_, ?_⟩, ?_⟩) | exact List.forall_mem_nil _)
    all_goals k_ne
  · refine' List.forall_mem_cons.mpr ⟨⟨by k_ne, by k_ne⟩, fun q hq => ⟨rest_ne hb (by omega) q hq, rest_ne hb (by omega) q hq⟩⟩
  clear kF kN N9 l9 hb e4 e1 e2 e3 e5 e6 ret hr N F
  intro p loose mean mg mb dp un gd cn cs a ccd cl outer A₀ base h₀ L m s R rest t tk n B F X T hk hdp hun N hr ret
  simp only [List.cons_append, List.nil_append] at N hr ret
  (k_dflt (refine' code_nest ?k1 ?k2 ?k3 ?k4 ?k5 ?kA ?kF ?kK ?k6 ?k7 ?k8 ?k9 ?kB ?_ ?c2 ?c3 ?c4 ?c5; (case kA => exact rfl); (case kF => exact rfl); (case kK => first | exact rfl | assumption); (case k1 => k_asm); (case k2 => k_asm); (case k3 => k_asm); (case k4 => k_asm); (case k5 => k_asm); (case k6 => k_mem); (case k7 => exact codeRec_news (by k_asm) (by k_mem) (by assumption) (by assumption)); (case k8 => ktr_room); (case k9 => exact BindsTo.of_eq rfl); (case c5 => decide); (case kB => exact locs rfl); (case c2 => exact rfl); (case c3 => exact rfl); (case c4 => exact rfl); k_whole; intro g' L' h' FG' F' N' B' X' T'; (try dsimp only); (try k_fold)))
  k_steps
  (with_reducible rename News _ _ _ _ => kN); (with_reducible rename Fr _ _ _ _ => kF)
  exact ret _ _ _ _ kF kN
end
section
open PySem PySem.W PySem.Spec PySem.Calls PyProof.Rows
example : True := by w_top off; trivial
example : PySem.Challenge.rw_re0010_01 = PySem.Challenge.rw_re0010_01 ∧ hd.heap_39 = hd.heap_39 := by k_fill; exact ⟨rfl, rfl⟩
def stepQ (st : Nat × Nat) (c : Int) : Nat × Nat := (st.1 + c.toNat, st.2 + c.toNat - (-c).toNat)
def seg (vs : List Value) (come q : Nat) : List Value := (vs.take come).drop (come - q)
def posSum (cs : List Int) : Nat := (cs.map Int.toNat).sum
theorem ne_map {l l' : List (Addr × Obj)} {a : Addr} (h : ∀ q ∈ l, q.1 ≠ a) (e : l.map Prod.fst = l'.map Prod.fst) : ∀ q ∈ l', q.1 ≠ a := fun q hq => by
  have : q.1 ∈ l'.map Prod.fst := List.mem_map_of_mem hq
  rw [← e] at this
  obtain ⟨p, hp, e2⟩ := List.mem_map.mp this
  exact e2 ▸ h p hp
theorem seg_zero (vs : List Value) (c : Nat) : seg vs c 0 = [] := by
  unfold seg
  rw [Nat.sub_zero]
  exact List.drop_eq_nil_of_le (by simp; omega)
theorem seg_push {vs : List Value} {c q : Nat} {v : Value} (hq : q ≤ c) (hv : vs[c]? = some v) : seg vs (c + 1) (q + 1) = seg vs c q ++ [v] := by
  unfold seg
  rw [List.take_add_one, hv, show c + 1 - (q + 1) = c - q by omega]
  have : c < vs.length := by
    rcases Nat.lt_or_ge c vs.length with h | h
    · exact h
    · rw [List.getElem?_eq_none h] at hv; cases hv
  rw [List.drop_append_of_le_length (by simp; omega), Option.toList_some]
theorem seg_pop {vs : List Value} {c q : Nat} (hq : q + 1 ≤ c) (hc : c ≤ vs.length) : ∃ v, vs[c - (q + 1)]? = some v ∧ seg vs c (q + 1) = v :: seg vs c q := by
  unfold seg
  have h1 : c - (q + 1) < (vs.take c).length := by simp; omega
  refine ⟨(vs.take c)[c - (q + 1)], ?_, ?_⟩
  · simp
  · rw [List.drop_eq_getElem_cons h1, show c - (q + 1) + 1 = c - q by omega]
theorem seg_len {vs : List Value} {c q : Nat} (hq : q ≤ c) (hc : c ≤ vs.length) : (seg vs c q).length = q := by
  unfold seg; simp; omega
theorem seg_mem {vs : List Value} {c q : Nat} {v : Value} (h : v ∈ seg vs c q) : v ∈ vs := List.mem_of_mem_take (List.mem_of_mem_drop h)
theorem stepQ_le {st : Nat × Nat} (h : st.2 ≤ st.1) (c : Int) : (stepQ st c).2 ≤ (stepQ st c).1 := by unfold stepQ; dsimp only; omega
theorem fold_le (cs : List Int) : ∀ st : Nat × Nat, st.2 ≤ st.1 → (cs.foldl stepQ st).2 ≤ (cs.foldl stepQ st).1 := by
  induction cs with
  | nil => intro st h; exact h
  | cons c r ih => intro st h; exact ih _ (stepQ_le h c)
theorem fold_come (cs : List Int) : ∀ st : Nat × Nat, (cs.foldl stepQ st).1 = st.1 + posSum cs := by
  induction cs with
  | nil => intro st; simp [posSum]
  | cons c r ih => intro st; rw [List.foldl_cons, ih]; simp [posSum, stepQ]; omega
theorem posSum_take {cs : List Int} {k : Nat} {c : Int} (h : cs[k]? = some c) : posSum (cs.take k) + c.toNat ≤ posSum cs := by
  have : cs = cs.take k ++ c :: cs.drop (k + 1) := by
    have h1 : k < cs.length := by
      rcases Nat.lt_or_ge k cs.length with h' | h'
      · exact h'
      · rw [List.getElem?_eq_none h'] at h; cases h
    have h2 : cs[k] = c := by rw [List.getElem?_eq_getElem h1] at h; exact Option.some.inj h
    rw [← h2, ← List.drop_eq_getElem_cons h1, List.take_append_drop]
  conv => rhs; rw [this]
  simp [posSum]
theorem small7 {c : Int} (h : -3 ≤ c ∧ c ≤ 3) : Builtin.Range.small 0 c 1 = true ∧ (Builtin.Range.rangeSize 0 c 1).toNat = c.toNat ∧ Builtin.Range.small 0 (-c) 1 = true ∧ (Builtin.Range.rangeSize 0 (-c) 1).toNat = (-c).toNat := by
  have : c = -3 ∨ c = -2 ∨ c = -1 ∨ c = 0 ∨ c = 1 ∨ c = 2 ∨ c = 3 := by omega
  rcases this with rfl | rfl | rfl | rfl | rfl | rfl | rfl <;> decide
def GotV (its : List Value) (v : Value) : Prop := match its with
  | [] => ∃ u, v = .str (Str.ofString "") u
  | x :: _ => v = x
theorem gets_spec {w : World} {p : Program} {loose : List Str} {mean : ExcName → Option Value} {mg mb : Str → Option Value} {dp un : Nat} {gd : Option (List Code)} {cn : Str} {cs : Scope} {a : Addr} {ccd : Value} {cl : List (Str × Addr)} {outer : List Env} {A₀ : Around} {base h₀ : Heap} {L : Addr} {m : Str → Option Value} {s : Shared} {Q E : Value → Shared → Prop} {lx dx pb st : Addr} {n1 : Nat} {t1 t2 t3 t4 t5 t6 : Tok} {hh1 hh2 hh3 hh4 : Int} {at' : Addr} {its : List Value} {n2 n3 : Nat} {ct0 : Tok} {G rest : List (Addr × Obj)} (B : Below A₀ base outer h₀) (F : Fr h₀ L s.heap m) (X : (hd.heap_39 w.params).In h₀) (T : Top p loose mean mg mb h₀) (hk : cs.kind = .function) (hdp : dp + 15 < recursionLimit) (hun : un + 140 < cLine)
    (g0 : Get0Spec w lx dx pb at' (dictOf [⟨hh1, .str (Str.ofString "lineno") t1, .int 1 t5⟩, ⟨hh2, .str (Str.ofString "instream") t2, .ref st⟩, ⟨hh3, .str (Str.ofString "whitespace") t3, .str (Str.ofString "\n\t\r ") t6⟩, ⟨hh4, .str (Str.ofString "pushback") t4, .ref pb⟩] n1) G) (hz : its.length ≤ 100)
    (N : News h₀ L s.heap ((pb, listOf its.toArray n2) :: (at', listOf [Value.int 0 ct0].toArray n3) :: (lx, instObj 76 dx) :: (dx, dictOf [⟨hh1, .str (Str.ofString "lineno") t1, .int 1 t5⟩, ⟨hh2, .str (Str.ofString "instream") t2, .ref st⟩, ⟨hh3, .str (Str.ofString "whitespace") t3, .str (Str.ofString "\n\t\r ") t6⟩, ⟨hh4, .str (Str.ofString "pushback") t4, .ref pb⟩] n1) :: (G ++ rest)))
    (d1 : ∀ q ∈ (at', listOf [Value.int 0 ct0].toArray n3) :: (lx, instObj 76 dx) :: (dx, dictOf [⟨hh1, .str (Str.ofString "lineno") t1, .int 1 t5⟩, ⟨hh2, .str (Str.ofString "instream") t2, .ref st⟩, ⟨hh3, .str (Str.ofString "whitespace") t3, .str (Str.ofString "\n\t\r ") t6⟩, ⟨hh4, .str (Str.ofString "pushback") t4, .ref pb⟩] n1) :: (G ++ rest), q.1 ≠ pb)
    (d2 : ∀ q ∈ (lx, instObj 76 dx) :: (dx, dictOf [⟨hh1, .str (Str.ofString "lineno") t1, .int 1 t5⟩, ⟨hh2, .str (Str.ofString "instream") t2, .ref st⟩, ⟨hh3, .str (Str.ofString "whitespace") t3, .str (Str.ofString "\n\t\r ") t6⟩, ⟨hh4, .str (Str.ofString "pushback") t4, .ref pb⟩] n1) :: (G ++ rest), q.1 ≠ at')
    (ret : ∀ v n2' ct' h' tk', GotV its v → Fr h₀ L h' m → News h₀ L h' ((pb, listOf its.tail.toArray n2') :: (at', listOf [Value.int 0 ct'].toArray n3) :: (lx, instObj 76 dx) :: (dx, dictOf [⟨hh1, .str (Str.ofString "lineno") t1, .int 1 t5⟩, ⟨hh2, .str (Str.ofString "instream") t2, .ref st⟩, ⟨hh3, .str (Str.ofString "whitespace") t3, .str (Str.ofString "\n\t\r ") t6⟩, ⟨hh4, .str (Str.ofString "pushback") t4, .ref pb⟩] n1) :: (G ++ rest)) → Q v { s with heap := h', toks := tk' }) :
    wpAny (model PySem.Challenge.pw_re0010_01 w) (ktrTop dp un gd cn cs L a ccd cl outer) (call (.ref 66) [.ref lx]) Q E s := by
  cases its with
  | nil =>
    refine wpAny_call (g0 (rest := rest) (n2 := n2) (n3 := n3) (ct0 := ct0) B F X T hk (by omega) (by omega) (News.sub N ?_) ?_ ?_)
    · intro q hq; simp only [List.mem_cons, List.mem_append] at hq ⊢; grind
    · intro q hq
      rcases List.mem_cons.mp hq with rfl | hq
      · exact Ne.symm (d1 (at', listOf [Value.int 0 ct0].toArray n3) (.head _))
      · exact d2 q hq
    · intro h4 tk4 ct4 u4 F4 N4
      exact ret _ n2 ct4 _ _ ⟨_, rfl⟩ F4 (News.sub N4 (by intro q hq; simp only [List.mem_cons, List.mem_append, List.tail_nil] at hq ⊢; grind))
  | cons v its =>
    simp only [List.length_cons] at hz
    refine get1_spec (lx := lx) (dx := dx) (pb := pb) (st := st) (n1 := n1) (t1 := t1) (t2 := t2) (t3 := t3) (t4 := t4) (t5 := t5) (t6 := t6) (hh1 := hh1) (hh2 := hh2) (hh3 := hh3) (hh4 := hh4) (n2 := n2) (v := v) (its := its) (rest := (at', listOf [Value.int 0 ct0].toArray n3) :: (G ++ rest)) B F X T hk (by omega) (by omega) (News.sub N ?_) ?_ ?_ ?_ (by omega) ?_
    · intro q hq; simp only [List.mem_cons, List.mem_append] at hq ⊢; grind
    · exact d1 (lx, instObj 76 dx) (by simp)
    · exact d1 (dx, dictOf [⟨hh1, .str (Str.ofString "lineno") t1, .int 1 t5⟩, ⟨hh2, .str (Str.ofString "instream") t2, .ref st⟩, ⟨hh3, .str (Str.ofString "whitespace") t3, .str (Str.ofString "\n\t\r ") t6⟩, ⟨hh4, .str (Str.ofString "pushback") t4, .ref pb⟩] n1) (by simp)
    · intro q hq; exact d1 q (by simp only [List.mem_cons, List.mem_append] at hq ⊢; grind)
    · intro h4 tk4 F4 N4
      exact ret _ (n2 + 1) ct0 _ _ rfl F4 (News.sub N4 (by intro q hq; simp only [List.mem_cons, List.mem_append, List.tail_cons] at hq ⊢; grind))
theorem ite_upd {y x : Str} {a b c : Option Value} : (if y = x then a else if y = x then b else c) = if y = x then a else c := by split <;> rfl
theorem ite_swap {y x z : Str} {a b c : Option Value} (h : x ≠ z) : (if y = x then a else if y = z then b else c) = if y = z then b else if y = x then a else c := by
  by_cases h1 : y = x
  · subst h1; simp [h]
  · simp [h1]
def stM (lx oa wa : Addr) (v_change v_turn v_come v_left v_word : Option Value) : Str → Option Value := fun y => if y = Str.ofString "change" then v_change else if y = Str.ofString "turn" then v_turn else if y = Str.ofString "come" then v_come else if y = Str.ofString "left" then v_left else if y = Str.ofString "word" then v_word else if y = Str.ofString "lexer" then some (.ref lx) else if y = Str.ofString "order" then some (.ref oa) else if y = Str.ofString "words" then some (.ref wa) else none
theorem stM_change {lx oa wa : Addr} {v_change v_turn v_come v_left v_word v9 : Option Value} {y : Str} : (if y = Str.ofString "change" then v9 else stM lx oa wa v_change v_turn v_come v_left v_word y) = stM lx oa wa v9 v_turn v_come v_left v_word y := by
  unfold stM; rw [ite_upd]
theorem stM_turn {lx oa wa : Addr} {v_change v_turn v_come v_left v_word v9 : Option Value} {y : Str} : (if y = Str.ofString "turn" then v9 else stM lx oa wa v_change v_turn v_come v_left v_word y) = stM lx oa wa v_change v9 v_come v_left v_word y := by
  unfold stM; rw [ite_swap (x := Str.ofString "turn") (by decide), ite_upd]
theorem stM_come {lx oa wa : Addr} {v_change v_turn v_come v_left v_word v9 : Option Value} {y : Str} : (if y = Str.ofString "come" then v9 else stM lx oa wa v_change v_turn v_come v_left v_word y) = stM lx oa wa v_change v_turn v9 v_left v_word y := by
  unfold stM; rw [ite_swap (x := Str.ofString "come") (by decide), ite_swap (x := Str.ofString "come") (by decide), ite_upd]
theorem stM_left {lx oa wa : Addr} {v_change v_turn v_come v_left v_word v9 : Option Value} {y : Str} : (if y = Str.ofString "left" then v9 else stM lx oa wa v_change v_turn v_come v_left v_word y) = stM lx oa wa v_change v_turn v_come v9 v_word y := by
  unfold stM; rw [ite_swap (x := Str.ofString "left") (by decide), ite_swap (x := Str.ofString "left") (by decide), ite_swap (x := Str.ofString "left") (by decide), ite_upd]
theorem stM_word {lx oa wa : Addr} {v_change v_turn v_come v_left v_word v9 : Option Value} {y : Str} : (if y = Str.ofString "word" then v9 else stM lx oa wa v_change v_turn v_come v_left v_word y) = stM lx oa wa v_change v_turn v_come v_left v9 y := by
  unfold stM; rw [ite_swap (x := Str.ofString "word") (by decide), ite_swap (x := Str.ofString "word") (by decide), ite_swap (x := Str.ofString "word") (by decide), ite_swap (x := Str.ofString "word") (by decide), ite_upd]
theorem stM_init {lx oa wa : Addr} : (fun y => ([(Str.ofString "lexer", .ref lx), (Str.ofString "order", .ref oa), (Str.ofString "words", .ref wa)] : List (Str × Value)).reverse.lookup y) = stM lx oa wa none none none none none := by
  funext y
  by_cases e0 : y = Str.ofString "change"
  · subst e0; rfl
  by_cases e1 : y = Str.ofString "turn"
  · subst e1; rfl
  by_cases e2 : y = Str.ofString "come"
  · subst e2; rfl
  by_cases e3 : y = Str.ofString "left"
  · subst e3; rfl
  by_cases e4 : y = Str.ofString "word"
  · subst e4; rfl
  by_cases e5 : y = Str.ofString "lexer"
  · subst e5; rfl
  by_cases e6 : y = Str.ofString "order"
  · subst e6; rfl
  by_cases e7 : y = Str.ofString "words"
  · subst e7; rfl
  simp only [stM, List.reverse_cons, List.reverse_nil, List.nil_append, List.cons_append, lookup_ite, if_neg e0, if_neg e1, if_neg e2, if_neg e3, if_neg e4, if_neg e5, if_neg e6, if_neg e7]
  rfl
local macro_rules | `(tactic| k_all) => `(tactic| first | with_reducible assumption | (refine rest_ne (by with_reducible assumption) ?_; omega))
theorem still_spec {w : World} {p : Program} {loose : List Str} {mean : ExcName → Option Value} {mg mb : Str → Option Value} {dp un : Nat} {gd : Option (List Code)} {cn : Str} {cs : Scope} {a : Addr} {ccd : Value} {cl : List (Str × Addr)} {outer : List Env} {A₀ : Around} {base h₀ : Heap} {L : Addr} {m : Str → Option Value} {s : Shared} {R : Result → Shared → Prop} {lx dx pb st : Addr} {n1 : Nat} {t1 t2 t3 t4 t5 t6 : Tok} {hh1 hh2 hh3 hh4 : Int} {at' oa wa : Addr} {ovs wvs : List Value} {cs' : List Int} {n2 n3 no nw : Nat} {ct0 : Tok} {G rest : List (Addr × Obj)} (B : Below A₀ base outer h₀) (F : Fr h₀ L s.heap m) (X : (hd.heap_39 w.params).In h₀) (T : Top p loose mean mg mb h₀) (hk : cs.kind = .function) (hdp : dp + 20 < recursionLimit) (hun : un + 160 < cLine)
    (g0 : Get0Spec w lx dx pb at' (dictOf [⟨hh1, .str (Str.ofString "lineno") t1, .int 1 t5⟩, ⟨hh2, .str (Str.ofString "instream") t2, .ref st⟩, ⟨hh3, .str (Str.ofString "whitespace") t3, .str (Str.ofString "\n\t\r ") t6⟩, ⟨hh4, .str (Str.ofString "pushback") t4, .ref pb⟩] n1) G) (hi : IntsAre ovs cs') (hc : ∀ c ∈ cs', -3 ≤ c ∧ c ≤ 3) (hw : posSum cs' ≤ wvs.length) (hw2 : wvs.length ≤ 100) (hws : ∀ v ∈ wvs, ∃ x t, v = .str x t ∧ x ≠ Str.ofString "")
    (N : News h₀ L s.heap ((pb, listOf ([] : List Value).toArray n2) :: (at', listOf [Value.int 0 ct0].toArray n3) :: (lx, instObj 76 dx) :: (dx, dictOf [⟨hh1, .str (Str.ofString "lineno") t1, .int 1 t5⟩, ⟨hh2, .str (Str.ofString "instream") t2, .ref st⟩, ⟨hh3, .str (Str.ofString "whitespace") t3, .str (Str.ofString "\n\t\r ") t6⟩, ⟨hh4, .str (Str.ofString "pushback") t4, .ref pb⟩] n1) :: (oa, listOf ovs.toArray no) :: (wa, listOf wvs.toArray nw) :: (G ++ rest)))
    (d1 : ∀ q ∈ (at', listOf [Value.int 0 ct0].toArray n3) :: (lx, instObj 76 dx) :: (dx, dictOf [⟨hh1, .str (Str.ofString "lineno") t1, .int 1 t5⟩, ⟨hh2, .str (Str.ofString "instream") t2, .ref st⟩, ⟨hh3, .str (Str.ofString "whitespace") t3, .str (Str.ofString "\n\t\r ") t6⟩, ⟨hh4, .str (Str.ofString "pushback") t4, .ref pb⟩] n1) :: (oa, listOf ovs.toArray no) :: (wa, listOf wvs.toArray nw) :: (G ++ rest), q.1 ≠ pb)
    (d2 : ∀ q ∈ (lx, instObj 76 dx) :: (dx, dictOf [⟨hh1, .str (Str.ofString "lineno") t1, .int 1 t5⟩, ⟨hh2, .str (Str.ofString "instream") t2, .ref st⟩, ⟨hh3, .str (Str.ofString "whitespace") t3, .str (Str.ofString "\n\t\r ") t6⟩, ⟨hh4, .str (Str.ofString "pushback") t4, .ref pb⟩] n1) :: (oa, listOf ovs.toArray no) :: (wa, listOf wvs.toArray nw) :: (G ++ rest), q.1 ≠ at')
    (ret : ∀ la nl n2' ct' h' tk', Fr h₀ L h' m → News h₀ L h' ((la, listOf (seg wvs (cs'.foldl stepQ (0, 0)).1 (cs'.foldl stepQ (0, 0)).2).toArray nl) :: (pb, listOf ([] : List Value).toArray n2') :: (at', listOf [Value.int 0 ct'].toArray n3) :: (lx, instObj 76 dx) :: (dx, dictOf [⟨hh1, .str (Str.ofString "lineno") t1, .int 1 t5⟩, ⟨hh2, .str (Str.ofString "instream") t2, .ref st⟩, ⟨hh3, .str (Str.ofString "whitespace") t3, .str (Str.ofString "\n\t\r ") t6⟩, ⟨hh4, .str (Str.ofString "pushback") t4, .ref pb⟩] n1) :: (oa, listOf ovs.toArray no) :: (wa, listOf wvs.toArray nw) :: (G ++ rest)) →
      (∀ q ∈ (pb, listOf ([] : List Value).toArray n2') :: (at', listOf [Value.int 0 ct'].toArray n3) :: (lx, instObj 76 dx) :: (dx, dictOf [⟨hh1, .str (Str.ofString "lineno") t1, .int 1 t5⟩, ⟨hh2, .str (Str.ofString "instream") t2, .ref st⟩, ⟨hh3, .str (Str.ofString "whitespace") t3, .str (Str.ofString "\n\t\r ") t6⟩, ⟨hh4, .str (Str.ofString "pushback") t4, .ref pb⟩] n1) :: (oa, listOf ovs.toArray no) :: (wa, listOf wvs.toArray nw) :: (G ++ rest), q.1 < la) → R (.ok (.ret (.ref la))) { s with heap := h', toks := tk' }) :
    codeAny (model PySem.Challenge.pw_re0010_01 w) (ktrTop dp un gd cn cs L a ccd cl outer) (.call (.ref 116) ⟨[.ref lx, .ref oa, .ref wa], []⟩) R s := by
  (k_dflt (refine' code_defM [(Str.ofString "lexer", .ref lx), (Str.ofString "order", .ref oa), (Str.ofString "words", .ref wa)] ?k1 ?k2 ?k3 ?k4 ?k5 ?kA ?kF ?kK ?k6 ?k7 ?k8 ?k9 ?kB stM_init ?_ ?c2 ?c3 ?c4 ?c5; (case kA => exact rfl); (case kF => exact rfl); (case kK => first | exact rfl | assumption); (case k1 => k_asm); (case k2 => k_asm); (case k3 => k_asm); (case k4 => k_asm); (case k5 => k_asm); (case k6 => k_is); (case k7 => k_is); (case k8 => ktr_room); (case k9 => exact BindsTo.of_eq rfl); (case c5 => decide); (case kB => exact locs rfl); (case c2 => exact rfl); (case c3 => exact rfl); (case c4 => exact rfl); k_whole; intro g' L' h' tk₁ FG' F' N' B' X' T' l1; k_lt l1; (try dsimp only); (try k_fold)))
  repeat ((fail_if_success (with_reducible show wpAny _ _ (exec (Stmt.For _ _ _ _ _) _) _ _ _)); (first | (k_unfold; (try dsimp only)) | walk1 | (dsimp only; walk1) | (leave1; (try dsimp only))))
  refine wpAny_For ?_
  repeat ((fail_if_success (with_reducible show wpAny _ _ (pyIter _) _ _ _)); (first | (k_unfold; (try dsimp only)) | walk1 | (dsimp only; walk1) | (leave1; (try dsimp only))))
  (with_reducible rename News _ _ _ _ => kN); (with_reducible rename Fr _ _ _ _ => kF)
  simp only [stM_change, stM_turn, stM_come, stM_left, stM_word] at kF
  refine for_list_K (vs := ovs) (fun k m' news' => ∃ cv tv t n2' ct', m' = stM lx oa wa cv tv (some (.int ((cs'.take k).foldl stepQ (0, 0)).1 t)) none none ∧
    news' = (pb, listOf (seg wvs ((cs'.take k).foldl stepQ (0, 0)).1 ((cs'.take k).foldl stepQ (0, 0)).2).toArray n2') :: (at', listOf [Value.int 0 ct'].toArray n3) :: (lx, instObj 76 dx) :: (dx, dictOf [⟨hh1, .str (Str.ofString "lineno") t1, .int 1 t5⟩, ⟨hh2, .str (Str.ofString "instream") t2, .ref st⟩, ⟨hh3, .str (Str.ofString "whitespace") t3, .str (Str.ofString "\n\t\r ") t6⟩, ⟨hh4, .str (Str.ofString "pushback") t4, .ref pb⟩] n1) :: (oa, listOf ovs.toArray no) :: (wa, listOf wvs.toArray nw) :: (G ++ rest)) rfl ?_ kF kN ?_ ?_ ?_ rfl rfl
  · rintro k m' news' ⟨cv, tv, t, n2', ct', rfl, rfl⟩
    exact ⟨no, by simp⟩
  · exact ⟨_, _, _, n2, ct0, rfl, rfl⟩
  · rintro k v m₁ news₁ h2 tk2 it oi E' hv ⟨cv, tv, t, n2', ct', rfl, rfl⟩ hn₁ F₁ N₁ hlt
    obtain ⟨c, tc, hck, rfl⟩ := ints_get hi hv
    have hc7 := small7 (hc c (List.mem_of_getElem? hck))
    have hq01 : ((cs'.take k).foldl stepQ (0, 0)).1 + c.toNat ≤ wvs.length := by
      rw [fold_come]; have := posSum_take hck; simp only; omega
    have hq02 := fold_le (cs'.take k) (0, 0) (Nat.le_refl _)
    simp only [stM_change] at F₁
    clear kF kN
    generalize hst : (cs'.take k).foldl stepQ (0, 0) = q0 at *
    refine wpAny_execs_cons (wpAny_For ?_)
    repeat ((fail_if_success (with_reducible show wpAny _ _ (pyIter _) _ _ _)); (first | (k_unfold; (try dsimp only)) | walk1 | (dsimp only; walk1) | (leave1; (try dsimp only))))
    (with_reducible rename News _ _ _ _ => kN); (with_reducible rename Fr _ _ _ _ => kF)
    (with_reducible rename IsRange _ _ _ _ _ _ _ _ => kR)
    refine for_range_K (fun j m' news' => ∃ tv' t' n2'', m' = stM lx oa wa (some (.int c tc)) tv' (some (.int (q0.1 + j : Nat) t')) none none ∧ news' = (it, oi) :: (pb, listOf (seg wvs (q0.1 + j) (q0.2 + j)).toArray n2'') :: (at', listOf [Value.int 0 ct'].toArray n3) :: (lx, instObj 76 dx) :: (dx, dictOf [⟨hh1, .str (Str.ofString "lineno") t1, .int 1 t5⟩, ⟨hh2, .str (Str.ofString "instream") t2, .ref st⟩, ⟨hh3, .str (Str.ofString "whitespace") t3, .str (Str.ofString "\n\t\r ") t6⟩, ⟨hh4, .str (Str.ofString "pushback") t4, .ref pb⟩] n1) :: (oa, listOf ovs.toArray no) :: (wa, listOf wvs.toArray nw) :: (G ++ rest)) rfl kR ?_ kF kN ?_ ?_ ?_ rfl rfl
    · exact hc7.1
    · exact ⟨_, _, _, rfl, rfl⟩
    · rintro j tv3 m₃ news₃ h3 tk3 it3 oi3 E3 hj3 ⟨tv', t', n2'', rfl, rfl⟩ hn₃ F₃ N₃ hlt3
      simp only [stM_turn] at F₃
      clear kF kN
      rw [hc7.2.1] at hj3
      obtain ⟨wv, hwv⟩ : ∃ wv, wvs[q0.1 + j]? = some wv := ⟨_, List.getElem?_eq_getElem (by omega)⟩
      repeat ((fail_if_success (with_reducible show wpAny _ _ (subscriptTail _ _ _ _) _ _ _)); (first | (k_unfold; (try dsimp only)) | walk1 | (dsimp only; walk1) | (leave1; (try dsimp only))))
      (with_reducible rename News _ _ _ _ => kN); (with_reducible rename Fr _ _ _ _ => kF)
      have hLw := News.isList kN (show (wa, listOf wvs.toArray nw) ∈ _ by simp)
      refine tail_any hLw.typeIs slot_list_getitem.lookup (wpAny_getItem_list hLw (by omega) (by omega) (x := wv) (by rw [Int.toNat_natCast]; simpa using hwv) ?_) (by with_unfolding_all rfl)
      repeat ((fail_if_success (with_reducible show wpAny _ _ (call (Value.ref 73) _) _ _ _)); (first | (k_unfold; (try dsimp only)) | walk1 | (dsimp only; walk1) | (leave1; (try dsimp only))))
      (with_reducible rename News _ _ _ _ => kN); (with_reducible rename Fr _ _ _ _ => kF)
      refine push_spec (dp := dp + 1) (un := un + 3) (outer := envX cn cs L a ccd cl :: outer) (lx := lx) (dx := dx) (pb := pb) (st := st) (n1 := n1) (t1 := t1) (t2 := t2) (t3 := t3) (t4 := t4) (t5 := t5) (t6 := t6) (hh1 := hh1) (hh2 := hh2) (hh3 := hh3) (hh4 := hh4) (n2 := n2'') (its := seg wvs (q0.1 + j) (q0.2 + j)) (rest := (it3, oi3) :: (it, oi) :: (at', listOf [Value.int 0 ct'].toArray n3) :: (oa, listOf ovs.toArray no) :: (wa, listOf wvs.toArray nw) :: (G ++ rest)) (by k_asm) kF (by k_asm) (by k_asm) rfl (by omega) (by omega) (News.sub kN ?_) ?_ ?_ ?_ ?_ ?_
      · intro q hq; simp only [List.mem_cons, List.mem_append] at hq ⊢; grind
      · exact d1 (lx, instObj 76 dx) (by simp)
      · exact d1 (dx, dictOf [⟨hh1, .str (Str.ofString "lineno") t1, .int 1 t5⟩, ⟨hh2, .str (Str.ofString "instream") t2, .ref st⟩, ⟨hh3, .str (Str.ofString "whitespace") t3, .str (Str.ofString "\n\t\r ") t6⟩, ⟨hh4, .str (Str.ofString "pushback") t4, .ref pb⟩] n1) (by simp)
      · intro q hq; simp only [List.mem_cons, List.mem_append] at hq
        rcases hq with rfl | rfl | rfl | hq
        · exact Ne.symm (hn₃ (pb, _) (.tail _ (.head _)))
        · exact Ne.symm (hn₁ (pb, _) (.head _))
        · exact d1 (at', listOf [Value.int 0 ct0].toArray n3) (by simp)
        · exact d1 q (by simp only [List.mem_cons, List.mem_append]; grind)
      · rw [seg_len (by omega) (by omega)]; omega
      intro h4 tk4 F4 N4
      rw [← seg_push (by omega) hwv] at N4
      clear kF kN
      repeat ((fail_if_success (with_reducible show wpAny _ _ (execs [] _) _ _ _)); (first | (k_unfold; (try dsimp only)) | walk1 | (dsimp only; walk1) | (leave1; (try dsimp only))))
      (with_reducible rename News _ _ _ _ => kN); (with_reducible rename Fr _ _ _ _ => kF)
      simp only [stM_come, show ((q0.1 + j : Nat) : Int) + 1 = ((q0.1 + (j + 1) : Nat) : Int) by omega] at kF
      refine wpAny_execs_nil (TurnEnd.nextI kF (news₂ := (it, oi) :: (pb, listOf (seg wvs (q0.1 + (j + 1)) (q0.2 + (j + 1))).toArray (n2'' + 1)) :: (at', listOf [Value.int 0 ct'].toArray n3) :: (lx, instObj 76 dx) :: (dx, dictOf [⟨hh1, .str (Str.ofString "lineno") t1, .int 1 t5⟩, ⟨hh2, .str (Str.ofString "instream") t2, .ref st⟩, ⟨hh3, .str (Str.ofString "whitespace") t3, .str (Str.ofString "\n\t\r ") t6⟩, ⟨hh4, .str (Str.ofString "pushback") t4, .ref pb⟩] n1) :: (oa, listOf ovs.toArray no) :: (wa, listOf wvs.toArray nw) :: (G ++ rest)) (News.sub kN ?_) ?_ ⟨_, _, _, rfl, rfl⟩)
      · intro q hq; simp only [List.mem_cons, List.mem_append, Nat.add_assoc] at hq ⊢; grind
      · exact ne_map hn₃ rfl
    · rintro m₃ news₃ h3 tk3 ⟨tv', t', n2'', rfl, rfl⟩ F₃ N₃
      rw [hc7.2.1] at F₃ N₃
      clear kF kN kR
      dsimp only
      refine wpAny_execs_cons (wpAny_For ?_)
      repeat ((fail_if_success (with_reducible show wpAny _ _ (pyIter _) _ _ _)); (first | (k_unfold; (try dsimp only)) | walk1 | (dsimp only; walk1) | (leave1; (try dsimp only))))
      (with_reducible rename News _ _ _ _ => kN); (with_reducible rename Fr _ _ _ _ => kF)
      (with_reducible rename IsRange _ _ _ _ _ _ _ _ => kR)
      refine for_range_K (fun j m' news' => ∃ tv' n2'' ct', m' = stM lx oa wa (some (.int c tc)) tv' (some (.int (q0.1 + c.toNat : Nat) t')) none none ∧ news' = (it, oi) :: (pb, listOf (seg wvs (q0.1 + c.toNat) (q0.2 + c.toNat - j)).toArray n2'') :: (at', listOf [Value.int 0 ct'].toArray n3) :: (lx, instObj 76 dx) :: (dx, dictOf [⟨hh1, .str (Str.ofString "lineno") t1, .int 1 t5⟩, ⟨hh2, .str (Str.ofString "instream") t2, .ref st⟩, ⟨hh3, .str (Str.ofString "whitespace") t3, .str (Str.ofString "\n\t\r ") t6⟩, ⟨hh4, .str (Str.ofString "pushback") t4, .ref pb⟩] n1) :: (oa, listOf ovs.toArray no) :: (wa, listOf wvs.toArray nw) :: (G ++ rest)) rfl kR ?_ kF kN ?_ ?_ ?_ rfl rfl
      · exact hc7.2.2.1
      · exact ⟨_, _, _, rfl, rfl⟩
      · rintro j tv3 m₃ news₃ h3 tk3 it3 oi3 E3 hj3 ⟨tv', n2'', ct', rfl, rfl⟩ hn₃ F₃ N₃ hlt3
        rw [hc7.2.2.2] at hj3
        simp only [stM_turn] at F₃
        clear kF kN
        repeat ((fail_if_success (with_reducible show wpAny _ _ (call (Value.ref 66) _) _ _ _)); (first | (k_unfold; (try dsimp only)) | walk1 | (dsimp only; walk1) | (leave1; (try dsimp only))))
        (with_reducible rename News _ _ _ _ => kN); (with_reducible rename Fr _ _ _ _ => kF)
        generalize hz : q0.2 + c.toNat - j = z at *
        cases z with
        | zero =>
          rw [seg_zero] at kN
          refine wpAny_call (g0 (dp := dp + 1) (un := un + 3) (outer := envX cn cs L a ccd cl :: outer) (rest := (it3, oi3) :: (it, oi) :: (oa, listOf ovs.toArray no) :: (wa, listOf wvs.toArray nw) :: rest) (n2 := n2'') (n3 := n3) (ct0 := ct') (by k_asm) kF (by k_asm) (by k_asm) rfl (by omega) (by omega) (News.sub kN ?_) ?_ ?_)
          · intro q hq; simp only [List.mem_cons, List.mem_append] at hq ⊢; grind
          · intro q hq; simp only [List.mem_cons, List.mem_append] at hq
            rcases hq with rfl | rfl | rfl | hq | rfl | rfl | rfl | rfl | hq
            · exact Ne.symm (d1 (at', listOf [Value.int 0 ct0].toArray n3) (by simp))
            · exact d2 (lx, instObj 76 dx) (by simp)
            · exact d2 (dx, dictOf [⟨hh1, .str (Str.ofString "lineno") t1, .int 1 t5⟩, ⟨hh2, .str (Str.ofString "instream") t2, .ref st⟩, ⟨hh3, .str (Str.ofString "whitespace") t3, .str (Str.ofString "\n\t\r ") t6⟩, ⟨hh4, .str (Str.ofString "pushback") t4, .ref pb⟩] n1) (by simp)
            · exact d2 q (by simp only [List.mem_cons, List.mem_append]; grind)
            · exact Ne.symm (hn₃ (at', _) (.tail _ (.tail _ (.head _))))
            · exact Ne.symm (hn₁ (at', _) (.tail _ (.head _)))
            · exact d2 (oa, listOf ovs.toArray no) (by simp)
            · exact d2 (wa, listOf wvs.toArray nw) (by simp)
            · exact d2 q (by simp only [List.mem_cons, List.mem_append]; grind)
          · intro h4 tk4 ct4 u4 F4 N4
            clear kF kN
            dsimp only
            repeat ((fail_if_success (with_reducible show wpAny _ _ (execs [] _) _ _ _)); (first | (k_unfold; (try dsimp only)) | walk1 | (dsimp only; walk1) | (leave1; (try dsimp only))))
            (with_reducible rename News _ _ _ _ => kN); (with_reducible rename Fr _ _ _ _ => kF)
            refine wpAny_execs_nil (TurnEnd.nextI kF (news₂ := (it, oi) :: (pb, listOf (seg wvs (q0.1 + c.toNat) (q0.2 + c.toNat - (j + 1))).toArray n2'') :: (at', listOf [Value.int 0 ct4].toArray n3) :: (lx, instObj 76 dx) :: (dx, dictOf [⟨hh1, .str (Str.ofString "lineno") t1, .int 1 t5⟩, ⟨hh2, .str (Str.ofString "instream") t2, .ref st⟩, ⟨hh3, .str (Str.ofString "whitespace") t3, .str (Str.ofString "\n\t\r ") t6⟩, ⟨hh4, .str (Str.ofString "pushback") t4, .ref pb⟩] n1) :: (oa, listOf ovs.toArray no) :: (wa, listOf wvs.toArray nw) :: (G ++ rest)) (News.sub kN ?_) ?_ ⟨_, _, _, rfl, rfl⟩)
            · rw [show q0.2 + c.toNat - (j + 1) = 0 by omega, seg_zero]
              intro q hq; simp only [List.mem_cons, List.mem_append] at hq ⊢; grind
            · exact ne_map hn₃ rfl
        | succ z =>
          obtain ⟨wv, hwv, hsp⟩ := seg_pop (vs := wvs) (c := q0.1 + c.toNat) (q := z) (by omega) (by omega)
          rw [hsp] at kN
          refine get1_spec (dp := dp + 1) (un := un + 3) (outer := envX cn cs L a ccd cl :: outer) (lx := lx) (dx := dx) (pb := pb) (st := st) (n1 := n1) (t1 := t1) (t2 := t2) (t3 := t3) (t4 := t4) (t5 := t5) (t6 := t6) (hh1 := hh1) (hh2 := hh2) (hh3 := hh3) (hh4 := hh4) (n2 := n2'') (v := wv) (its := seg wvs (q0.1 + c.toNat) z) (rest := (it3, oi3) :: (it, oi) :: (at', listOf [Value.int 0 ct'].toArray n3) :: (oa, listOf ovs.toArray no) :: (wa, listOf wvs.toArray nw) :: (G ++ rest)) (by k_asm) kF (by k_asm) (by k_asm) rfl (by omega) (by omega) (News.sub kN ?_) ?_ ?_ ?_ ?_ ?_
          · intro q hq; simp only [List.mem_cons, List.mem_append] at hq ⊢; grind
          · exact d1 (lx, instObj 76 dx) (by simp)
          · exact d1 (dx, dictOf [⟨hh1, .str (Str.ofString "lineno") t1, .int 1 t5⟩, ⟨hh2, .str (Str.ofString "instream") t2, .ref st⟩, ⟨hh3, .str (Str.ofString "whitespace") t3, .str (Str.ofString "\n\t\r ") t6⟩, ⟨hh4, .str (Str.ofString "pushback") t4, .ref pb⟩] n1) (by simp)
          · intro q hq; simp only [List.mem_cons, List.mem_append] at hq
            rcases hq with rfl | rfl | rfl | hq
            · exact Ne.symm (hn₃ (pb, _) (.tail _ (.head _)))
            · exact Ne.symm (hn₁ (pb, _) (.head _))
            · exact d1 (at', listOf [Value.int 0 ct0].toArray n3) (by simp)
            · exact d1 q (by simp only [List.mem_cons, List.mem_append]; grind)
          · rw [seg_len (by omega) (by omega)]; omega
          intro h4 tk4 F4 N4
          clear kF kN
          repeat ((fail_if_success (with_reducible show wpAny _ _ (execs [] _) _ _ _)); (first | (k_unfold; (try dsimp only)) | walk1 | (dsimp only; walk1) | (leave1; (try dsimp only))))
          (with_reducible rename News _ _ _ _ => kN); (with_reducible rename Fr _ _ _ _ => kF)
          refine wpAny_execs_nil (TurnEnd.nextI kF (news₂ := (it, oi) :: (pb, listOf (seg wvs (q0.1 + c.toNat) (q0.2 + c.toNat - (j + 1))).toArray (n2'' + 1)) :: (at', listOf [Value.int 0 ct'].toArray n3) :: (lx, instObj 76 dx) :: (dx, dictOf [⟨hh1, .str (Str.ofString "lineno") t1, .int 1 t5⟩, ⟨hh2, .str (Str.ofString "instream") t2, .ref st⟩, ⟨hh3, .str (Str.ofString "whitespace") t3, .str (Str.ofString "\n\t\r ") t6⟩, ⟨hh4, .str (Str.ofString "pushback") t4, .ref pb⟩] n1) :: (oa, listOf ovs.toArray no) :: (wa, listOf wvs.toArray nw) :: (G ++ rest)) (News.sub kN ?_) ?_ ⟨_, _, _, rfl, rfl⟩)
          · rw [show q0.2 + c.toNat - (j + 1) = z by omega]
            intro q hq; simp only [List.mem_cons, List.mem_append] at hq ⊢; grind
          · exact ne_map hn₃ rfl
      · rintro m₃ news₃ h3 tk3 ⟨tv', n2'', ct', rfl, rfl⟩ F₃ N₃
        rw [hc7.2.2.2] at N₃
        clear kF kN kR
        dsimp only
        have hst1 : (cs'.take (k + 1)).foldl stepQ (0, 0) = (q0.1 + c.toNat, q0.2 + c.toNat - (-c).toNat) := by
          rw [List.take_add_one, hck, Option.toList_some, List.foldl_append, hst]; rfl
        repeat ((fail_if_success (with_reducible show wpAny _ _ (execs [] _) _ _ _)); (first | (k_unfold; (try dsimp only)) | walk1 | (dsimp only; walk1) | (leave1; (try dsimp only))))
        refine wpAny_execs_nil (TurnEnd.nextI F₃ N₃ ?_ ⟨some (.int c tc), tv', t', n2'', ct', by rw [hst1], by rw [hst1]⟩)
        exact ne_map hn₁ rfl
  · rintro m₁ news₁ h2 tk2 ⟨cv, tv, t, n2', ct', rfl, rfl⟩ F₁ N₁
    have hlen := ints_len hi
    rw [hlen, List.take_length] at F₁ N₁
    have hq01 : (cs'.foldl stepQ (0, 0)).1 ≤ wvs.length := by rw [fold_come]; simp only; omega
    have hq02 := fold_le cs' (0, 0) (Nat.le_refl _)
    generalize hst : cs'.foldl stepQ (0, 0) = q0 at *
    clear kF kN
    dsimp only
    repeat ((fail_if_success (with_reducible show wpAny _ _ (call (Value.ref 66) _) _ _ _)); (first | (k_unfold; (try dsimp only)) | walk1 | (dsimp only; walk1) | (leave1; (try dsimp only))))
    (with_reducible rename News _ _ _ _ => kN); (with_reducible rename Fr _ _ _ _ => kF)
    rename_i la h8 F8 N8 l9 h9
    have hb9 := allLt_mem l9.2.2.2.2.2.2
    have d1' : ∀ q ∈ (at', listOf [Value.int 0 ct'].toArray n3) :: (lx, instObj 76 dx) :: (dx, dictOf [⟨hh1, .str (Str.ofString "lineno") t1, .int 1 t5⟩, ⟨hh2, .str (Str.ofString "instream") t2, .ref st⟩, ⟨hh3, .str (Str.ofString "whitespace") t3, .str (Str.ofString "\n\t\r ") t6⟩, ⟨hh4, .str (Str.ofString "pushback") t4, .ref pb⟩] n1) :: (G ++ (la, listOf ([] : List Value).toArray 0) :: (oa, listOf ovs.toArray no) :: (wa, listOf wvs.toArray nw) :: rest), q.1 ≠ pb := by
      intro q hq; simp only [List.mem_cons, List.mem_append] at hq
      rcases hq with rfl | rfl | rfl | hq | rfl | rfl | rfl | hq
      · exact d1 (at', listOf [Value.int 0 ct0].toArray n3) (by simp)
      · exact d1 (lx, instObj 76 dx) (by simp)
      · exact d1 (dx, dictOf [⟨hh1, .str (Str.ofString "lineno") t1, .int 1 t5⟩, ⟨hh2, .str (Str.ofString "instream") t2, .ref st⟩, ⟨hh3, .str (Str.ofString "whitespace") t3, .str (Str.ofString "\n\t\r ") t6⟩, ⟨hh4, .str (Str.ofString "pushback") t4, .ref pb⟩] n1) (by simp)
      · exact d1 q (by simp only [List.mem_cons, List.mem_append]; grind)
      · exact Nat.ne_of_gt l9.1
      · exact d1 (oa, listOf ovs.toArray no) (by simp)
      · exact d1 (wa, listOf wvs.toArray nw) (by simp)
      · exact d1 q (by simp only [List.mem_cons, List.mem_append]; grind)
    have d2' : ∀ q ∈ (lx, instObj 76 dx) :: (dx, dictOf [⟨hh1, .str (Str.ofString "lineno") t1, .int 1 t5⟩, ⟨hh2, .str (Str.ofString "instream") t2, .ref st⟩, ⟨hh3, .str (Str.ofString "whitespace") t3, .str (Str.ofString "\n\t\r ") t6⟩, ⟨hh4, .str (Str.ofString "pushback") t4, .ref pb⟩] n1) :: (G ++ (la, listOf ([] : List Value).toArray 0) :: (oa, listOf ovs.toArray no) :: (wa, listOf wvs.toArray nw) :: rest), q.1 ≠ at' := by
      intro q hq; simp only [List.mem_cons, List.mem_append] at hq
      rcases hq with rfl | rfl | hq | rfl | rfl | rfl | hq
      · exact d2 (lx, instObj 76 dx) (by simp)
      · exact d2 (dx, dictOf [⟨hh1, .str (Str.ofString "lineno") t1, .int 1 t5⟩, ⟨hh2, .str (Str.ofString "instream") t2, .ref st⟩, ⟨hh3, .str (Str.ofString "whitespace") t3, .str (Str.ofString "\n\t\r ") t6⟩, ⟨hh4, .str (Str.ofString "pushback") t4, .ref pb⟩] n1) (by simp)
      · exact d2 q (by simp only [List.mem_cons, List.mem_append]; grind)
      · exact Nat.ne_of_gt l9.2.1
      · exact d2 (oa, listOf ovs.toArray no) (by simp)
      · exact d2 (wa, listOf wvs.toArray nw) (by simp)
      · exact d2 q (by simp only [List.mem_cons, List.mem_append]; grind)
    refine gets_spec (dp := dp + 1) (un := un + 3) (outer := envX cn cs L a ccd cl :: outer) (lx := lx) (dx := dx) (pb := pb) (st := st) (n1 := n1) (t1 := t1) (t2 := t2) (t3 := t3) (t4 := t4) (t5 := t5) (t6 := t6) (hh1 := hh1) (hh2 := hh2) (hh3 := hh3) (hh4 := hh4) (n2 := n2') (n3 := n3) (ct0 := ct') (its := seg wvs q0.1 q0.2) (G := G) (rest := (la, listOf ([] : List Value).toArray 0) :: (oa, listOf ovs.toArray no) :: (wa, listOf wvs.toArray nw) :: rest) (by k_asm) kF (by k_asm) (by k_asm) rfl (by omega) (by omega) g0 ?_ (News.sub kN ?_) d1' d2' ?_
    · rw [seg_len hq02 hq01]; omega
    · intro q hq; simp only [List.mem_cons, List.mem_append] at hq ⊢; grind
    intro v0 n2a cta h4 tk4 hgot F4 N4
    clear kF kN
    repeat ((fail_if_success (with_reducible show wpAny _ _ (exec (Stmt.While _ _ _ _) _) _ _ _)); (first | (k_unfold; (try dsimp only)) | walk1 | (dsimp only; walk1) | (leave1; (try dsimp only))))
    (with_reducible rename News _ _ _ _ => kN); (with_reducible rename Fr _ _ _ _ => kF)
    simp only [stM_left, stM_word] at kF
    refine wpAny_While (codeAny_whileLoop (fun n st' => ∃ h5 tk5 v its0 done nl n2b ctb, st' = { s with heap := h5, toks := tk5 } ∧ Fr g' L' h5 (stM lx oa wa cv tv (some (.int q0.1 t)) (some (.ref la)) (some v)) ∧
      News g' L' h5 ((la, listOf done.toArray nl) :: (pb, listOf its0.tail.toArray n2b) :: (at', listOf [Value.int 0 ctb].toArray n3) :: (lx, instObj 76 dx) :: (dx, dictOf [⟨hh1, .str (Str.ofString "lineno") t1, .int 1 t5⟩, ⟨hh2, .str (Str.ofString "instream") t2, .ref st⟩, ⟨hh3, .str (Str.ofString "whitespace") t3, .str (Str.ofString "\n\t\r ") t6⟩, ⟨hh4, .str (Str.ofString "pushback") t4, .ref pb⟩] n1) :: (oa, listOf ovs.toArray no) :: (wa, listOf wvs.toArray nw) :: (G ++ rest)) ∧ GotV its0 v ∧ done ++ its0 = seg wvs q0.1 q0.2 ∧ n = its0.length) ?_ (seg wvs q0.1 q0.2).length ?_)
    rotate_left
    · refine ⟨_, _, v0, seg wvs q0.1 q0.2, [], 0, n2a, cta, rfl, kF, News.sub kN ?_, hgot, rfl, rfl⟩
      intro q hq; simp only [List.mem_cons, List.mem_append] at hq ⊢; grind
    clear kF kN hgot
    rintro n st' ⟨h5, tk5, v, its0, done, nl, n2b, ctb, rfl, F5, N5, hgot, hZ, rfl⟩
    have hlZ : done.length + its0.length = q0.2 := by rw [← List.length_append, hZ, seg_len hq02 hq01]
    cases its0 with
    | nil =>
      obtain ⟨u, rfl⟩ := hgot
      repeat ((fail_if_success (with_reducible show wpAny _ _ (execs [] _) _ _ _)); (first | (k_unfold; (try dsimp only)) | walk1 | (dsimp only; walk1) | (leave1; (try dsimp only))))
      refine wpAny_execs_nil ?_
      dsimp only
      simp only [List.append_nil] at hZ
      subst hZ
      repeat ((fail_if_success (with_reducible show wpAny _ _ (execs [] _) _ _ _)); (first | (k_unfold; (try dsimp only)) | walk1 | (dsimp only; walk1) | (leave1; (try dsimp only))))
      (with_reducible rename News _ _ _ _ => kN); (with_reducible rename Fr _ _ _ _ => kF)
      refine ret la nl n2b ctb _ _ kF kN ?_
      intro q hq; simp only [List.mem_cons] at hq
      rcases hq with rfl | rfl | rfl | rfl | rfl | rfl | hq
      · exact l9.1
      · exact l9.2.1
      · exact l9.2.2.1
      · exact l9.2.2.2.1
      · exact l9.2.2.2.2.1
      · exact l9.2.2.2.2.2.1
      · exact hb9 q hq
    | cons x its0 =>
      have hgot : v = x := hgot
      obtain ⟨xs, tx, rfl, hne⟩ := hws x (seg_mem (vs := wvs) (c := q0.1) (q := q0.2) (by rw [← hZ]; simp))
      subst hgot
      repeat ((fail_if_success (with_reducible show wpAny _ _ (execs _ _) _ _ _)); (first | (k_unfold; (try dsimp only)) | walk1 | (dsimp only; walk1) | (leave1; (try dsimp only))))
      rotate_left
      · rename_i hif
        exact absurd hif (by simpa using hne)
      simp only [List.length_cons] at hlZ
      repeat ((fail_if_success (with_reducible show wpAny _ _ (call (Value.ref 66) _) _ _ _)); (first | (k_unfold; (try dsimp only)) | walk1 | (dsimp only; walk1) | (leave1; (try dsimp only))))
      (with_reducible rename News _ _ _ _ => kN); (with_reducible rename Fr _ _ _ _ => kF)
      simp only [List.push_toArray, List.tail_cons] at kN
      refine gets_spec (dp := dp + 1) (un := un + 3) (outer := envX cn cs L a ccd cl :: outer) (lx := lx) (dx := dx) (pb := pb) (st := st) (n1 := n1) (t1 := t1) (t2 := t2) (t3 := t3) (t4 := t4) (t5 := t5) (t6 := t6) (hh1 := hh1) (hh2 := hh2) (hh3 := hh3) (hh4 := hh4) (n2 := n2b) (n3 := n3) (ct0 := ctb) (its := its0) (G := G) (rest := (la, listOf (done ++ [Value.str xs tx]).toArray (nl + 1)) :: (oa, listOf ovs.toArray no) :: (wa, listOf wvs.toArray nw) :: rest) (by k_asm) kF (by k_asm) (by k_asm) rfl (by omega) (by omega) g0 (by omega) (News.sub kN ?_) ?_ ?_ ?_
      · intro q hq; simp only [List.mem_cons, List.mem_append] at hq ⊢; grind
      · exact ne_map d1' (by simp)
      · exact ne_map d2' (by simp)
      intro v1 n2c ctc h6 tk6 hgot1 F6 N6
      clear kF kN
      repeat ((fail_if_success (with_reducible show wpAny _ _ (execs [] _) _ _ _)); (first | (k_unfold; (try dsimp only)) | walk1 | (dsimp only; walk1) | (leave1; (try dsimp only))))
      (with_reducible rename News _ _ _ _ => kN); (with_reducible rename Fr _ _ _ _ => kF)
      simp only [stM_word] at kF
      refine wpAny_execs_nil ⟨its0.length, Nat.lt_succ_self _, _, _, v1, its0, done ++ [Value.str xs tx], nl + 1, n2c, ctc, rfl, kF, News.sub kN ?_, hgot1, by simpa using hZ, rfl⟩
      intro q hq; simp only [List.mem_cons, List.mem_append] at hq ⊢; grind
end
section
open PySem PySem.W PySem.Spec PySem.Calls PyProof.Rows
example : True := by w_top off; trivial
example : PySem.Challenge.rw_re0010_01 = PySem.Challenge.rw_re0010_01 ∧ hd.heap_39 = hd.heap_39 := by k_fill; exact ⟨rfl, rfl⟩
theorem pow_facts {e : Nat} (h1 : 2 ≤ e) (h2 : e ≤ 14) : ((10 ^ e : Int)).natAbs.log2 < 1920 ∧ (Str.ofString (toString (10 ^ e : Int))).length = e + 1 := by
  have : e = 2 ∨ e = 3 ∨ e = 4 ∨ e = 5 ∨ e = 6 ∨ e = 7 ∨ e = 8 ∨ e = 9 ∨ e = 10 ∨ e = 11 ∨ e = 12 ∨ e = 13 ∨ e = 14 := by omega
  rcases this with rfl | rfl | rfl | rfl | rfl | rfl | rfl | rfl | rfl | rfl | rfl | rfl | rfl <;> exact ⟨by decide +kernel, by decide +kernel⟩
def wdM (dl : Addr) (v_maxlineno v_lineno_width : Option Value) : Str → Option Value := fun y => if y = Str.ofString "maxlineno" then v_maxlineno else if y = Str.ofString "lineno_width" then v_lineno_width else if y = Str.ofString "linestarts" then some (.ref dl) else none
theorem wdM_maxlineno {dl : Addr} {v_maxlineno v_lineno_width v9 : Option Value} {y : Str} : (if y = Str.ofString "maxlineno" then v9 else wdM dl v_maxlineno v_lineno_width y) = wdM dl v9 v_lineno_width y := by
  unfold wdM; rw [ite_upd]
theorem wdM_lineno_width {dl : Addr} {v_maxlineno v_lineno_width v9 : Option Value} {y : Str} : (if y = Str.ofString "lineno_width" then v9 else wdM dl v_maxlineno v_lineno_width y) = wdM dl v_maxlineno v9 y := by
  unfold wdM; rw [ite_swap (x := Str.ofString "lineno_width") (by decide), ite_upd]
theorem wdM_init {dl : Addr} : (fun y => ([(Str.ofString "linestarts", .ref dl)] : List (Str × Value)).reverse.lookup y) = wdM dl none none := by
  funext y
  by_cases e0 : y = Str.ofString "maxlineno"
  · subst e0; rfl
  by_cases e1 : y = Str.ofString "lineno_width"
  · subst e1; rfl
  by_cases e2 : y = Str.ofString "linestarts"
  · subst e2; rfl
  simp only [wdM, List.reverse_cons, List.reverse_nil, List.nil_append, List.cons_append, lookup_ite, if_neg e0, if_neg e1, if_neg e2]
  rfl
local macro_rules | `(tactic| k_all) => `(tactic| first | with_reducible assumption | (refine rest_ne (by with_reducible assumption) ?_; omega))
theorem width_spec {w : World} {p : Program} {loose : List Str} {mean : ExcName → Option Value} {mg mb : Str → Option Value} {dp un : Nat} {gd : Option (List Code)} {cn : Str} {cs : Scope} {a : Addr} {ccd : Value} {cl : List (Str × Addr)} {outer : List Env} {A₀ : Around} {base h₀ : Heap} {L : Addr} {m : Str → Option Value} {s : Shared} {R : Result → Shared → Prop} {dl : Addr} {od : Obj} {kvs : List (Int × Value)} {val : Nat → Int} {rest : List (Addr × Obj)} (B : Below A₀ base outer h₀) (F : Fr h₀ L s.heap m) (X : (hd.heap_39 w.params).In h₀) (T : Top p loose mean mg mb h₀) (hk : cs.kind = .function) (hdp : dp + 8 < recursionLimit) (hun : un + 60 < cLine)
    (hd : od.IsDictOf (intKind PySem.Challenge.pw_re0010_01 w) kvs) (lo : (dl == sysModules) = false) (hn : 0 < kvs.length) (hn2 : kvs.length ≤ 10)
    (hv : ∀ (i : Nat) (k : Int) (v : Value), kvs[i]? = some (k, v) → ∃ t, v = Value.int (val i) t ∧ val i ≠ 0)
    {e : Nat} (he : 2 ≤ e) (he2 : e ≤ 14) (hmax : maxUp val (kvs.length - 1) = 10 ^ e)
    (N : News h₀ L s.heap ((dl, od) :: rest))
    (ret : ∀ t' h' tk', Fr h₀ L h' m → News h₀ L h' ((dl, od) :: rest) → R (.ok (.ret (.int ((e + 1 : Nat) : Int) t'))) { s with heap := h', toks := tk' }) :
    codeAny (model PySem.Challenge.pw_re0010_01 w) (ktrTop dp un gd cn cs L a ccd cl outer) (.call (.ref 38) ⟨[.ref dl], []⟩) R s := by
  (k_dflt (refine' code_defM [(Str.ofString "linestarts", .ref dl)] ?k1 ?k2 ?k3 ?k4 ?k5 ?kA ?kF ?kK ?k6 ?k7 ?k8 ?k9 ?kB wdM_init ?_ ?c2 ?c3 ?c4 ?c5; (case kA => exact rfl); (case kF => exact rfl); (case kK => first | exact rfl | assumption); (case k1 => k_asm); (case k2 => k_asm); (case k3 => k_asm); (case k4 => k_asm); (case k5 => k_asm); (case k6 => k_is); (case k7 => k_is); (case k8 => ktr_room); (case k9 => exact BindsTo.of_eq rfl); (case c5 => decide); (case kB => exact locs rfl); (case c2 => exact rfl); (case c3 => exact rfl); (case c4 => exact rfl); k_whole; intro g' L' h' tk₁ FG' F' N' B' X' T' l1; k_lt l1; (try dsimp only); (try k_fold)))
  have hb := allLt_mem l1.2
  repeat ((fail_if_success (with_reducible show wpAny _ _ (call (Value.type "filter") _) _ _ _)); (first | (k_unfold; (try dsimp only)) | walk1 | (dsimp only; walk1) | (leave1; (try dsimp only))))
  (with_reducible rename News _ _ _ _ => kN); (with_reducible rename Fr _ _ _ _ => kF)
  refine filter_K (knd := intKind _ _) kF kN (.head _) (.tail _ (.head _)) hd fun fo it ep h2 F2 N2 hat l2 l3 => ?_
  clear kF kN
  dsimp only
  have hm2 : ∀ q ∈ (dl, od) :: rest, q.1 < it := fun q hq => l2 q (.tail _ hq)
  repeat ((fail_if_success (with_reducible show wpAny _ _ (call (Value.builtin "max") _ _) _ _ _)); (first | (k_unfold; (try dsimp only)) | walk1 | (dsimp only; walk1) | (leave1; (try dsimp only))))
  (with_reducible rename News _ _ _ _ => kN); (with_reducible rename Fr _ _ _ _ => kF)
  refine max_filter_K (knd := intKind _ _) (d := dl) (kvs := kvs) (val := val) rfl kF kN ?_ (fun q hq => Nat.ne_of_lt (l2 q hq)) (Nat.ne_of_gt l3) (Nat.ne_of_lt (l2 (dl, od) (.tail _ (.head _)))) hn hv fun t3 h3 tk3 F3 N3 => ?_
  · exact (by assumption)
  clear kF kN
  generalize hM : maxUp val (kvs.length - 1) = M at *
  have hM2 : (100 : Int) ≤ M := by
    rw [hmax]
    exact_mod_cast Nat.pow_le_pow_right (n := 10) (by omega) he
  repeat ((fail_if_success (with_reducible show wpAny _ _ (exec (Stmt.If _ _ _ _) _) _ _ _)); (first | (k_unfold; (try dsimp only)) | walk1 | (dsimp only; walk1) | (leave1; (try dsimp only))))
  repeat ((fail_if_success (with_reducible show wpAny _ _ (execs _ _) _ _ _)); (first | (k_unfold; (try dsimp only)) | walk1 | (dsimp only; walk1) | (leave1; (try dsimp only))))
  · rename_i hif; omega
  repeat ((fail_if_success (with_reducible show wpAny _ _ (call (Value.type "str") _) _ _ _)); (first | (k_unfold; (try dsimp only)) | walk1 | (dsimp only; walk1) | (leave1; (try dsimp only))))
  refine P.str_of_int ?_ ?_
  · rw [hmax]; exact (pow_facts he he2).1
  have hl3 : (Str.ofString (toString M)).length = e + 1 := by rw [hmax]; exact (pow_facts he he2).2
  generalize Str.ofString (toString M) = xs at *
  repeat ((fail_if_success (with_reducible show wpAny _ _ (call (Value.builtin "max") _) _ _ _)); (first | (k_unfold; (try dsimp only)) | walk1 | (dsimp only; walk1) | (leave1; (try dsimp only))))
  rw [hl3]
  repeat ((fail_if_success (with_reducible show wpAny _ _ (exec (Stmt.If _ _ _ _) _) _ _ _)); (first | (k_unfold; (try dsimp only)) | walk1 | (dsimp only; walk1) | (leave1; (try dsimp only))))
  (with_reducible rename News _ _ _ _ => kN); (with_reducible rename Fr _ _ _ _ => kF)
  have hw3 : (if ((e + 1 : Nat) : Int) > 3 then ((e + 1 : Nat) : Int) else 3) = ((e + 1 : Nat) : Int) := by split <;> omega
  simp only [wdM_maxlineno, wdM_lineno_width, hw3] at kF
  repeat ((fail_if_success (with_reducible show wpAny _ _ (compareOp CmpOp.In _ _) _ _ _)); (first | (k_unfold; (try dsimp only)) | walk1 | (dsimp only; walk1) | (leave1; (try dsimp only))))
  · (with_reducible rename News _ _ _ _ => kN); (with_reducible rename Fr _ _ _ _ => kF)
    refine in_values_none (knd := intKind _ _) (d := dl) (o := od) (kvs := kvs) rfl kF kN (.head _) (by simp) hd (fun i k v hx => ?_) fun h4 tk4 F4 N4 => ?_
    · obtain ⟨t, hx, _⟩ := hv i k v hx
      exact ⟨_, _, hx⟩
    clear kF kN
    k_steps
    (with_reducible rename News _ _ _ _ => kN); (with_reducible rename Fr _ _ _ _ => kF)
    exact ret _ _ _ kF (News.sub kN (by intro q hq; simp only [List.mem_cons] at hq ⊢; grind))
  · k_steps
    (with_reducible rename News _ _ _ _ => kN); (with_reducible rename Fr _ _ _ _ => kF)
    exact ret _ _ _ kF (News.sub kN (by intro q hq; simp only [List.mem_cons] at hq ⊢; grind))
end
section
open PySem PySem.W PySem.Spec PySem.Calls PyProof.Rows
example : True := by w_top off; trivial
example : PySem.Challenge.rw_re0010_01 = PySem.Challenge.rw_re0010_01 ∧ hd.heap_39 = hd.heap_39 := by k_fill; exact ⟨rfl, rfl⟩
def colE (cs : List Int) (j : Nat) : Nat := ((cs.drop (cs.length - j)).sum + 2).toNat
def colV (cs : List Int) : Nat → Int
  | 0 => 100
  | j + 1 => 10 ^ colE cs (j + 1)
def colTop (cs : List Int) : Nat := max (max (max (max 2 (colE cs 1)) (colE cs 2)) (colE cs 3)) (colE cs 4)
theorem pow_max (a b : Nat) : (if (10 ^ b : Int) > 10 ^ a then (10 ^ b : Int) else 10 ^ a) = 10 ^ (max a b) := by
  rcases Nat.lt_or_ge a b with h | h
  · have : (10 ^ a : Int) < 10 ^ b := by exact_mod_cast Nat.pow_lt_pow_right (a := 10) (by omega) h
    rw [if_pos this, Nat.max_eq_right (Nat.le_of_lt h)]
  · have : ¬ ((10 ^ b : Int) > 10 ^ a) := by
      have : (10 ^ b : Int) ≤ 10 ^ a := by exact_mod_cast Nat.pow_le_pow_right (n := 10) (by omega) h
      omega
    rw [if_neg this, Nat.max_eq_left h]
theorem colTop_max (cs : List Int) : maxUp (colV cs) 4 = 10 ^ colTop cs := by
  have e0 : maxUp (colV cs) 0 = 10 ^ 2 := rfl
  have step : ∀ j a, maxUp (colV cs) j = 10 ^ a → maxUp (colV cs) (j + 1) = 10 ^ (max a (colE cs (j + 1))) := fun j a h => by
    show (if colV cs (j + 1) > maxUp (colV cs) j then colV cs (j + 1) else maxUp (colV cs) j) = _
    rw [h]; exact pow_max a _
  exact step 3 _ (step 2 _ (step 1 _ (step 0 _ e0)))
theorem sum7 : ∀ {l : List Int}, (∀ c ∈ l, -3 ≤ c ∧ c ≤ 3) → -(3 * (l.length : Int)) ≤ l.sum ∧ l.sum ≤ 3 * (l.length : Int)
  | [], _ => by simp
  | c :: l, h => by
    have h1 := h c (by simp)
    have h2 := sum7 (l := l) fun x hx => h x (by simp [hx])
    simp only [List.length_cons, List.sum_cons]; omega
theorem drop7 {cs : List Int} (h : ∀ c ∈ cs, -3 ≤ c ∧ c ≤ 3) (hl : cs.length = 4) (j : Nat) : -12 ≤ (cs.drop j).sum ∧ (cs.drop j).sum ≤ 12 := by
  have h1 := sum7 (l := cs.drop j) fun c hc => h c (List.mem_of_mem_drop hc)
  have h2 : (cs.drop j).length ≤ 4 := by simp; omega
  omega
theorem colE_le {cs : List Int} (h : ∀ c ∈ cs, -3 ≤ c ∧ c ≤ 3) (hl : cs.length = 4) (j : Nat) : colE cs j ≤ 14 := by
  have := drop7 h hl (cs.length - j)
  unfold colE; omega
theorem stored_end {kvs : List (Int × Value)} {k : Int} {v : Value} (h : ∀ (i : Nat) (key : Int) (u : Value), kvs[i]? = some (key, u) → key ≠ k) : stored kvs k v = kvs ++ [(k, v)] := by
  unfold stored
  rw [if_neg]
  intro hany
  obtain ⟨⟨key, u⟩, hm, he⟩ := List.any_eq_true.mp hany
  obtain ⟨i, hi, e⟩ := List.mem_iff_getElem.mp hm
  exact h i key u (by rw [List.getElem?_eq_getElem hi, e]) (by simpa using he)
theorem drop_sum {cs : List Int} {k : Nat} {c : Int} (h : cs[k]? = some c) : (cs.drop k).sum = (cs.drop (k + 1)).sum + c := by
  have h1 : k < cs.length := by
    rcases Nat.lt_or_ge k cs.length with h' | h'
    · exact h'
    · rw [List.getElem?_eq_none h'] at h; cases h
  rw [List.drop_eq_getElem_cons h1, List.sum_cons]
  rw [List.getElem?_eq_getElem h1] at h
  rw [Option.some.inj h, Int.add_comm]
def clM (oa : Addr) (v_total v_lines v_k : Option Value) : Str → Option Value := fun y => if y = Str.ofString "total" then v_total else if y = Str.ofString "lines" then v_lines else if y = Str.ofString "k" then v_k else if y = Str.ofString "order" then some (.ref oa) else none
theorem clM_total {oa : Addr} {v_total v_lines v_k v9 : Option Value} {y : Str} : (if y = Str.ofString "total" then v9 else clM oa v_total v_lines v_k y) = clM oa v9 v_lines v_k y := by
  unfold clM; rw [ite_upd]
theorem clM_lines {oa : Addr} {v_total v_lines v_k v9 : Option Value} {y : Str} : (if y = Str.ofString "lines" then v9 else clM oa v_total v_lines v_k y) = clM oa v_total v9 v_k y := by
  unfold clM; rw [ite_swap (x := Str.ofString "lines") (by decide), ite_upd]
theorem clM_k {oa : Addr} {v_total v_lines v_k v9 : Option Value} {y : Str} : (if y = Str.ofString "k" then v9 else clM oa v_total v_lines v_k y) = clM oa v_total v_lines v9 y := by
  unfold clM; rw [ite_swap (x := Str.ofString "k") (by decide), ite_swap (x := Str.ofString "k") (by decide), ite_upd]
theorem clM_init {oa : Addr} : (fun y => ([(Str.ofString "order", .ref oa)] : List (Str × Value)).reverse.lookup y) = clM oa none none none := by
  funext y
  by_cases e0 : y = Str.ofString "total"
  · subst e0; rfl
  by_cases e1 : y = Str.ofString "lines"
  · subst e1; rfl
  by_cases e2 : y = Str.ofString "k"
  · subst e2; rfl
  by_cases e3 : y = Str.ofString "order"
  · subst e3; rfl
  simp only [clM, List.reverse_cons, List.reverse_nil, List.nil_append, List.cons_append, lookup_ite, if_neg e0, if_neg e1, if_neg e2, if_neg e3]
  rfl
local macro_rules | `(tactic| k_all) => `(tactic| first | with_reducible assumption | (refine rest_ne (by with_reducible assumption) ?_; omega))
theorem column_spec {w : World} {p : Program} {loose : List Str} {mean : ExcName → Option Value} {mg mb : Str → Option Value} {dp un : Nat} {gd : Option (List Code)} {cn : Str} {cs : Scope} {a : Addr} {ccd : Value} {cl : List (Str × Addr)} {outer : List Env} {A₀ : Around} {base h₀ : Heap} {L : Addr} {m : Str → Option Value} {s : Shared} {R : Result → Shared → Prop} {oa : Addr} {ovs : List Value} {cs' : List Int} {no : Nat} {rest : List (Addr × Obj)} (B : Below A₀ base outer h₀) (F : Fr h₀ L s.heap m) (X : (hd.heap_39 w.params).In h₀) (T : Top p loose mean mg mb h₀) (hk : cs.kind = .function) (hdp : dp + 12 < recursionLimit) (hun : un + 100 < cLine)
    (hi : IntsAre ovs cs') (hc : ∀ c ∈ cs', -3 ≤ c ∧ c ≤ 3) (h4 : cs'.length = 4)
    (N : News h₀ L s.heap ((oa, listOf ovs.toArray no) :: rest))
    (ret : ∀ t' h' tk', Fr h₀ L h' m → News h₀ L h' ((oa, listOf ovs.toArray no) :: rest) → R (.ok (.ret (.int ((colTop cs' + 1 : Nat) : Int) t'))) { s with heap := h', toks := tk' }) :
    codeAny (model PySem.Challenge.pw_re0010_01 w) (ktrTop dp un gd cn cs L a ccd cl outer) (.call (.ref 123) ⟨[.ref oa], []⟩) R s := by
  (k_dflt (refine' code_defM [(Str.ofString "order", .ref oa)] ?k1 ?k2 ?k3 ?k4 ?k5 ?kA ?kF ?kK ?k6 ?k7 ?k8 ?k9 ?kB clM_init ?_ ?c2 ?c3 ?c4 ?c5; (case kA => exact rfl); (case kF => exact rfl); (case kK => first | exact rfl | assumption); (case k1 => k_asm); (case k2 => k_asm); (case k3 => k_asm); (case k4 => k_asm); (case k5 => k_asm); (case k6 => k_is); (case k7 => k_is); (case k8 => ktr_room); (case k9 => exact BindsTo.of_eq rfl); (case c5 => decide); (case kB => exact locs rfl); (case c2 => exact rfl); (case c3 => exact rfl); (case c4 => exact rfl); k_whole; intro g' L' h' tk₁ FG' F' N' B' X' T' l1; k_lt l1; (try dsimp only); (try k_fold)))
  have hb := allLt_mem l1.2
  have hlen := ints_len hi
  repeat ((fail_if_success (with_reducible show wpAny _ _ (eval (Expr.Dict _ _ _) _) _ _ _)); (first | (k_unfold; (try dsimp only)) | walk1 | (dsimp only; walk1) | (leave1; (try dsimp only))))
  (with_reducible rename News _ _ _ _ => kN); (with_reducible rename Fr _ _ _ _ => kF)
  simp only [clM_total] at kF
  refine kdn_eval (knd := intKind _ _) kF kN T'.nolimit rfl rfl (by decide) (by decide) fun dl h2 od F2 N2 l2 lo hd => ?_
  clear kF kN
  k_lt l2
  repeat ((fail_if_success (with_reducible show wpAny _ _ (exec (Stmt.For _ _ _ _ _) _) _ _ _)); (first | (k_unfold; (try dsimp only)) | walk1 | (dsimp only; walk1) | (leave1; (try dsimp only))))
  refine wpAny_For ?_
  repeat ((fail_if_success (with_reducible show wpAny _ _ (pyIter _) _ _ _)); (first | (k_unfold; (try dsimp only)) | walk1 | (dsimp only; walk1) | (leave1; (try dsimp only))))
  (with_reducible rename News _ _ _ _ => kN); (with_reducible rename Fr _ _ _ _ => kF)
  (with_reducible rename IsRange _ _ _ _ _ _ _ _ => kR)
  simp only [clM_lines] at kF
  (with_reducible rename Obj.IsDictOf _ _ (intKeyPairs _) => hd1)
  rw [h4] at kR hd1
  generalize tk₁ + 1 + 1 + 1 = tk5 at *
  refine for_range_K (fun k m' news' => ∃ tt kv od kvs, m' = clM oa (some (.int (cs'.drop (4 - k)).sum tt)) (some (.ref dl)) kv ∧ news' = (dl, od) :: (oa, listOf ovs.toArray no) :: rest ∧
    od.IsDictOf (intKind PySem.Challenge.pw_re0010_01 w) kvs ∧ kvs.length = k + 1 ∧ ∀ (i : Nat) (key : Int) (v : Value), kvs[i]? = some (key, v) → key = 4 - (i : Int) ∧ ∃ t, v = Value.int (colV cs' i) t) rfl kR (by decide) kF kN ?_ ?_ ?_ rfl rfl
  · refine ⟨tk₁, none, _, _, ?_, rfl, hd1, rfl, ?_⟩
    · rw [Nat.sub_zero, ← h4, List.drop_length]; rfl
    · rintro (_ | i) key v hx
      · cases hx; exact ⟨by simp, _, rfl⟩
      · exact absurd hx (by simp [intKeyPairs])
  · rintro k tv3 m₃ news₃ h3 tk3 it3 oi3 E3 hj3 ⟨tt, kv, od3, kvs, rfl, rfl, hd3, hl3, hkv⟩ hn₃ F₃ N₃ hlt3
    have hj3 : k < 4 := hj3
    simp only [clM_k] at F₃
    clear kF kN
    obtain ⟨cv, hcv⟩ : ∃ cv, cs'[3 - k]? = some cv := ⟨_, List.getElem?_eq_getElem (by omega)⟩
    have hsum := drop_sum hcv
    have hb1 := drop7 hc h4 (3 - k)
    have hb2 := drop7 hc h4 (4 - k)
    rw [show 3 - k + 1 = 4 - k by omega] at hsum
    repeat ((fail_if_success (with_reducible show wpAny _ _ (binaryOp Operator.Pow _ _) _ _ _)); (first | (k_unfold; (try dsimp only)) | walk1 | (dsimp only; walk1) | (leave1; (try dsimp only))))
    (with_reducible rename News _ _ _ _ => kN); (with_reducible rename Fr _ _ _ _ => kF)
    have hidx : (((4 : Nat) : Int) - 1 + (k : Int) * -1) = ((3 - k : Nat) : Int) := by omega
    have hgd : cs'.getD (((4 : Nat) : Int) - 1 + (k : Int) * -1).toNat 0 = cv := by rw [hidx, Int.toNat_natCast, List.getD_eq_getElem?_getD, hcv]; rfl
    simp only [hgd, ← hsum, clM_total] at kF ⊢
    refine pow_int ?_ ?_ ?_
    · split <;> omega
    · have : Builtin.Int.intBits 10 = 4 := by decide
      rw [this]; split <;> omega
    have he : (if (cs'.drop (3 - k)).sum + 2 > 0 then (cs'.drop (3 - k)).sum + 2 else 0).toNat = colE cs' (k + 1) := by
      unfold colE; rw [h4, show 4 - (k + 1) = 3 - k by omega]; split <;> omega
    rw [he]
    repeat ((fail_if_success (with_reducible show wpAny _ _ (setItem _ _ _) _ _ _)); (first | (k_unfold; (try dsimp only)) | walk1 | (dsimp only; walk1) | (leave1; (try dsimp only))))
    (with_reducible rename News _ _ _ _ => kN); (with_reducible rename Fr _ _ _ _ => kF)
    refine kda_set (knd := intKind _ _) (k := ((4 : Nat) : Int) - 1 + (k : Int) * -1) kF kN (.tail (Ne.symm (hn₃ (dl, od3) (.head _))) (.head (List.forall_mem_cons.mpr ⟨Nat.ne_of_lt l2.1, fun q hq => Nat.ne_of_lt (allLt_mem l2.2 q hq)⟩))) hd3 (by simp [intKind, Value.isInt]) (by simp only [sizeLine_eq]; omega) fun h5 o5 F5 N5 hd5 => ?_
    clear kF kN
    rw [stored_end (fun i key v hx => by have := (hkv i key v hx).1; have := List.getElem?_eq_some_iff.mp hx; obtain ⟨hi9, _⟩ := this; omega)] at hd5
    repeat ((fail_if_success (with_reducible show wpAny _ _ (execs [] _) _ _ _)); (first | (k_unfold; (try dsimp only)) | walk1 | (dsimp only; walk1) | (leave1; (try dsimp only))))
    (with_reducible rename News _ _ _ _ => kN); (with_reducible rename Fr _ _ _ _ => kF)
    refine wpAny_execs_nil (TurnEnd.nextI kF kN (ne_map hn₃ rfl) ⟨tk3, _, o5, _, by rw [show 4 - (k + 1) = 3 - k by omega], rfl, hd5, by simp [hl3], ?_⟩)
    intro i key v hx
    rcases Nat.lt_or_ge i kvs.length with hi9 | hi9
    · rw [List.getElem?_append_left hi9] at hx
      exact hkv i key v hx
    · rw [List.getElem?_append_right hi9] at hx
      obtain rfl : i = kvs.length := by
        rcases Nat.lt_or_ge kvs.length i with h9 | h9
        · rw [List.getElem?_eq_none (by simp; omega)] at hx; cases hx
        · omega
      rw [Nat.sub_self] at hx
      cases hx
      rw [hl3]
      exact ⟨by omega, _, rfl⟩
  · rintro m₃ news₃ h3 tk3 ⟨tt, kv, od3, kvs, rfl, rfl, hd3, hl3, hkv⟩ F₃ N₃
    clear kF kN kR
    have hl5 : kvs.length = 5 := hl3
    dsimp only
    repeat ((fail_if_success (with_reducible show wpAny _ _ (call (Value.ref 38) _) _ _ _)); (first | (k_unfold; (try dsimp only)) | walk1 | (dsimp only; walk1) | (leave1; (try dsimp only))))
    (with_reducible rename News _ _ _ _ => kN); (with_reducible rename Fr _ _ _ _ => kF)
    refine wpAny_call (width_spec (dp := dp + 1) (un := un + 3) (outer := envX cn cs L a ccd cl :: outer) (val := colV cs') (e := colTop cs') (by k_asm) kF (by k_asm) (by k_asm) rfl (by omega) (by omega) hd3 lo (by omega) (by omega) (fun i key v hx => ?_) ?_ ?_ ?_ kN ?_)
    · obtain ⟨_, t, rfl⟩ := hkv i key v hx
      refine ⟨t, rfl, ?_⟩
      cases i with
      | zero => exact (by decide : (100 : Int) ≠ 0)
      | succ j => exact Int.pow_ne_zero (by decide)
    · unfold colTop; omega
    · have h9 := colE_le hc h4
      have := h9 1; have := h9 2; have := h9 3; have := h9 4
      unfold colTop; omega
    · rw [hl5]; exact colTop_max cs'
    · intro t6 h6 tk6 F6 N6
      clear kF kN
      dsimp only
      k_steps
      (with_reducible rename News _ _ _ _ => kN); (with_reducible rename Fr _ _ _ _ => kF)
      exact ret _ _ _ kF (News.sub kN (by intro q hq; simp only [List.mem_cons] at hq ⊢; grind))
end
section
open PySem PySem.W PySem.Spec PySem.Calls PyProof.Rows
example : True := by w_top off; trivial
example : PySem.Challenge.rw_re0010_01 = PySem.Challenge.rw_re0010_01 ∧ hd.heap_39 = hd.heap_39 := by k_fill; exact ⟨rfl, rfl⟩
def qdM (dv : Value)  : Str → Option Value := fun y => if y = Str.ofString "data" then some dv else none
theorem qdM_init {dv : Value} : (fun y => ([(Str.ofString "data", dv)] : List (Str × Value)).reverse.lookup y) = qdM dv  := by
  funext y
  by_cases e0 : y = Str.ofString "data"
  · subst e0; rfl
  simp only [qdM, List.reverse_cons, List.reverse_nil, List.nil_append, List.cons_append, lookup_ite, if_neg e0]
  rfl
local macro_rules | `(tactic| k_all) => `(tactic| first | with_reducible assumption | (refine rest_ne (by with_reducible assumption) ?_; omega))
theorem quote_spec {w : World} {p : Program} {loose : List Str} {mean : ExcName → Option Value} {mg mb : Str → Option Value} {dp un : Nat} {gd : Option (List Code)} {cn : Str} {cs : Scope} {a : Addr} {ccd : Value} {cl : List (Str × Addr)} {outer : List Env} {A₀ : Around} {base h₀ : Heap} {L : Addr} {m : Str → Option Value} {s : Shared} {R : Result → Shared → Prop} {n : Nat} {u : Tok} {rest : List (Addr × Obj)} (B : Below A₀ base outer h₀) (F : Fr h₀ L s.heap m) (X : (hd.heap_39 w.params).In h₀) (T : Top p loose mean mg mb h₀) (hk : cs.kind = .function) (hdp : dp + 6 < recursionLimit) (hun : un + 40 < cLine) (hn : 1 ≤ n) (hn2 : n < 30)
    (N : News h₀ L s.heap rest)
    (ret : ∀ t' h' tk', Fr h₀ L h' m → News h₀ L h' rest → R (.ok (.ret (.str (dots (n + 1)) t'))) { s with heap := h', toks := tk' }) :
    codeAny (model PySem.Challenge.pw_re0010_01 w) (ktrTop dp un gd cn cs L a ccd cl outer) (.call (.ref 97) ⟨[.str (dots n) u], []⟩) R s := by
  (k_dflt (refine' code_defM [(Str.ofString "data", .str (dots n) u)] ?k1 ?k2 ?k3 ?k4 ?k5 ?kA ?kF ?kK ?k6 ?k7 ?k8 ?k9 ?kB (qdM_init (dv := .str (dots n) u)) ?_ ?c2 ?c3 ?c4 ?c5; (case kA => exact rfl); (case kF => exact rfl); (case kK => first | exact rfl | assumption); (case k1 => k_asm); (case k2 => k_asm); (case k3 => k_asm); (case k4 => k_asm); (case k5 => k_asm); (case k6 => k_is); (case k7 => k_is); (case k8 => ktr_room); (case k9 => exact BindsTo.of_eq rfl); (case c5 => decide); (case kB => exact locs rfl); (case c2 => exact rfl); (case c3 => exact rfl); (case c4 => exact rfl); k_whole; intro g' L' h' tk₁ FG' F' N' B' X' T' l1; (try k_lt l1); (try dsimp only); (try k_fold)))
  have h85 := X' 85 (patObj _ _ _ _ 84) (by k_is)
  have h84 := X' 84 (codesObj _) (by k_is)
  have h90 := X' 90 (patObj _ _ _ _ 89) (by k_is)
  have h89 := X' 89 (codesObj _) (by k_is)
  repeat ((fail_if_success (with_reducible show wpAny _ _ (getMethod (Value.ref 85) _ _) _ _ _)); (first | (k_unfold; (try dsimp only)) | walk1 | (dsimp only; walk1) | (leave1; (try dsimp only))))
  (with_reducible rename News _ _ _ _ => kN); (with_reducible rename Fr _ _ _ _ => kF)
  refine sub_method (kF.keep _ _ h85) ?_
  repeat ((fail_if_success (with_reducible show wpAny _ _ (getMethod (Value.ref 90) _ _) _ _ _)); (first | (k_unfold; (try dsimp only)) | walk1 | (dsimp only; walk1) | (leave1; (try dsimp only))))
  (with_reducible rename News _ _ _ _ => kN); (with_reducible rename Fr _ _ _ _ => kF)
  refine sub_method (kF.keep _ _ h90) ?_
  repeat ((fail_if_success (with_reducible show wpAny _ _ (call (Value.builtin "re.Pattern.sub") _) _ _ _)); (first | (k_unfold; (try dsimp only)) | walk1 | (dsimp only; walk1) | (leave1; (try dsimp only))))
  (with_reducible rename News _ _ _ _ => kN); (with_reducible rename Fr _ _ _ _ => kF)
  have hsz : (dots n).cps.size = n := Array.size_replicate
  refine call_sub_none (code := code2) (k := 300) (kF.keep _ _ h90) (kF.keep _ _ h89) (by decide +kernel) (by decide +kernel) (by decide) (by rw [hsz]; exact runs2 n hn2) (by omega) (by omega) fun t2 h2 tk2 hk2 => ?_
  have F2 := kF.keeps hk2
  have N2 : News _ _ h2 rest := fun q hq => ⟨hk2 _ _ (kN q hq).1, (kN q hq).2⟩
  clear kF kN
  repeat ((fail_if_success (with_reducible show wpAny _ _ (call (Value.builtin "re.Pattern.sub") _) _ _ _)); (first | (k_unfold; (try dsimp only)) | walk1 | (dsimp only; walk1) | (leave1; (try dsimp only))))
  (with_reducible rename News _ _ _ _ => kN); (with_reducible rename Fr _ _ _ _ => kF)
  have hr1 := runs1a n hn2
  have hr2 := runs1b n hn2
  have h0 : (n == 0) = false := by simp; omega
  rw [h0, Bool.false_or] at hr1 hr2
  refine call_sub_one (code := code1) (k := 20) (k2 := 300) (kF.keep _ _ h85) (kF.keep _ _ h84) (by decide +kernel) (by decide +kernel) (by decide +kernel) (by decide) (by rw [hsz]; exact hr1) (by decide) (by rw [hsz]; exact hr2) (by omega) fun t3 h3 tk3 hk3 => ?_
  rw [dots_one hn]
  have F3 := kF.keeps hk3
  have N3 : News _ _ h3 rest := fun q hq => ⟨hk3 _ _ (kN q hq).1, (kN q hq).2⟩
  clear kF kN
  k_steps
  (with_reducible rename News _ _ _ _ => kN); (with_reducible rename Fr _ _ _ _ => kF)
  exact ret _ _ _ kF kN
end
section
open PySem PySem.W PySem.Spec PySem.Calls PyProof.Rows
example : True := by w_top off; trivial
example : PySem.Challenge.rw_re0010_01 = PySem.Challenge.rw_re0010_01 ∧ hd.heap_39 = hd.heap_39 := by k_fill; exact ⟨rfl, rfl⟩
def permsI : Nat → List Int → List (List Int)
  | 0, _ => [[]]
  | n + 1, row => (List.range row.length).flatMap fun k => (permsI n (row.take k ++ row.drop (k + 1))).map (row.getD k 0 :: ·)
theorem permsI_len : ∀ (n : Nat) (xs : List Int), xs.length ≤ 4 → (permsI n xs).length ≤ 4 ^ n := by
  intro n
  induction n with
  | zero => intro xs _; simp [permsI]
  | succ n ih =>
    intro xs hx
    have key : ∀ k, k ≤ xs.length → ((List.range k).flatMap fun k => (permsI n (xs.take k ++ xs.drop (k + 1))).map (xs.getD k 0 :: ·)).length ≤ k * 4 ^ n := by
      intro k
      induction k with
      | zero => intro _; simp
      | succ k ihk =>
        intro hk
        rw [List.range_succ, List.flatMap_append, List.flatMap_singleton, List.length_append, List.length_map, Nat.succ_mul]
        exact Nat.add_le_add (ihk (by omega)) (ih _ (by simp; omega))
    unfold permsI
    refine Nat.le_trans (key _ (Nat.le_refl _)) ?_
    rw [Nat.pow_succ, Nat.mul_comm]
    exact Nat.mul_le_mul_left _ hx
theorem prefix_len (n : Nat) (xs : List Int) (k : Nat) (hx : xs.length ≤ 4) : ((List.range k).flatMap fun k => (permsI n (xs.take k ++ xs.drop (k + 1))).map (xs.getD k 0 :: ·)).length ≤ k * 4 ^ n := by
  induction k with
  | zero => simp
  | succ k ihk =>
    rw [List.range_succ, List.flatMap_append, List.flatMap_singleton, List.length_append, List.length_map, Nat.succ_mul]
    exact Nat.add_le_add ihk (permsI_len n _ (by simp; omega))
theorem permsI_elt : ∀ (n : Nat) (xs ps : List Int), ps ∈ permsI n xs → ps.length = n := by
  intro n
  induction n with
  | zero => intro xs ps h; simp [permsI] at h; subst h; rfl
  | succ n ih =>
    intro xs ps h
    simp only [permsI, List.mem_flatMap, List.mem_map] at h
    obtain ⟨k, _, qs, hq, rfl⟩ := h
    rw [List.length_cons, ih _ _ hq]
inductive RowsIn (G : List (Addr × Obj)) : List Value → List (List Int) → Prop
  | nil : RowsIn G [] []
  | cons {a : Addr} {vs : List Value} {n : Nat} {ps : List Int} {refs : List Value} {pss : List (List Int)} : (a, listOf vs.toArray n) ∈ G → IntsAre vs ps → RowsIn G refs pss → RowsIn G (.ref a :: refs) (ps :: pss)
theorem base_pack {h₀ h : Heap} {L oa b : Addr} {n0 n1 : Nat} {j1 j2 q0 : Addr × Obj} {rest : List (Addr × Obj)} (N : News h₀ L h ((oa, listOf [Value.ref b].toArray n0) :: (b, listOf ([] : List Value).toArray n1) :: j1 :: j2 :: q0 :: rest)) :
    News h₀ L h ((oa, listOf [Value.ref b].toArray n0) :: ([(b, listOf ([] : List Value).toArray n1)] ++ q0 :: rest)) := News.sub N (by intro q hq; simp only [List.mem_cons, List.mem_append, List.not_mem_nil, or_false] at hq ⊢; grind)
theorem RowsIn.mono {G G' : List (Addr × Obj)} (h : ∀ q ∈ G, q ∈ G') : ∀ {refs : List Value} {pss : List (List Int)}, RowsIn G refs pss → RowsIn G' refs pss
  | _, _, .nil => .nil
  | _, _, .cons hm hi r => .cons (h _ hm) hi (r.mono h)
theorem RowsIn.snoc {G : List (Addr × Obj)} {a : Addr} {vs : List Value} {n : Nat} {ps : List Int} (hm : (a, listOf vs.toArray n) ∈ G) (hi : IntsAre vs ps) : ∀ {refs : List Value} {pss : List (List Int)}, RowsIn G refs pss → RowsIn G (refs ++ [.ref a]) (pss ++ [ps])
  | _, _, .nil => .cons hm hi .nil
  | _, _, .cons hm' hi' r => .cons hm' hi' (r.snoc hm hi)
theorem RowsIn.length {G : List (Addr × Obj)} : ∀ {refs : List Value} {pss : List (List Int)}, RowsIn G refs pss → refs.length = pss.length
  | _, _, .nil => rfl
  | _, _, .cons _ _ r => by simp [r.length]
theorem RowsIn.get {G : List (Addr × Obj)} : ∀ {refs : List Value} {pss : List (List Int)}, RowsIn G refs pss → ∀ {i : Nat} {v : Value}, refs[i]? = some v → ∃ a vs n ps, v = .ref a ∧ (a, listOf vs.toArray n) ∈ G ∧ IntsAre vs ps ∧ pss[i]? = some ps
  | _, _, .nil, i, v, h => by simp at h
  | _, _, .cons hm hi r, i, v, h => by
    cases i with
    | zero => simp at h; exact ⟨_, _, _, _, h.symm, hm, hi, by simp⟩
    | succ i => simp at h; obtain ⟨a, vs, n, ps, h1, h2, h3, h4⟩ := r.get h; exact ⟨a, vs, n, ps, h1, h2, h3, by simpa using h4⟩
def OrdersSpec (w : World) (n : Nat) : Prop :=
  ∀ {p : Program} {loose : List Str} {mean : ExcName → Option Value} {mg mb : Str → Option Value} {dp un : Nat} {gd : Option (List Code)} {cn : Str} {cs : Scope} {a : Addr} {ccd : Value} {cl : List (Str × Addr)} {outer : List Env} {A₀ : Around} {base h₀ : Heap} {L : Addr} {m : Str → Option Value} {s : Shared} {R : Result → Shared → Prop} {ra : Addr} {nr : Nat} {ovs : List Value} {cs' : List Int} {rest : List (Addr × Obj)}, Below A₀ base outer h₀ → Fr h₀ L s.heap m → (hd.heap_39 w.params).In h₀ → Top p loose mean mg mb h₀ → cs.kind = .function → dp + (20 + n) < recursionLimit → un + (100 + 10 * n) < cLine →
    IntsAre ovs cs' → cs'.length = n → cs'.length ≤ 4 → News h₀ L s.heap ((ra, listOf ovs.toArray nr) :: rest) → (∀ (oa : Addr) (no : Nat) (refs : List Value) (G : List (Addr × Obj)) (h' : Heap) (tk' : Nat), Fr h₀ L h' m → News h₀ L h' ((oa, listOf refs.toArray no) :: (G ++ (ra, listOf ovs.toArray nr) :: rest)) → RowsIn G refs (permsI cs'.length cs') →
      (∀ q ∈ (ra, listOf ovs.toArray nr) :: rest, q.1 ≠ oa ∧ ∀ g ∈ G, q.1 ≠ g.1) → (∀ g ∈ G, g.1 ≠ oa) → R (.ok (.ret (.ref oa))) { s with heap := h', toks := tk' }) →
    codeAny (model PySem.Challenge.pw_re0010_01 w) (ktrTop dp un gd cn cs L a ccd cl outer) (.call (.ref 109) ⟨[.ref ra], []⟩) R s
local macro_rules | `(tactic| k_all) => `(tactic| first | with_reducible assumption | (refine rest_ne (by with_reducible assumption) ?_; omega))
theorem orders_step {w : World} {n : Nat} (ih : ∀ n', n = n' + 1 → OrdersSpec w n') : OrdersSpec w n := by
  intro p loose mean mg mb dp un gd cn cs a ccd cl outer A₀ base h₀ L m s R ra nr ovs cs' rest B F X T hk hdp hun hi hn hl' N ret
  have hl : ovs.length ≤ 4 := by rw [ints_len hi]; exact hl'
  (k_dflt (refine' code_defC (binds := [(Str.ofString "row", .ref ra)]) ?k1 ?k2 ?k3 ?k4 ?k5 ?kA ?kF ?kK ?k6 ?k7 ?k8 ?k9 ?kB ?kD ?_ ?c2 ?c3 ?c4; (case kA => exact rfl); (case kF => exact rfl); (case kK => assumption); (case k1 => k_asm); (case k2 => k_asm); (case k3 => k_asm); (case k4 => k_asm); (case k5 => k_asm); (case k6 => k_is); (case k7 => k_is); (case k8 => ktr_room); (case k9 => exact BindsTo.of_eq rfl); (case kB => exact rfl); (case kD => decide +kernel); (case c2 => exact rfl); (case c3 => exact rfl); (case c4 => exact rfl); k_whole; intro g' L' h' tk' cells' FG' F' N' Y' B' X' T' l1; (try k_lt l1); k_cells Y'; (try simp only [List.cons_append, List.nil_append] at N'); (try dsimp only); (try k_fold)))
  rename_i oc hoc
  have hoc' : oc.data = .cell (some (.ref ra)) := hoc
  clear hoc
  obtain ⟨mm, F'⟩ : ∃ mm, Fr g' L' h' mm := ⟨_, F'⟩
  have hb := allLt_mem l1.2
  repeat ((fail_if_success (with_reducible show wpAny _ _ (compareOp _ _ _) _ _ _)); (first | (k_unfold; (try dsimp only)) | walk1 | (dsimp only; walk1) | (leave1; (try dsimp only))))
  repeat ((fail_if_success (with_reducible show wpAny _ _ (execs _ _) _ _ _)); (first | (k_unfold; (try dsimp only)) | walk1 | (dsimp only; walk1) | (leave1; (try dsimp only))))
  · rename_i hif
    have hcs : cs' = [] := of_decide_eq_true hif
    k_steps
    (with_reducible rename News _ _ _ _ => kN); (with_reducible rename Fr _ _ _ _ => kF)
    (with_reducible rename _ < _ ∧ _ < _ ∧ _ < _ ∧ _ < _ ∧ AllLt _ rest => l9)
    (with_reducible rename _ < _ ∧ _ < _ ∧ _ < _ ∧ AllLt _ rest => l8)
    subst hcs
    have N9 := base_pack kN
    refine ret _ _ _ _ _ _ kF N9 (.cons (vs := []) (.head _) .nil .nil) ?_ ?_
    · intro q hq
      rcases List.mem_cons.mp hq with rfl | hq
      · exact ⟨Nat.ne_of_lt l9.2.2.2.1, fun g hg => by rw [List.mem_singleton.mp hg]; exact Nat.ne_of_lt l8.2.2.1⟩
      · exact ⟨Nat.ne_of_lt (allLt_mem l9.2.2.2.2 q hq), fun g hg => by rw [List.mem_singleton.mp hg]; exact Nat.ne_of_lt (allLt_mem l8.2.2.2 q hq)⟩
    · intro g hg
      rw [List.mem_singleton.mp hg]
      exact Nat.ne_of_lt l9.1
  · rename_i hif
    have hcs : cs' ≠ [] := of_decide_eq_false hif
    repeat ((fail_if_success (with_reducible show wpAny _ _ (eval (Expr.ListComp _ _ _ _) _) _ _ _)); (first | (k_unfold; (try dsimp only)) | walk1 | (dsimp only; walk1) | (leave1; (try dsimp only))))
    refine comp2_open (cl := [(Str.ofString "row", L' + 1)]) (by with_unfolding_all rfl) rfl (by decide) (fun _ => rfl) ?_
    repeat ((fail_if_success (with_reducible show wpAny _ _ (pyIter _) _ _ _)); (first | (k_unfold; (try dsimp only)) | walk1 | (dsimp only; walk1) | (leave1; (try dsimp only))))
    (with_reducible rename News _ _ _ _ => kN); (with_reducible rename Fr _ _ _ _ => kF)
    (with_reducible rename IsRange _ _ _ _ _ _ _ _ => kR)
    obtain ⟨n', rfl⟩ : ∃ n', n = n' + 1 := ⟨n - 1, by have := List.length_pos_iff.mpr hcs; omega⟩
    rw [hn] at kR
    have hsm : Builtin.Range.small 0 ((n' + 1 : Nat) : Int) 1 = true ∧ (Builtin.Range.rangeSize 0 ((n' + 1 : Nat) : Int) 1).toNat = n' + 1 := by
      have : n' = 0 ∨ n' = 1 ∨ n' = 2 ∨ n' = 3 := by omega
      rcases this with rfl | rfl | rfl | rfl <;> decide
    refine comp2_range_K (h₀ := g') (L := L') (m := mm) (fun k ys nw => ∃ G, nw = (L' + 1, oc) :: (ra, listOf ovs.toArray nr) :: (G ++ rest) ∧ (∀ g ∈ G, ∀ q ∈ (L' + 1, oc) :: (ra, listOf ovs.toArray nr) :: rest, q.1 ≠ g.1) ∧
        RowsIn G ys ((List.range k).flatMap fun k => (permsI n' (cs'.take k ++ cs'.drop (k + 1))).map (cs'.getD k 0 :: ·)) ∧ k ≤ n' + 1) rfl (by decide) rfl (by decide) (by decide) (by decide) kR hsm.1 (fun _ _ => rfl) kF (news := (L' + 1, oc) :: (ra, listOf ovs.toArray nr) :: ([] ++ rest)) (News.sub kN ?_) ⟨[], rfl, by simp, .nil, by omega⟩ ?_ ?_ ?_
    · intro q hq; simp only [List.mem_cons, List.mem_append] at hq ⊢; grind
    · rintro k ys nw ⟨G, rfl, hG, hR, hkn⟩
      have hpre := prefix_len n' cs' k (by omega)
      have h4 : 4 ^ n' ≤ 64 := by
        have : n' = 0 ∨ n' = 1 ∨ n' = 2 ∨ n' = 3 := by omega
        rcases this with rfl | rfl | rfl | rfl <;> decide
      have hk4 : k * 4 ^ n' ≤ 4 * 64 := Nat.mul_le_mul (by omega) h4
      rw [hR.length]; omega
    · rintro k tv ys nw nD C D I oC mC oI h2 tk2 E2 hk2 ⟨G, rfl, hG, hR, hkn⟩ hoC hmx F2 N2 hA2
      rw [hsm.2] at hk2
      clear kF kN
      refine wpAny_mono (Q := fun xv s₃ => ∃ (oa : Addr) (no : Nat) (refs : List Value) (G2 : List (Addr × Obj)) (h3 : Heap) (tk3 : Nat), xv = .ref oa ∧ s₃ = { s with heap := h3, toks := tk3 } ∧ Fr g' L' h3 mm ∧
        News g' L' h3 ((C, oC) :: (D, listOf ys.toArray nD) :: (I, oI) :: (L' + 1, oc) :: (ra, listOf ovs.toArray nr) :: (((oa, listOf refs.toArray no) :: (G2 ++ G)) ++ rest)) ∧ RowsIn G2 refs (permsI n' (cs'.take k ++ cs'.drop (k + 1))) ∧
        (∀ g ∈ (oa, listOf refs.toArray no) :: G2, ∀ q ∈ (C, oC) :: (D, listOf ys.toArray nD) :: (I, oI) :: (L' + 1, oc) :: (ra, listOf ovs.toArray nr) :: (G ++ rest), q.1 ≠ g.1)) ?_ (fun xv s₃ h₃ => ?_) (fun _ _ e => e)
      · repeat ((fail_if_success (with_reducible show wpAny _ _ (subscriptTail _ _ _ _) _ _ _)); (first | (k_unfold; (try dsimp only)) | walk1 | (dsimp only; walk1) | (leave1; (try dsimp only))))
        (with_reducible rename News _ _ _ _ => kN); (with_reducible rename Fr _ _ _ _ => kF)
        k_dflt (refine' kmk_slice_ints kF kN (News.isList kN (.tail _ (.tail _ (.tail _ (.tail _ (.head _)))))) IsPart.none (IsPart.int _ _) hi (kmk_upto hi (by omega)) rfl ?_ (by with_unfolding_all rfl) (by intro _; with_unfolding_all rfl) (by rw [List.size_toArray, sizeLine_eq]; omega))
        intro Da wa ha Fa Na la hIa _ _
        clear kF kN
        repeat ((fail_if_success (with_reducible show wpAny _ _ (subscriptTail _ _ _ _) _ _ _)); (first | (k_unfold; (try dsimp only)) | walk1 | (dsimp only; walk1) | (leave1; (try dsimp only))))
        (with_reducible rename News _ _ _ _ => kN); (with_reducible rename Fr _ _ _ _ => kF)
        k_dflt (refine' kmk_slice_ints kF kN (News.isList kN (.tail _ (.tail _ (.tail _ (.tail _ (.tail _ (.head _))))))) (IsPart.int _ _) IsPart.none hi (kmk_from hi (by omega)) rfl ?_ (by with_unfolding_all rfl) (by intro _; with_unfolding_all rfl) (by rw [List.size_toArray, sizeLine_eq]; omega))
        intro Db wb hb' Fb Nb lb hIb _ _
        clear kF kN
        repeat ((fail_if_success (with_reducible show wpAny _ _ (binaryOp Operator.Add (Value.ref _) (Value.ref _)) _ _ _)); (first | (k_unfold; (try dsimp only)) | walk1 | (dsimp only; walk1) | (leave1; (try dsimp only))))
        (with_reducible rename News _ _ _ _ => kN); (with_reducible rename Fr _ _ _ _ => kF)
        k_dflt (refine' kmk_add_ints kF kN (News.isList kN (.tail _ (.head _))) (News.isList kN (.head _)) hIa hIb ?_ (by rw [sizeLine_eq]; simp; omega))
        intro Dc wc hc Fc Nc lc hI9
        clear kF kN
        repeat ((fail_if_success (with_reducible show wpAny _ _ (call (Value.ref 109) _) _ _ _)); (first | (k_unfold; (try dsimp only)) | walk1 | (dsimp only; walk1) | (leave1; (try dsimp only))))
        (with_reducible rename News _ _ _ _ => kN); (with_reducible rename Fr _ _ _ _ => kF)
        have ek1 : ((k : Int) + 1).toNat = k + 1 := by omega
        rw [Int.toNat_natCast, ek1] at hI9
        refine wpAny_call (ih n' rfl (dp := dp + 1) (un := un + 3) (outer := envX cn cs L a ccd cl :: outer) (by k_asm) kF (by k_asm) (by k_asm) rfl (by omega) (by omega) hI9 (by simp; omega) (by simp; omega) kN ?_)
        intro oa no refs G2 h3 tk3 F3 N3 hR3 hfr hne
        refine ⟨oa, no, refs, G2, h3, tk3, rfl, rfl, F3, News.sub N3 ?_, ?_, ?_⟩
        · intro q hq; simp only [List.mem_cons, List.mem_append] at hq ⊢; grind
        · rw [show (cs'.take k ++ cs'.drop (k + 1)).length = n' by simp; omega] at hR3; exact hR3
        · intro g hg
          rcases List.mem_cons.mp hg with rfl | hg
          · exact fun q hq => (hfr q (.tail _ (.tail _ (.tail _ hq)))).1
          · exact fun q hq => (hfr q (.tail _ (.tail _ (.tail _ hq)))).2 g hg

      · obtain ⟨oa, no, refs, G2, h3, tk3, rfl, rfl, F3, N3, hR3, hfr⟩ := h₃
        have hlen2 : (permsI n' (cs'.take k ++ cs'.drop (k + 1))).length ≤ 4 ^ n' := permsI_len n' _ (by simp; omega)
        have hpre := prefix_len n' cs' k (by omega)
        have h4 : 4 ^ n' ≤ 64 := by
          have : n' = 0 ∨ n' = 1 ∨ n' = 2 ∨ n' = 3 := by omega
          rcases this with rfl | rfl | rfl | rfl <;> decide
        have hk4 : k * 4 ^ n' ≤ 4 * 64 := Nat.mul_le_mul (by omega) h4
        refine ⟨oa, refs, h3, tk3, (L' + 1, oc) :: (ra, listOf ovs.toArray nr) :: (((oa, listOf refs.toArray no) :: (G2 ++ G)) ++ rest), (fun j ys' nw => ∃ G', nw = (L' + 1, oc) :: (ra, listOf ovs.toArray nr) :: (G' ++ rest) ∧ (∀ g ∈ G', ∀ q ∈ (L' + 1, oc) :: (ra, listOf ovs.toArray nr) :: rest, q.1 ≠ g.1) ∧ (oa, listOf refs.toArray no) ∈ G' ∧ (∀ q ∈ G2, q ∈ G') ∧
            RowsIn G' ys' (((List.range k).flatMap fun k => (permsI n' (cs'.take k ++ cs'.drop (k + 1))).map (cs'.getD k 0 :: ·)) ++ ((permsI n' (cs'.take k ++ cs'.drop (k + 1))).take j).map (cs'.getD k 0 :: ·))), rfl, rfl, F3, N3, ?_, ⟨_, rfl, ?_, .head _, ?_, ?_⟩, ?_, ?_, ?_, ?_⟩
        · refine ⟨hA2.1, fun q hq => ?_⟩
          have hnew : q ∈ (oa, listOf refs.toArray no) :: G2 → q.1 ≠ C ∧ q.1 ≠ D ∧ q.1 ≠ I := fun h => ⟨Ne.symm (hfr q h _ (.head _)), Ne.symm (hfr q h _ (.tail _ (.head _))), Ne.symm (hfr q h _ (.tail _ (.tail _ (.head _))))⟩
          have hold := hA2.2 q
          simp only [List.mem_cons, List.mem_append] at hq hnew hold
          grind
        · intro g hg q hq
          have hnew : g ∈ (oa, listOf refs.toArray no) :: G2 → q.1 ≠ g.1 := fun h => hfr g h q (by simp only [List.mem_cons, List.mem_append] at hq ⊢; grind)
          have hold := hG g
          simp only [List.mem_cons, List.mem_append] at hg hnew hold
          rcases hg with hg | hg | hg
          · exact hnew (.inl hg)
          · exact hnew (.inr hg)
          · exact hold hg q (by simpa only [List.mem_cons] using hq)
        · intro q hq; exact .tail _ (List.mem_append.mpr (.inl hq))
        · rw [List.take_zero, List.map_nil, List.append_nil]
          exact hR.mono fun q hq => .tail _ (List.mem_append.mpr (.inr hq))
        · rintro j ys' nw' ⟨G', rfl, _, hm, _⟩
          exact ⟨no, .tail _ (.tail _ (List.mem_append.mpr (.inl hm)))⟩
        · rintro j ys' nw' ⟨G', rfl, _, _, _, hr'⟩
          rw [hr'.length, List.length_append, List.length_map, List.length_take]; omega
        · rintro j vj ys' nw' nD' I2 oC' mC' oI2 h7 tk7 E7 hvj ⟨G', rfl, hG', hm', hs', hr'⟩ hoC' hmx' hmy' F7 N7 hA7 hA7'
          obtain ⟨aj, vs, nj, ps, rfl, hmj, hij, hpj⟩ := hR3.get hvj
          have N8 := News.sub N7 (l' := (aj, listOf vs.toArray nj) :: (C, oC') :: (D, listOf ys'.toArray nD') :: (I2, oI2) :: (I, oI) :: (L' + 1, oc) :: (ra, listOf ovs.toArray nr) :: (G' ++ rest)) (by
            have := hs' _ hmj
            intro q hq; simp only [List.mem_cons, List.mem_append] at hq ⊢; grind)
          clear N7
          repeat ((fail_if_success (with_reducible show wpAny _ _ (binaryOp _ _ _) _ _ _)); (first | (k_unfold; (try dsimp only)) | walk1 | (dsimp only; walk1) | (leave1; (try dsimp only))))
          (with_reducible rename News _ _ _ _ => kN); (with_reducible rename Fr _ _ _ _ => kF)
          have hps : ps.length = n' := permsI_elt n' _ _ (List.mem_of_getElem? hpj)
          refine kmk_add_ints (vs := [_]) kF kN (News.isList kN (.head _)) (News.isList kN (.tail _ (.head _))) (.cons _ _ .nil) hij ?_ (by rw [hps, sizeLine_eq]; simp; omega)
          intro D9 us h9 F9 N9 l9 hI9
          have hlt9 : ∀ q ∈ (I, oI) :: (I2, oI2) :: (C, oC') :: (D, listOf ys'.toArray nD') :: (L' + 1, oc) :: (ra, listOf ovs.toArray nr) :: (G' ++ rest), q.1 ≠ D9 := fun q hq => Nat.ne_of_lt (l9 q (by simp only [List.mem_cons, List.mem_append] at hq ⊢; grind))
          refine ⟨h9, _, (L' + 1, oc) :: (ra, listOf ovs.toArray nr) :: (((D9, listOf us.toArray 0) :: G') ++ rest), rfl, F9, News.sub N9 ?_, ⟨hA7.1, ?_⟩, ⟨hA7'.1, ?_⟩, (D9, listOf us.toArray 0) :: G', rfl, ?_, .tail _ hm', fun q hq => .tail _ (hs' q hq), ?_⟩
          · intro q hq; simp only [List.mem_cons, List.mem_append] at hq ⊢; grind
          · intro q hq
            have h1 := hA7.2 q
            have h2 := hlt9 (I, oI) (.head _)
            have h3 := hlt9 (C, oC') (.tail _ (.tail _ (.head _)))
            have h4 := hlt9 (D, listOf ys'.toArray nD') (.tail _ (.tail _ (.tail _ (.head _))))
            simp only [List.mem_cons, List.mem_append] at hq h1
            grind
          · intro q hq
            have h1 := hA7'.2 q
            have h2 := hlt9 (I2, oI2) (.tail _ (.head _))
            have h3 := hlt9 (C, oC') (.tail _ (.tail _ (.head _)))
            have h4 := hlt9 (D, listOf ys'.toArray nD') (.tail _ (.tail _ (.tail _ (.head _))))
            simp only [List.mem_cons, List.mem_append] at hq h1
            grind
          · intro g hg q hq
            rcases List.mem_cons.mp hg with rfl | hg
            · exact hlt9 q (by simp only [List.mem_cons, List.mem_append] at hq ⊢; grind)
            · exact hG' g hg q hq
          · have hj : j < (permsI n' (cs'.take k ++ cs'.drop (k + 1))).length := (List.getElem?_eq_some_iff.mp hpj).1
            rw [List.take_succ, hpj, List.map_append, ← List.append_assoc]
            refine (hr'.mono fun q hq => .tail _ hq).snoc (.head _) ?_
            simpa using hI9
        · rintro ys' nw' ⟨G', rfl, hG', hm', hs', hr'⟩
          refine ⟨G', rfl, hG', ?_, by omega⟩
          rw [List.range_succ, List.flatMap_append, List.flatMap_singleton]
          rw [hR3.length, List.take_length] at hr'
          exact hr'
    · rintro ys nw nD D h3 tk3 ⟨G, rfl, hG, hR, hkn⟩ F3 N3 hD
      rw [hsm.2] at hR
      clear kF kN
      k_steps
      (with_reducible rename News _ _ _ _ => kN); (with_reducible rename Fr _ _ _ _ => kF)
      refine ret D nD ys G _ _ kF (News.sub kN ?_) ?_ ?_ ?_
      · intro q hq; simp only [List.mem_cons, List.mem_append] at hq ⊢; grind
      · rw [hn, permsI, hn]; exact hR
      · intro q hq
        exact ⟨hD q (by simp only [List.mem_cons, List.mem_append] at hq ⊢; grind), fun g hg => hG g hg q (.tail _ hq)⟩
      · intro g hg
        exact hD g (.tail _ (.tail _ (List.mem_append.mpr (.inl hg))))
theorem orders_spec {w : World} : ∀ n, OrdersSpec w n := by
  intro n
  induction n with
  | zero => exact orders_step fun n' h => by omega
  | succ n ih => exact orders_step fun n' h => by obtain rfl : n = n' := by omega
                                                  exact ih
end
section
open PySem PySem.W PySem.Spec PySem.Calls PyProof.Rows
example : True := by w_top off; trivial
example : PySem.Challenge.rw_re0010_01 = PySem.Challenge.rw_re0010_01 ∧ hd.heap_39 = hd.heap_39 := by k_fill; exact ⟨rfl, rfl⟩
inductive TabIn (G : List (Addr × Obj)) : List Value → List (List (List Int)) → Prop
  | nil : TabIn G [] []
  | cons {a : Addr} {refs : List Value} {n : Nat} {pss : List (List Int)} {vs : List Value} {tabs : List (List (List Int))} : (a, listOf refs.toArray n) ∈ G → RowsIn G refs pss → TabIn G vs tabs → TabIn G (.ref a :: vs) (pss :: tabs)
theorem TabIn.mono {G G' : List (Addr × Obj)} (h : ∀ q ∈ G, q ∈ G') : ∀ {vs : List Value} {tabs : List (List (List Int))}, TabIn G vs tabs → TabIn G' vs tabs
  | _, _, .nil => .nil
  | _, _, .cons hm hi r => .cons (h _ hm) (hi.mono h) (r.mono h)
theorem TabIn.snoc {G : List (Addr × Obj)} {a : Addr} {refs : List Value} {n : Nat} {pss : List (List Int)} (hm : (a, listOf refs.toArray n) ∈ G) (hi : RowsIn G refs pss) : ∀ {vs : List Value} {tabs : List (List (List Int))}, TabIn G vs tabs → TabIn G (vs ++ [.ref a]) (tabs ++ [pss])
  | _, _, .nil => .cons hm hi .nil
  | _, _, .cons hm' hi' r => .cons hm' hi' (r.snoc hm hi)
theorem TabIn.length {G : List (Addr × Obj)} : ∀ {vs : List Value} {tabs : List (List (List Int))}, TabIn G vs tabs → vs.length = tabs.length
  | _, _, .nil => rfl
  | _, _, .cons _ _ r => by simp [r.length]
theorem TabIn.get {G : List (Addr × Obj)} : ∀ {vs : List Value} {tabs : List (List (List Int))}, TabIn G vs tabs → ∀ {i : Nat} {v : Value}, vs[i]? = some v → ∃ a refs n pss, v = .ref a ∧ (a, listOf refs.toArray n) ∈ G ∧ RowsIn G refs pss ∧ tabs[i]? = some pss
  | _, _, .nil, i, v, h => by simp at h
  | _, _, .cons hm hi r, i, v, h => by
    cases i with
    | zero => simp at h; exact ⟨_, _, _, _, h.symm, hm, hi, by simp⟩
    | succ i => simp at h; obtain ⟨a, refs, n, pss, h1, h2, h3, h4⟩ := r.get h; exact ⟨a, refs, n, pss, h1, h2, h3, by simpa using h4⟩
theorem RowsIn.append {G : List (Addr × Obj)} {r2 : List Value} {p2 : List (List Int)} (h2 : RowsIn G r2 p2) : ∀ {refs : List Value} {pss : List (List Int)}, RowsIn G refs pss → RowsIn G (refs ++ r2) (pss ++ p2)
  | _, _, .nil => h2
  | _, _, .cons hm hi r => .cons hm hi (h2.append r)
theorem RowsIn.take {G : List (Addr × Obj)} : ∀ {refs : List Value} {pss : List (List Int)}, RowsIn G refs pss → ∀ k, RowsIn G (refs.take k) (pss.take k)
  | _, _, .nil, k => by simp; exact .nil
  | _, _, .cons hm hi r, 0 => .nil
  | _, _, .cons hm hi r, k + 1 => .cons hm hi (r.take k)
theorem RowsIn.drop {G : List (Addr × Obj)} : ∀ {refs : List Value} {pss : List (List Int)}, RowsIn G refs pss → ∀ k, RowsIn G (refs.drop k) (pss.drop k)
  | _, _, .nil, k => by simp; exact .nil
  | _, _, .cons hm hi r, 0 => .cons hm hi r
  | _, _, .cons hm hi r, k + 1 => r.drop k
def seatOne (c : Int) (rings : List (List Int)) (k : Nat) : List (List (List Int)) := List.replicate (rings.getD k []).length (rings.take k ++ [rings.getD k [] ++ [c]] ++ rings.drop (k + 1))
def seatRow (c : Int) (rings : List (List Int)) : List (List (List Int)) := (rings ++ [[c]]) :: (List.range rings.length).flatMap (seatOne c rings)
def seatStep (c : Int) (rows : List (List (List Int))) : List (List (List Int)) := rows.flatMap (seatRow c)
def seatAll (cs : List Int) : List (List (List Int)) := cs.foldl (fun rows c => seatStep c rows) [[]]
def RingsOk (n : Nat) (rings : List (List Int)) : Prop := rings.length ≤ n ∧ ∀ r ∈ rings, r.length ≤ n
theorem seatOne_len {n : Nat} {rings : List (List Int)} (h : RingsOk n rings) (c : Int) (k : Nat) : (seatOne c rings k).length ≤ n := by
  unfold seatOne
  rw [List.length_replicate]
  rcases Nat.lt_or_ge k rings.length with hk | hk
  · have : rings.getD k [] = rings[k] := by simp [List.getD_eq_getElem?_getD, hk]
    rw [this]; exact h.2 _ (List.getElem_mem hk)
  · have : rings.getD k [] = [] := by simp [List.getD_eq_getElem?_getD, hk]
    rw [this]; exact Nat.zero_le _
theorem seatPre_len {n : Nat} {rings : List (List Int)} (h : RingsOk n rings) (c : Int) : ∀ k, ((List.range k).flatMap (seatOne c rings)).length ≤ k * n := by
  intro k
  induction k with
  | zero => simp
  | succ k ih =>
    rw [List.range_succ, List.flatMap_append, List.flatMap_singleton, List.length_append, Nat.succ_mul]
    exact Nat.add_le_add ih (seatOne_len h c k)
theorem seatRow_len {n : Nat} {rings : List (List Int)} (h : RingsOk n rings) (hn : n ≤ 4) (c : Int) : (seatRow c rings).length ≤ 17 := by
  have h1 := seatPre_len h c rings.length
  have h2 : rings.length * n ≤ 4 * 4 := Nat.mul_le_mul (Nat.le_trans h.1 hn) hn
  unfold seatRow
  rw [List.length_cons]; omega
theorem seatStep_len {n : Nat} (hn : n ≤ 4) (c : Int) : ∀ rows : List (List (List Int)), (∀ r ∈ rows, RingsOk n r) → (seatStep c rows).length ≤ 17 * rows.length
  | [], _ => by simp [seatStep]
  | r :: rows, h => by
    have h1 := seatRow_len (h r (by simp)) hn c
    have h2 := seatStep_len hn c rows fun x hx => h x (by simp [hx])
    unfold seatStep at h2 ⊢
    rw [List.flatMap_cons, List.length_append, List.length_cons]; omega
theorem seatRow_ok {n : Nat} {rings : List (List Int)} (h : RingsOk n rings) (c : Int) : ∀ r ∈ seatRow c rings, RingsOk (n + 1) r := by
  intro r hr
  unfold seatRow at hr
  rcases List.mem_cons.mp hr with rfl | hr
  · refine ⟨by simp; exact h.1, fun x hx => ?_⟩
    rcases List.mem_append.mp hx with hx | hx
    · exact Nat.le_succ_of_le (h.2 x hx)
    · rw [List.mem_singleton.mp hx]; simp
  · obtain ⟨k, hk, hr⟩ := List.mem_flatMap.mp hr
    have hk : k < rings.length := by simpa using hk
    obtain ⟨hn, rfl⟩ := List.mem_replicate.mp hr
    have hg : rings.getD k [] = rings[k] := by simp [List.getD_eq_getElem?_getD, hk]
    rw [hg]
    refine ⟨by simp; have := h.1; omega, fun x hx => ?_⟩
    rcases List.mem_append.mp hx with hx | hx
    · rcases List.mem_append.mp hx with hx | hx
      · exact Nat.le_succ_of_le (h.2 x (List.mem_of_mem_take hx))
      · rw [List.mem_singleton.mp hx]; simp; exact h.2 _ (List.getElem_mem hk)
    · exact Nat.le_succ_of_le (h.2 x (List.mem_of_mem_drop hx))
theorem seatStep_ok {n : Nat} {rows : List (List (List Int))} (h : ∀ r ∈ rows, RingsOk n r) (c : Int) : ∀ r ∈ seatStep c rows, RingsOk (n + 1) r := by
  intro r hr
  obtain ⟨x, hx, hr⟩ := List.mem_flatMap.mp hr
  exact seatRow_ok (h x hx) c r hr
theorem seatAll_snoc (cs : List Int) (c : Int) : seatAll (cs ++ [c]) = seatStep c (seatAll cs) := by
  unfold seatAll; rw [List.foldl_append]; rfl
theorem seatAll_take {cs : List Int} {k : Nat} {c : Int} (h : cs[k]? = some c) : seatAll (cs.take (k + 1)) = seatStep c (seatAll (cs.take k)) := by
  rw [List.take_add_one, h, Option.toList_some, seatAll_snoc]
theorem seatAll_ok (cs : List Int) : ∀ k, k ≤ cs.length → (∀ r ∈ seatAll (cs.take k), RingsOk k r) ∧ (k ≤ 5 → (seatAll (cs.take k)).length ≤ 17 ^ k) := by
  intro k
  induction k with
  | zero => intro _; simp [seatAll, RingsOk]
  | succ k ih =>
    intro hk
    have ih := ih (by omega)
    rw [seatAll_take (List.getElem?_eq_getElem (show k < cs.length by omega))]
    refine ⟨seatStep_ok ih.1 _, fun h5 => Nat.le_trans (seatStep_len (n := k) (by omega) _ _ ih.1) ?_⟩
    rw [Nat.pow_succ, Nat.mul_comm]
    exact Nat.mul_le_mul_right _ (ih.2 (by omega))
theorem seat_take {rows : List (List (List Int))} {i : Nat} {c : Int} {rings : List (List Int)} (h : rows[i]? = some rings) : seatStep c (rows.take (i + 1)) = seatStep c (rows.take i) ++ seatRow c rings := by
  rw [List.take_add_one, h, Option.toList_some]
  unfold seatStep
  rw [List.flatMap_append, List.flatMap_singleton]
def SeatSt (its keep : List (Addr × Obj)) (mo : Addr) (rows : List (List (List Int))) (news : List (Addr × Obj)) : Prop :=
  ∃ (mvs : List Value) (n : Nat) (G : List (Addr × Obj)), news = (mo, listOf mvs.toArray n) :: (G ++ (its ++ keep)) ∧ TabIn (G ++ keep) mvs rows ∧ (∀ g ∈ G, g.1 ≠ mo ∧ ∀ q ∈ its ++ keep, q.1 ≠ g.1) ∧ (∀ q ∈ its ++ keep, q.1 ≠ mo)
theorem SeatSt.pop {its keep : List (Addr × Obj)} {x : Addr × Obj} {mo : Addr} {rows : List (List (List Int))} {news : List (Addr × Obj)} {h₀ h : Heap} {L : Addr} (S : SeatSt (x :: its) keep mo rows news) (N : News h₀ L h news) (hx : ∀ q ∈ its ++ keep, q.1 ≠ x.1) :
    ∃ news₂, News h₀ L h (x :: news₂) ∧ (∀ q ∈ news₂, q.1 ≠ x.1) ∧ SeatSt its keep mo rows news₂ := by
  obtain ⟨mvs, n, G, rfl, hT, hG, hK⟩ := S
  refine ⟨(mo, listOf mvs.toArray n) :: (G ++ (its ++ keep)), News.sub N ?_, ?_, mvs, n, G, rfl, hT, fun g hg => ⟨(hG g hg).1, fun q hq => (hG g hg).2 q (.tail _ hq)⟩, fun q hq => hK q (.tail _ hq)⟩
  · intro q hq; simp only [List.mem_cons, List.mem_append] at hq ⊢; grind
  · intro q hq
    rcases List.mem_cons.mp hq with rfl | hq
    · exact Ne.symm (hK x (.head _))
    · rcases List.mem_append.mp hq with hq | hq
      · exact Ne.symm ((hG q hq).2 x (.head _))
      · exact hx q hq
theorem SeatSt.push {its keep : List (Addr × Obj)} {x : Addr × Obj} {mo : Addr} {rows : List (List (List Int))} {news : List (Addr × Obj)} {h₀ h : Heap} {L : Addr} (S : SeatSt its keep mo rows news) (N : News h₀ L h (x :: news)) (hx : ∀ q ∈ news, q.1 ≠ x.1) :
    ∃ news₂, News h₀ L h news₂ ∧ SeatSt (x :: its) keep mo rows news₂ := by
  obtain ⟨mvs, n, G, rfl, hT, hG, hK⟩ := S
  refine ⟨(mo, listOf mvs.toArray n) :: (G ++ (x :: its ++ keep)), News.sub N ?_, mvs, n, G, rfl, hT, fun g hg => ⟨(hG g hg).1, fun q hq => ?_⟩, fun q hq => ?_⟩
  · intro q hq; simp only [List.mem_cons, List.mem_append] at hq ⊢; grind
  · rcases List.mem_cons.mp hq with rfl | hq
    · exact Ne.symm (hx g (.tail _ (List.mem_append.mpr (.inl hg))))
    · exact (hG g hg).2 q hq
  · rcases List.mem_cons.mp hq with rfl | hq
    · exact Ne.symm (hx _ (.head _))
    · exact hK q hq
theorem SeatSt.down {keep G : List (Addr × Obj)} {x : Addr × Obj} {mo : Addr} {rows : List (List (List Int))} {news : List (Addr × Obj)} (S : SeatSt [] (x :: (G ++ keep)) mo rows news) (hx : ∀ q ∈ keep, q.1 ≠ x.1 ∧ ∀ g ∈ G, q.1 ≠ g.1) : SeatSt [] keep mo rows news := by
  obtain ⟨mvs, n, G', rfl, hT, hG, hK⟩ := S
  refine ⟨mvs, n, G' ++ x :: G, by simp, hT.mono ?_, fun g hg => ⟨?_, fun q hq => ?_⟩, fun q hq => hK q ?_⟩
  · intro q hq; simp only [List.mem_cons, List.mem_append] at hq ⊢; grind
  · rcases List.mem_append.mp hg with hg | hg
    · exact (hG g hg).1
    · exact hK g (by simp only [List.mem_cons, List.mem_append, List.nil_append] at hg ⊢; grind)
  · rcases List.mem_append.mp hg with hg | hg
    · exact (hG g hg).2 q (by simp only [List.mem_cons, List.mem_append, List.nil_append] at hq ⊢; grind)
    · rcases List.mem_cons.mp hg with rfl | hg
      · exact (hx q hq).1
      · exact (hx q hq).2 g hg
  · simp only [List.mem_cons, List.mem_append, List.nil_append] at hq ⊢; grind
theorem SeatSt.mem {its keep : List (Addr × Obj)} {mo : Addr} {rows : List (List (List Int))} {news : List (Addr × Obj)} (S : SeatSt its keep mo rows news) : ∃ mvs n, (mo, listOf (mvs : List Value).toArray n) ∈ news ∧ mvs.length = rows.length := by
  obtain ⟨mvs, n, G', rfl, hT, hG, hK⟩ := S
  exact ⟨mvs, n, .head _, hT.length⟩
theorem SeatSt.keep {its keep : List (Addr × Obj)} {mo : Addr} {rows : List (List (List Int))} {news : List (Addr × Obj)} (S : SeatSt its keep mo rows news) : ∀ q ∈ keep, q ∈ news := by
  obtain ⟨mvs, n, G', rfl, hT, hG, hK⟩ := S
  intro q hq; simp only [List.mem_cons, List.mem_append]; grind
theorem SeatSt.all {its keep : List (Addr × Obj)} {mo : Addr} {rows : List (List (List Int))} {news : List (Addr × Obj)} (S : SeatSt its keep mo rows news) : ∀ q ∈ its ++ keep, q ∈ news := by
  obtain ⟨mvs, n, G', rfl, hT, hG, hK⟩ := S
  intro q hq; simp only [List.mem_cons, List.mem_append] at hq ⊢; grind
theorem seat_append {prog : Program} {w : World} {A : Around} {E : Value → Shared → Prop} {s : Shared} {h₀ : Heap} {L : Addr} {m : Str → Option Value} {Q : Value → Shared → Prop} {its keep new : List (Addr × Obj)} {mo D : Addr} {rows : List (List (List Int))} {news : List (Addr × Obj)} {refs : List Value} {n' : Nat} {pss : List (List Int)}
    (F : Fr h₀ L s.heap m) (N : News h₀ L s.heap (new ++ news)) (S : SeatSt its keep mo rows news) (hnew : ∀ g ∈ new, ∀ q ∈ news, q.1 ≠ g.1) (hD : (D, listOf refs.toArray n') ∈ new) (hR : RowsIn (new ++ keep) refs pss) (hl : rows.length ≤ 1000000)
    (h : ∀ h' news', Fr h₀ L h' m → News h₀ L h' news' → SeatSt its keep mo (rows ++ [pss]) news' → Q .none { s with heap := h' }) :
    wpAny (model prog w) A (call (.builtin "list.append") [.ref mo, .ref D]) Q E s := by
  obtain ⟨mvs, n, G, rfl, hT, hG, hK⟩ := S
  refine append_K (news := (mo, listOf mvs.toArray n) :: (new ++ (G ++ (its ++ keep)))) F (News.sub N ?_) (Upd.head ?_) ?_ ?_
  · intro q hq; simp only [List.mem_cons, List.mem_append] at hq ⊢; grind
  · intro q hq
    rcases List.mem_append.mp hq with hq | hq
    · exact Ne.symm (hnew q hq (mo, listOf mvs.toArray n) (.head _))
    · rcases List.mem_append.mp hq with hq | hq
      · exact (hG q hq).1
      · exact hK q hq
  · intro h' F' N'
    rw [List.push_toArray] at N'
    refine h h' _ F' N' ⟨mvs ++ [.ref D], n + 1, new ++ G, by simp, (hT.mono ?_).snoc (n := n') ?_ (hR.mono ?_), fun g hg => ?_, hK⟩
    · intro q hq; simp only [List.mem_append] at hq ⊢; grind
    · simp only [List.mem_append]; grind
    · intro q hq; simp only [List.mem_append] at hq ⊢; grind
    · rcases List.mem_append.mp hg with hg | hg
      · exact ⟨Ne.symm (hnew g hg (mo, listOf mvs.toArray n) (.head _)), fun q hq => hnew g hg q (.tail _ (List.mem_append.mpr (.inr hq)))⟩
      · exact hG g hg
  · have := hT.length
    simp only [List.size_toArray, sizeLine_eq]; omega
theorem pick_take (vs : List Value) (k : Nat) : (slicePick vs.toArray none (some (k : Int)) none).toList = vs.take k := by
  have e : sliceBounds none (some (k : Int)) none vs.toArray.size = (((0 : Nat) : Int), ((min k vs.toArray.size : Nat) : Int), 1) := by
    simp only [sliceBounds, Option.getD_none, show (1 : Int) > 0 by decide, if_true, if_neg (show ¬ ((k : Int) < 0) by omega)]
    congr 1
    congr 1
    omega
  rw [kmk_pick_nat _ e]
  show ((vs.drop 0).take (min k vs.toArray.size - 0)) = _
  rw [List.drop_zero, Nat.sub_zero, List.size_toArray, kmk_take_min]
theorem pick_drop (vs : List Value) (k : Nat) : (slicePick vs.toArray (some (k : Int)) none none).toList = vs.drop k := by
  have e : sliceBounds (some (k : Int)) none none vs.toArray.size = (((min k vs.toArray.size : Nat) : Int), ((vs.toArray.size : Nat) : Int), 1) := by
    simp only [sliceBounds, Option.getD_none, show (1 : Int) > 0 by decide, if_true, if_neg (show ¬ ((k : Int) < 0) by omega)]
    congr 1
    omega
  rw [kmk_pick_nat _ e]
  show ((vs.drop (min k vs.toArray.size)).take (vs.toArray.size - min k vs.toArray.size)) = _
  rw [List.size_toArray, kmk_drop_min, List.take_of_length_le (by rw [List.length_drop]; omega)]
def seM (ca : Addr) (v_rows v_change v_more v_rings v_k v_neighbour : Option Value) : Str → Option Value := fun y => if y = Str.ofString "rows" then v_rows else if y = Str.ofString "change" then v_change else if y = Str.ofString "more" then v_more else if y = Str.ofString "rings" then v_rings else if y = Str.ofString "k" then v_k else if y = Str.ofString "neighbour" then v_neighbour else if y = Str.ofString "changes" then some (.ref ca) else none
theorem seM_rows {ca : Addr} {v_rows v_change v_more v_rings v_k v_neighbour v9 : Option Value} {y : Str} : (if y = Str.ofString "rows" then v9 else seM ca v_rows v_change v_more v_rings v_k v_neighbour y) = seM ca v9 v_change v_more v_rings v_k v_neighbour y := by
  unfold seM; rw [ite_upd]
theorem seM_change {ca : Addr} {v_rows v_change v_more v_rings v_k v_neighbour v9 : Option Value} {y : Str} : (if y = Str.ofString "change" then v9 else seM ca v_rows v_change v_more v_rings v_k v_neighbour y) = seM ca v_rows v9 v_more v_rings v_k v_neighbour y := by
  unfold seM; rw [ite_swap (x := Str.ofString "change") (by decide), ite_upd]
theorem seM_more {ca : Addr} {v_rows v_change v_more v_rings v_k v_neighbour v9 : Option Value} {y : Str} : (if y = Str.ofString "more" then v9 else seM ca v_rows v_change v_more v_rings v_k v_neighbour y) = seM ca v_rows v_change v9 v_rings v_k v_neighbour y := by
  unfold seM; rw [ite_swap (x := Str.ofString "more") (by decide), ite_swap (x := Str.ofString "more") (by decide), ite_upd]
theorem seM_rings {ca : Addr} {v_rows v_change v_more v_rings v_k v_neighbour v9 : Option Value} {y : Str} : (if y = Str.ofString "rings" then v9 else seM ca v_rows v_change v_more v_rings v_k v_neighbour y) = seM ca v_rows v_change v_more v9 v_k v_neighbour y := by
  unfold seM; rw [ite_swap (x := Str.ofString "rings") (by decide), ite_swap (x := Str.ofString "rings") (by decide), ite_swap (x := Str.ofString "rings") (by decide), ite_upd]
theorem seM_k {ca : Addr} {v_rows v_change v_more v_rings v_k v_neighbour v9 : Option Value} {y : Str} : (if y = Str.ofString "k" then v9 else seM ca v_rows v_change v_more v_rings v_k v_neighbour y) = seM ca v_rows v_change v_more v_rings v9 v_neighbour y := by
  unfold seM; rw [ite_swap (x := Str.ofString "k") (by decide), ite_swap (x := Str.ofString "k") (by decide), ite_swap (x := Str.ofString "k") (by decide), ite_swap (x := Str.ofString "k") (by decide), ite_upd]
theorem seM_neighbour {ca : Addr} {v_rows v_change v_more v_rings v_k v_neighbour v9 : Option Value} {y : Str} : (if y = Str.ofString "neighbour" then v9 else seM ca v_rows v_change v_more v_rings v_k v_neighbour y) = seM ca v_rows v_change v_more v_rings v_k v9 y := by
  unfold seM; rw [ite_swap (x := Str.ofString "neighbour") (by decide), ite_swap (x := Str.ofString "neighbour") (by decide), ite_swap (x := Str.ofString "neighbour") (by decide), ite_swap (x := Str.ofString "neighbour") (by decide), ite_swap (x := Str.ofString "neighbour") (by decide), ite_upd]
theorem seM_init {ca : Addr} : (fun y => ([(Str.ofString "changes", .ref ca)] : List (Str × Value)).reverse.lookup y) = seM ca none none none none none none := by
  funext y
  by_cases e0 : y = Str.ofString "rows"
  · subst e0; rfl
  by_cases e1 : y = Str.ofString "change"
  · subst e1; rfl
  by_cases e2 : y = Str.ofString "more"
  · subst e2; rfl
  by_cases e3 : y = Str.ofString "rings"
  · subst e3; rfl
  by_cases e4 : y = Str.ofString "k"
  · subst e4; rfl
  by_cases e5 : y = Str.ofString "neighbour"
  · subst e5; rfl
  by_cases e6 : y = Str.ofString "changes"
  · subst e6; rfl
  simp only [seM, List.reverse_cons, List.reverse_nil, List.nil_append, List.cons_append, lookup_ite, if_neg e0, if_neg e1, if_neg e2, if_neg e3, if_neg e4, if_neg e5, if_neg e6]
  rfl
local macro_rules | `(tactic| k_all) => `(tactic| first | with_reducible assumption | (refine rest_ne (by with_reducible assumption) ?_; omega))
theorem seated_spec {w : World} {p : Program} {loose : List Str} {mean : ExcName → Option Value} {mg mb : Str → Option Value} {dp un : Nat} {gd : Option (List Code)} {cn : Str} {cs : Scope} {a : Addr} {ccd : Value} {cl : List (Str × Addr)} {outer : List Env} {A₀ : Around} {base h₀ : Heap} {L : Addr} {m : Str → Option Value} {s : Shared} {R : Result → Shared → Prop} {ca : Addr} {ovs : List Value} {cs' : List Int} {nc : Nat} {rest : List (Addr × Obj)} (B : Below A₀ base outer h₀) (F : Fr h₀ L s.heap m) (X : (hd.heap_39 w.params).In h₀) (T : Top p loose mean mg mb h₀) (hk : cs.kind = .function) (hdp : dp + 12 < recursionLimit) (hun : un + 100 < cLine)
    (hi : IntsAre ovs cs') (h4 : cs'.length ≤ 4)
    (N : News h₀ L s.heap ((ca, listOf ovs.toArray nc) :: rest))
    (ret : ∀ ra news h' tk', Fr h₀ L h' m → News h₀ L h' news → SeatSt [] ((ca, listOf ovs.toArray nc) :: rest) ra (seatAll cs') news → R (.ok (.ret (.ref ra))) { s with heap := h', toks := tk' }) :
    codeAny (model PySem.Challenge.pw_re0010_01 w) (ktrTop dp un gd cn cs L a ccd cl outer) (.call (.ref 130) ⟨[.ref ca], []⟩) R s := by
  (k_dflt (refine' code_defM [(Str.ofString "changes", .ref ca)] ?k1 ?k2 ?k3 ?k4 ?k5 ?kA ?kF ?kK ?k6 ?k7 ?k8 ?k9 ?kB seM_init ?_ ?c2 ?c3 ?c4 ?c5; (case kA => exact rfl); (case kF => exact rfl); (case kK => first | exact rfl | assumption); (case k1 => k_asm); (case k2 => k_asm); (case k3 => k_asm); (case k4 => k_asm); (case k5 => k_asm); (case k6 => k_is); (case k7 => k_is); (case k8 => ktr_room); (case k9 => exact BindsTo.of_eq rfl); (case c5 => decide); (case kB => exact locs rfl); (case c2 => exact rfl); (case c3 => exact rfl); (case c4 => exact rfl); k_whole; intro g' L' h' tk₁ FG' F' N' B' X' T' l1; (try k_lt l1); (try dsimp only); (try k_fold)))
  have hb := allLt_mem l1.2
  repeat ((fail_if_success (with_reducible show wpAny _ _ (exec (Stmt.For _ _ _ _ _) _) _ _ _)); (first | (k_unfold; (try dsimp only)) | walk1 | (dsimp only; walk1) | (leave1; (try dsimp only))))
  refine wpAny_For ?_
  repeat ((fail_if_success (with_reducible show wpAny _ _ (pyIter _) _ _ _)); (first | (k_unfold; (try dsimp only)) | walk1 | (dsimp only; walk1) | (leave1; (try dsimp only))))
  (with_reducible rename News _ _ _ _ => kN); (with_reducible rename Fr _ _ _ _ => kF)
  rename_i e0 _ lA ro _ lB _
  simp only [seM_rows] at kF
  refine for_list_K (vs := ovs) (fun k m' news' => ∃ ra v1 v2 v3 v4 v5, m' = seM ca (some (.ref ra)) v1 v2 v3 v4 v5 ∧ SeatSt [] ((ca, listOf ovs.toArray nc) :: rest) ra (seatAll (cs'.take k)) news') rfl ?_ kF kN ?_ ?_ ?_ rfl rfl
  · rintro k m' news' ⟨ra, v1, v2, v3, v4, v5, rfl, mvs, n, G, rfl, _⟩
    exact ⟨nc, by simp⟩
  · refine ⟨ro, _, _, _, _, _, rfl, [.ref e0], 0, [(e0, listOf ([] : List Value).toArray 0)], rfl, .cons (refs := []) (.head _) .nil .nil, ?_, ?_⟩
    · intro g hg
      rw [List.mem_singleton.mp hg]
      exact ⟨Nat.ne_of_lt lB.1, fun q hq => by
        rcases List.mem_cons.mp hq with rfl | hq
        · exact Nat.ne_of_lt lA.1
        · exact Nat.ne_of_lt (allLt_mem lA.2 q hq)⟩
    · intro q hq
      rcases List.mem_cons.mp hq with rfl | hq
      · exact Nat.ne_of_lt lB.2.1
      · exact Nat.ne_of_lt (allLt_mem lB.2.2 q hq)
  · rintro k v m₁ news₁ h2 tk2 it1 oi1 E1 hv ⟨ra, v1, v2, v3, v4, v5, rfl, rvs, nr, G, rfl, hT, hG, hK⟩ hn₁ F₁ N₁ hlt1
    obtain ⟨c, tc, hck, rfl⟩ := ints_get hi hv
    simp only [seM_change] at F₁
    clear kF kN
    repeat ((fail_if_success (with_reducible show wpAny _ _ (exec (Stmt.For _ _ _ _ _) _) _ _ _)); (first | (k_unfold; (try dsimp only)) | walk1 | (dsimp only; walk1) | (leave1; (try dsimp only))))
    refine wpAny_For ?_
    repeat ((fail_if_success (with_reducible show wpAny _ _ (pyIter _) _ _ _)); (first | (k_unfold; (try dsimp only)) | walk1 | (dsimp only; walk1) | (leave1; (try dsimp only))))
    (with_reducible rename News _ _ _ _ => kN); (with_reducible rename Fr _ _ _ _ => kF)
    simp only [seM_more] at kF
    rename_i mo _ _ _ lM _
    have hrow := seatAll_ok cs' k (by have := (List.getElem?_eq_some_iff.mp hck).1; omega)
    have hk4 : k < 4 := by have := (List.getElem?_eq_some_iff.mp hck).1; omega
    generalize hrows : seatAll (cs'.take k) = rows at *
    have hkeep : ∀ q ∈ (ra, listOf rvs.toArray nr) :: (G ++ (ca, listOf ovs.toArray nc) :: rest), q.1 ≠ it1 := by simpa using hn₁
    have hTk : TabIn ((ra, listOf rvs.toArray nr) :: (G ++ (ca, listOf ovs.toArray nc) :: rest)) rvs rows := hT.mono fun q hq => .tail _ hq
    have hfix : ∀ q ∈ [(it1, oi1)] ++ (ra, listOf rvs.toArray nr) :: (G ++ (ca, listOf ovs.toArray nc) :: rest), q.1 ≠ mo := by
      intro q hq
      have h9 := allLt_mem lM.2.2 q
      simp only [List.mem_cons, List.mem_append, List.not_mem_nil, or_false, false_or] at hq h9
      rcases hq with rfl | rfl | hq
      · exact Nat.ne_of_lt lM.1
      · exact Nat.ne_of_lt lM.2.1
      · exact Nat.ne_of_lt (h9 hq)
    generalize hkp : (ra, listOf rvs.toArray nr) :: (G ++ (ca, listOf ovs.toArray nc) :: rest) = keep at *
    have hra : (ra, listOf rvs.toArray nr) ∈ keep := by rw [← hkp]; exact .head _
    have kN := News.sub kN (l' := (mo, listOf ([] : List Value).toArray 0) :: ([] ++ ([(it1, oi1)] ++ keep))) (by rw [← hkp]; intro q hq; simp only [List.mem_cons, List.mem_append] at hq ⊢; grind)
    refine for_list_K (vs := rvs) (fun i m' news' => ∃ v3 v4 v5, m' = seM ca (some (.ref ra)) (some (.int c tc)) (some (.ref mo)) v3 v4 v5 ∧ SeatSt [(it1, oi1)] keep mo (seatStep c (rows.take i)) news') rfl ?_ kF kN ?_ ?_ ?_ rfl rfl
    · rintro i m' news' ⟨v3, v4, v5, rfl, mvs, n, G', rfl, _⟩
      exact ⟨nr, by simp [hra]⟩
    · exact ⟨_, _, _, rfl, [], 0, [], rfl, .nil, by simp, hfix⟩
    · rintro i v m₂ news₂ h3 tk3 it2 oi2 E2 hvi ⟨v3, v4, v5, rfl, hS2⟩ hn₂ F₂ N₂ hlt2
      obtain ⟨rg, refs, nrg, rings, rfl, hrg, hRg, hri⟩ := hTk.get hvi
      simp only [seM_rings] at F₂
      clear kF kN
      obtain ⟨news₃, N₃, S₃⟩ := hS2.push N₂ hn₂
      obtain ⟨mvs, nm, hmo, _⟩ := S₃.mem
      have N₄ := News.sub N₃ (l' := (rg, listOf refs.toArray nrg) :: (mo, listOf mvs.toArray nm) :: news₃) (by
        intro q hq
        rcases List.mem_cons.mp hq with rfl | hq
        · exact S₃.keep _ hrg
        · rcases List.mem_cons.mp hq with rfl | hq
          · exact hmo
          · exact hq)
      clear N₃ N₂
      repeat ((fail_if_success (with_reducible show wpAny _ _ (binaryOp Operator.Add (Value.ref _) (Value.ref _)) _ _ _)); (first | (k_unfold; (try dsimp only)) | walk1 | (dsimp only; walk1) | (leave1; (try dsimp only))))
      (with_reducible rename News _ _ _ _ => kN); (with_reducible rename Fr _ _ _ _ => kF)
      rename_i D1 _ lD1 D2 _ lD2
      have hok := hrow.1 rings (List.mem_of_getElem? hri)
      have hrgl := hRg.length
      have hbig : (seatStep c (rows.take i)).length ≤ 90000 := by
        have h9 := seatStep_len (n := k) (by omega) c (rows.take i) fun r hr => hrow.1 r (List.mem_of_mem_take hr)
        have h8 := hrow.2 (by omega)
        have h7 : 17 ^ k ≤ 17 ^ 3 := Nat.pow_le_pow_right (by omega) (by omega)
        have h6 : (rows.take i).length ≤ rows.length := by simp; omega
        omega
      k_dflt (refine' kmk_add_lit (zs := refs ++ [.ref D1]) kF kN (News.isList kN (.tail _ (.tail _ (.head _)))) (News.isList kN (.head _)) (by simp) ?_ (by have := hok.1; simp only [sizeLine_eq, List.length_cons, List.length_nil]; omega))
      intro D3 h41 F4 N4 lD3
      clear kF kN
      repeat ((fail_if_success (with_reducible show wpAny _ _ (call (Value.builtin "list.append") _) _ _ _)); (first | (k_unfold; (try dsimp only)) | walk1 | (dsimp only; walk1) | (leave1; (try dsimp only))))
      (with_reducible rename News _ _ _ _ => kN); (with_reducible rename Fr _ _ _ _ => kF)
      refine seat_append (refs := refs ++ [Value.ref D1]) (n' := 0) (new := [(D3, listOf (refs ++ [Value.ref D1]).toArray 0), (D1, listOf [Value.int c tc].toArray 0)]) kF (News.sub kN ?_) S₃ ?_ (.head _) (pss := rings ++ [[c]]) ?_ (by omega) ?_
      · intro q hq; simp only [List.mem_cons, List.mem_append] at hq ⊢; grind
      · intro g hg q hq
        rcases List.mem_cons.mp hg with rfl | hg
        · exact Nat.ne_of_lt (lD3 q (by simp only [List.mem_cons, List.mem_append]; grind))
        · rw [List.mem_singleton.mp hg]
          exact Nat.ne_of_lt (allLt_mem lD1.2.2 q hq)
      · refine (hRg.mono ?_).snoc (vs := [Value.int c tc]) (n := 0) ?_ (IntsAre.cons _ _ .nil)
        · intro q hq; simp only [List.mem_append]; grind
        · simp
      intro h5 news₅ F5 N5 S5
      clear kF kN
      obtain ⟨mvs5, nm5, hmo5, _⟩ := S5.mem
      have N6 := News.sub N5 (l' := (rg, listOf refs.toArray nrg) :: (mo, listOf mvs5.toArray nm5) :: news₅) (by
        intro q hq
        rcases List.mem_cons.mp hq with rfl | hq
        · exact S5.keep _ hrg
        · rcases List.mem_cons.mp hq with rfl | hq
          · exact hmo5
          · exact hq)
      clear N5 S₃
      repeat ((fail_if_success (with_reducible show wpAny _ _ (exec (Stmt.For _ _ _ _ _) _) _ _ _)); (first | (k_unfold; (try dsimp only)) | walk1 | (dsimp only; walk1) | (leave1; (try dsimp only))))
      refine wpAny_For ?_
      repeat ((fail_if_success (with_reducible show wpAny _ _ (call (Value.builtin "len") _) _ _ _)); (first | (k_unfold; (try dsimp only)) | walk1 | (dsimp only; walk1) | (leave1; (try dsimp only))))
      (with_reducible rename News _ _ _ _ => kN); (with_reducible rename Fr _ _ _ _ => kF)
      have hl4 : rings.length ≤ 4 := Nat.le_trans hok.1 (by omega)
      refine len_list (News.isList kN (.head _)) (by rw [List.size_toArray]; omega) ?_
      rw [List.size_toArray, hrgl]
      repeat ((fail_if_success (with_reducible show wpAny _ _ (pyIter _) _ _ _)); (first | (k_unfold; (try dsimp only)) | walk1 | (dsimp only; walk1) | (leave1; (try dsimp only))))
      (with_reducible rename News _ _ _ _ => kN); (with_reducible rename Fr _ _ _ _ => kF)
      (with_reducible rename IsRange _ _ _ _ _ _ _ _ => kR)
      have hsm : Builtin.Range.small 0 ((rings.length : Nat) : Int) 1 = true ∧ (Builtin.Range.rangeSize 0 ((rings.length : Nat) : Int) 1).toNat = rings.length := by
        have : rings.length = 0 ∨ rings.length = 1 ∨ rings.length = 2 ∨ rings.length = 3 ∨ rings.length = 4 := by omega
        rcases this with e | e | e | e | e <;> rw [e] <;> decide
      refine for_range_K (fun j m' news' => ∃ v4 v5, m' = seM ca (some (.ref ra)) (some (.int c tc)) (some (.ref mo)) (some (.ref rg)) v4 v5 ∧ SeatSt [(it2, oi2), (it1, oi1)] keep mo (seatStep c (rows.take i) ++ [rings ++ [[c]]] ++ (List.range j).flatMap (seatOne c rings)) news') rfl kR hsm.1 kF (news := news₅) (News.sub kN ?_) ?_ ?_ ?_ rfl rfl
      · intro q hq; simp only [List.mem_cons] at hq ⊢; grind
      · exact ⟨_, _, rfl, by simpa using S5⟩
      · rintro j tv m₃ news₃' h6 tk6 it3 oi3 E3 hj ⟨v4, v5, rfl, hS6⟩ hn₆ F₆ N₆ hlt6
        rw [hsm.2] at hj
        clear kF kN kR
        simp only [seM_k] at F₆
        rw [show (0 : Int) + (j : Int) * 1 = (j : Int) by omega] at F₆
        obtain ⟨news₇, N₇, S₇⟩ := hS6.push N₆ hn₆
        obtain ⟨vr, hvr⟩ : ∃ vr, refs[j]? = some vr := ⟨_, List.getElem?_eq_getElem (by omega)⟩
        obtain ⟨rk, vs, nrk, ps, rfl, hrk, hip, hps⟩ := hRg.get hvr
        have N₈ := News.sub N₇ (l' := (rg, listOf refs.toArray nrg) :: (rk, listOf vs.toArray nrk) :: news₇) (by
          intro q hq
          rcases List.mem_cons.mp hq with rfl | hq
          · exact S₇.keep _ hrg
          · rcases List.mem_cons.mp hq with rfl | hq
            · exact S₇.keep _ hrk
            · exact hq)
        clear N₇
        repeat ((fail_if_success (with_reducible show wpAny _ _ (exec (Stmt.For _ _ _ _ _) _) _ _ _)); (first | (k_unfold; (try dsimp only)) | walk1 | (dsimp only; walk1) | (leave1; (try dsimp only))))
        refine wpAny_For ?_
        repeat ((fail_if_success (with_reducible show wpAny _ _ (subscriptTail _ _ _ _) _ _ _)); (first | (k_unfold; (try dsimp only)) | walk1 | (dsimp only; walk1) | (leave1; (try dsimp only))))
        (with_reducible rename News _ _ _ _ => kN); (with_reducible rename Fr _ _ _ _ => kF)
        have hLr := News.isList kN (.head _)
        refine tail_any hLr.typeIs slot_list_getitem.lookup (wpAny_getItem_list hLr (by omega) (by omega) (x := Value.ref rk) (by rw [Int.toNat_natCast]; simpa using hvr) ?_) (by with_unfolding_all rfl)
        repeat ((fail_if_success (with_reducible show wpAny _ _ (pyIter _) _ _ _)); (first | (k_unfold; (try dsimp only)) | walk1 | (dsimp only; walk1) | (leave1; (try dsimp only))))
        refine for_list_K (vs := vs) (fun i' m' news' => ∃ v5, m' = seM ca (some (.ref ra)) (some (.int c tc)) (some (.ref mo)) (some (.ref rg)) (some (.int j tv)) v5 ∧ SeatSt [(it3, oi3), (it2, oi2), (it1, oi1)] keep mo (seatStep c (rows.take i) ++ [rings ++ [[c]]] ++ (List.range j).flatMap (seatOne c rings) ++ List.replicate i' (rings.take j ++ [ps ++ [c]] ++ rings.drop (j + 1))) news') rfl ?_ kF (news := news₇) (News.sub kN ?_) ?_ ?_ ?_ rfl rfl
        · rintro i' m' news' ⟨v5, rfl, S⟩
          exact ⟨nrk, S.keep _ hrk⟩
        · intro q hq; simp only [List.mem_cons] at hq ⊢; grind
        · exact ⟨_, rfl, by simpa using S₇⟩
        · rintro i' v' m₄ news₄ h8 tk8 it4 oi4 E4 hv' ⟨v5, rfl, hS8⟩ hn₈ F₈ N₈ hlt8
          clear kF kN
          simp only [seM_neighbour] at F₈
          obtain ⟨news₉, N₉, S₉⟩ := hS8.push N₈ hn₈
          obtain ⟨mvs9, nm9, hmo9, _⟩ := S₉.mem
          have hrl : refs.length ≤ 4 := by rw [hrgl]; exact hl4
          have hpl : ps.length ≤ 4 := Nat.le_trans (hok.2 ps (List.mem_of_getElem? hps)) (by omega)
          have N10 := News.sub N₉ (l' := (rg, listOf refs.toArray nrg) :: (rk, listOf vs.toArray nrk) :: (mo, listOf mvs9.toArray nm9) :: news₉) (by
            intro q hq
            rcases List.mem_cons.mp hq with rfl | hq
            · exact S₉.keep _ hrg
            · rcases List.mem_cons.mp hq with rfl | hq
              · exact S₉.keep _ hrk
              · rcases List.mem_cons.mp hq with rfl | hq
                · exact hmo9
                · exact hq)
          clear N₉ N₈
          repeat ((fail_if_success (with_reducible show wpAny _ _ (subscriptTail _ _ _ _) _ _ _)); (first | (k_unfold; (try dsimp only)) | walk1 | (dsimp only; walk1) | (leave1; (try dsimp only))))
          (with_reducible rename News _ _ _ _ => kN); (with_reducible rename Fr _ _ _ _ => kF)
          k_dflt (refine' kmk_slice_lit (zs := refs.take j) kF kN (News.isList kN (.head _)) IsPart.none (IsPart.int _ _) (pick_take _ _) ?_ (by with_unfolding_all rfl) (by intro _; with_unfolding_all rfl) (by rw [List.size_toArray, sizeLine_eq]; omega))
          intro Da ha Fa Na la
          clear kF kN
          repeat ((fail_if_success (with_reducible show wpAny _ _ (subscriptTail _ _ _ _) _ _ _)); (first | (k_unfold; (try dsimp only)) | walk1 | (dsimp only; walk1) | (leave1; (try dsimp only))))
          (with_reducible rename News _ _ _ _ => kN); (with_reducible rename Fr _ _ _ _ => kF)
          have hLr := News.isList kN (.tail _ (.head _))
          refine tail_any hLr.typeIs slot_list_getitem.lookup (wpAny_getItem_list hLr (by omega) (by omega) (x := Value.ref rk) (by rw [Int.toNat_natCast]; simpa using hvr) ?_) (by with_unfolding_all rfl)
          repeat ((fail_if_success (with_reducible show wpAny _ _ (binaryOp Operator.Add (Value.ref _) (Value.ref _)) _ _ _)); (first | (k_unfold; (try dsimp only)) | walk1 | (dsimp only; walk1) | (leave1; (try dsimp only))))
          (with_reducible rename News _ _ _ _ => kN); (with_reducible rename Fr _ _ _ _ => kF)
          k_dflt (refine' kmk_add_ints (ns := ps) (ms := [c]) (vs := vs) (ws := [Value.int c tc]) kF kN (News.isList kN (.tail _ (.tail _ (.tail _ (.head _))))) (News.isList kN (.head _)) hip (IntsAre.cons _ _ .nil) ?_ (by rw [sizeLine_eq]; simp; omega))
          intro Db us hb' Fb Nb lb hIb
          clear kF kN
          repeat ((fail_if_success (with_reducible show wpAny _ _ (binaryOp Operator.Add (Value.ref _) (Value.ref _)) _ _ _)); (first | (k_unfold; (try dsimp only)) | walk1 | (dsimp only; walk1) | (leave1; (try dsimp only))))
          (with_reducible rename News _ _ _ _ => kN); (with_reducible rename Fr _ _ _ _ => kF)
          rename_i Dl _ lDl
          k_dflt (refine' kmk_add_lit (zs := refs.take j ++ [.ref Db]) kF kN (News.isList kN (.tail _ (.tail _ (.tail _ (.head _))))) (News.isList kN (.head _)) (by simp) ?_ (by simp only [sizeLine_eq, List.length_cons, List.length_nil, List.length_take]; omega))
          intro Dd hd' Fd Nd ld
          clear kF kN
          repeat ((fail_if_success (with_reducible show wpAny _ _ (subscriptTail _ _ _ _) _ _ _)); (first | (k_unfold; (try dsimp only)) | walk1 | (dsimp only; walk1) | (leave1; (try dsimp only))))
          (with_reducible rename News _ _ _ _ => kN); (with_reducible rename Fr _ _ _ _ => kF)
          k_dflt (refine' kmk_slice_lit (zs := refs.drop (j + 1)) kF kN (News.isList kN (.tail _ (.tail _ (.tail _ (.tail _ (.tail _ (.head _))))))) (IsPart.int _ _) IsPart.none (pick_drop _ (j + 1)) ?_ (by with_unfolding_all rfl) (by intro _; with_unfolding_all rfl) (by rw [List.size_toArray, sizeLine_eq]; omega))
          intro De he' Fe Ne le
          clear kF kN
          repeat ((fail_if_success (with_reducible show wpAny _ _ (binaryOp Operator.Add (Value.ref _) (Value.ref _)) _ _ _)); (first | (k_unfold; (try dsimp only)) | walk1 | (dsimp only; walk1) | (leave1; (try dsimp only))))
          (with_reducible rename News _ _ _ _ => kN); (with_reducible rename Fr _ _ _ _ => kF)
          k_dflt (refine' kmk_add_lit (zs := refs.take j ++ [.ref Db] ++ refs.drop (j + 1)) kF kN (News.isList kN (.tail _ (.head _))) (News.isList kN (.head _)) (by simp) ?_ (by simp only [sizeLine_eq, List.length_append, List.length_cons, List.length_nil, List.length_take, List.length_drop]; omega))
          intro Df hf' Ff Nf lf
          clear kF kN
          repeat ((fail_if_success (with_reducible show wpAny _ _ (call (Value.builtin "list.append") _) _ _ _)); (first | (k_unfold; (try dsimp only)) | walk1 | (dsimp only; walk1) | (leave1; (try dsimp only))))
          (with_reducible rename News _ _ _ _ => kN); (with_reducible rename Fr _ _ _ _ => kF)
          refine seat_append (refs := refs.take j ++ [.ref Db] ++ refs.drop (j + 1)) (n' := 0) (new := [(Df, listOf (refs.take j ++ [Value.ref Db] ++ refs.drop (j + 1)).toArray 0), (Db, listOf us.toArray 0)]) kF (News.sub kN ?_) S₉ ?_ (.head _) (pss := rings.take j ++ [ps ++ [c]] ++ rings.drop (j + 1)) ?_ ?_ ?_
          · intro q hq; simp only [List.mem_cons, List.mem_append] at hq ⊢; grind
          · intro g hg q hq
            rcases List.mem_cons.mp hg with rfl | hg
            · exact Nat.ne_of_lt (lf q (by simp only [List.mem_cons]; grind))
            · rw [List.mem_singleton.mp hg]
              exact Nat.ne_of_lt (lb q (by simp only [List.mem_cons]; grind))
          · refine RowsIn.append ((hRg.drop (j + 1)).mono ?_) (RowsIn.snoc (vs := us) (n := 0) ?_ hIb ((hRg.take j).mono ?_))
            · intro q hq; simp only [List.mem_append]; grind
            · simp
            · intro q hq; simp only [List.mem_append]; grind
          · have h9 := seatPre_len hok c j
            have h8' : j * k ≤ 4 * 4 := Nat.mul_le_mul (by omega) (by omega)
            have h7 := (List.getElem?_eq_some_iff.mp hv').1
            have h6' := ints_len hip
            simp only [List.length_append, List.length_replicate, List.length_cons, List.length_nil]; omega
          intro h10 news₁₀ F10 N11 S10
          clear kF kN
          repeat ((fail_if_success (with_reducible show wpAny _ _ (execs [] _) _ _ _)); (first | (k_unfold; (try dsimp only)) | walk1 | (dsimp only; walk1) | (leave1; (try dsimp only))))
          (with_reducible rename News _ _ _ _ => kN); (with_reducible rename Fr _ _ _ _ => kF)
          obtain ⟨news₁₁, N12, hn₁₁, S11⟩ := S10.pop kN (fun q hq => hn₈ q (hS8.all q hq))
          refine wpAny_execs_nil (TurnEnd.nextI kF N12 hn₁₁ ⟨_, rfl, ?_⟩)
          rw [List.replicate_succ', ← List.append_assoc]
          exact S11
        · rintro m₄ news₄ h8 tk8 ⟨v5, rfl, S₈⟩ F₈ N₈
          clear kF kN
          dsimp only
          have hgd : rings.getD j [] = ps := by rw [List.getD_eq_getElem?_getD, hps]; rfl
          have e1 : List.replicate vs.length (rings.take j ++ [ps ++ [c]] ++ rings.drop (j + 1)) = seatOne c rings j := by
            unfold seatOne
            rw [hgd, ints_len hip]
          rw [e1, List.append_assoc _ _ (seatOne c rings j), ← List.flatMap_singleton (seatOne c rings) j, ← List.flatMap_append, ← List.range_succ] at S₈
          repeat ((fail_if_success (with_reducible show wpAny _ _ (execs [] _) _ _ _)); (first | (k_unfold; (try dsimp only)) | walk1 | (dsimp only; walk1) | (leave1; (try dsimp only))))
          (with_reducible rename News _ _ _ _ => kN); (with_reducible rename Fr _ _ _ _ => kF)
          obtain ⟨news₇', N₇, hn₇, S₇'⟩ := S₈.pop kN (fun q hq => hn₆ q (hS6.all q hq))
          exact wpAny_execs_nil (TurnEnd.nextI kF N₇ hn₇ ⟨_, _, rfl, S₇'⟩)
      · rintro m₃ news₃' h6 tk6 ⟨v4, v5, rfl, S₆⟩ F₆ N₆
        rw [hsm.2, List.append_assoc] at S₆
        clear kF kN kR
        dsimp only
        repeat ((fail_if_success (with_reducible show wpAny _ _ (execs [] _) _ _ _)); (first | (k_unfold; (try dsimp only)) | walk1 | (dsimp only; walk1) | (leave1; (try dsimp only))))
        (with_reducible rename News _ _ _ _ => kN); (with_reducible rename Fr _ _ _ _ => kF)
        obtain ⟨news₇, N₇, hn₇, S₇⟩ := S₆.pop kN (fun q hq => hn₂ q (hS2.all q hq))
        refine wpAny_execs_nil (TurnEnd.nextI kF N₇ hn₇ ⟨_, _, _, rfl, ?_⟩)
        rw [seat_take hri]
        exact S₇
    · rintro m₂ news₂ h3 tk3 ⟨v3, v4, v5, rfl, S₂⟩ F₂ N₂
      rw [hTk.length, List.take_length] at S₂
      clear kF kN
      dsimp only
      repeat ((fail_if_success (with_reducible show wpAny _ _ (execs [] _) _ _ _)); (first | (k_unfold; (try dsimp only)) | walk1 | (dsimp only; walk1) | (leave1; (try dsimp only))))
      (with_reducible rename News _ _ _ _ => kN); (with_reducible rename Fr _ _ _ _ => kF)
      simp only [seM_rows] at kF
      obtain ⟨news₃, N₃, hn₃, S₃⟩ := S₂.pop kN (by simpa using hkeep)
      rw [← hkp] at S₃
      refine wpAny_execs_nil (TurnEnd.nextI kF N₃ hn₃ ⟨mo, _, _, _, _, _, rfl, ?_⟩)
      rw [seatAll_take hck, hrows]
      refine S₃.down fun q hq => ⟨hK q hq, fun g hg => (hG g hg).2 q hq⟩
  · rintro m₁ news₁ h2 tk2 ⟨ra, v1, v2, v3, v4, v5, rfl, hS⟩ F₁ N₁
    have hl := ints_len hi
    rw [hl, List.take_length] at hS
    clear kF kN
    dsimp only
    k_steps
    (with_reducible rename News _ _ _ _ => kN); (with_reducible rename Fr _ _ _ _ => kF)
    exact ret _ _ _ _ kF kN hS
end
section
open PySem PySem.W PySem.Spec PySem.Calls PyProof.Rows
example : True := by w_top off; trivial
example : PySem.Challenge.rw_re0010_01 = PySem.Challenge.rw_re0010_01 ∧ hd.heap_39 = hd.heap_39 := by k_fill; exact ⟨rfl, rfl⟩
def lawRaw : List Stmt × Scope := match PySem.Challenge.pw_re0010_01.main.body.getLast? with
  | some (.FunctionDef _ _ body _ _ _ sc _ _ _) => (body, sc)
  | _ => ([], default)
def lawPack : { b : List Stmt × Scope // lawRaw = b } := by
  refine ⟨?b, ?h⟩
  case h => conv => lhs; whnf
def lawBody : List Stmt := lawPack.1.1
def lawScope : Scope := lawPack.1.2
def lawEnv (L fa : Addr) (cd : Value) (ce : Addr) : Env := envX (Str.ofString "law") lawScope L fa cd [(Str.ofString "script", ce)]
def lwM (mm : Str → Option Value) (v_changes v_most v_words v_lexer v_tally v_order v_left v_due v_rings v_total : Option Value) : Str → Option Value := fun y => if y = Str.ofString "changes" then v_changes else if y = Str.ofString "most" then v_most else if y = Str.ofString "words" then v_words else if y = Str.ofString "lexer" then v_lexer else if y = Str.ofString "tally" then v_tally else if y = Str.ofString "order" then v_order else if y = Str.ofString "left" then v_left else if y = Str.ofString "due" then v_due else if y = Str.ofString "rings" then v_rings else if y = Str.ofString "total" then v_total else mm y
theorem lwM_changes {mm : Str → Option Value} {v_changes v_most v_words v_lexer v_tally v_order v_left v_due v_rings v_total v9 : Option Value} {y : Str} : (if y = Str.ofString "changes" then v9 else lwM mm v_changes v_most v_words v_lexer v_tally v_order v_left v_due v_rings v_total y) = lwM mm v9 v_most v_words v_lexer v_tally v_order v_left v_due v_rings v_total y := by
  unfold lwM; rw [ite_upd]
theorem lwM_most {mm : Str → Option Value} {v_changes v_most v_words v_lexer v_tally v_order v_left v_due v_rings v_total v9 : Option Value} {y : Str} : (if y = Str.ofString "most" then v9 else lwM mm v_changes v_most v_words v_lexer v_tally v_order v_left v_due v_rings v_total y) = lwM mm v_changes v9 v_words v_lexer v_tally v_order v_left v_due v_rings v_total y := by
  unfold lwM; rw [ite_swap (x := Str.ofString "most") (by decide), ite_upd]
theorem lwM_words {mm : Str → Option Value} {v_changes v_most v_words v_lexer v_tally v_order v_left v_due v_rings v_total v9 : Option Value} {y : Str} : (if y = Str.ofString "words" then v9 else lwM mm v_changes v_most v_words v_lexer v_tally v_order v_left v_due v_rings v_total y) = lwM mm v_changes v_most v9 v_lexer v_tally v_order v_left v_due v_rings v_total y := by
  unfold lwM; rw [ite_swap (x := Str.ofString "words") (by decide), ite_swap (x := Str.ofString "words") (by decide), ite_upd]
theorem lwM_lexer {mm : Str → Option Value} {v_changes v_most v_words v_lexer v_tally v_order v_left v_due v_rings v_total v9 : Option Value} {y : Str} : (if y = Str.ofString "lexer" then v9 else lwM mm v_changes v_most v_words v_lexer v_tally v_order v_left v_due v_rings v_total y) = lwM mm v_changes v_most v_words v9 v_tally v_order v_left v_due v_rings v_total y := by
  unfold lwM; rw [ite_swap (x := Str.ofString "lexer") (by decide), ite_swap (x := Str.ofString "lexer") (by decide), ite_swap (x := Str.ofString "lexer") (by decide), ite_upd]
theorem lwM_tally {mm : Str → Option Value} {v_changes v_most v_words v_lexer v_tally v_order v_left v_due v_rings v_total v9 : Option Value} {y : Str} : (if y = Str.ofString "tally" then v9 else lwM mm v_changes v_most v_words v_lexer v_tally v_order v_left v_due v_rings v_total y) = lwM mm v_changes v_most v_words v_lexer v9 v_order v_left v_due v_rings v_total y := by
  unfold lwM; rw [ite_swap (x := Str.ofString "tally") (by decide), ite_swap (x := Str.ofString "tally") (by decide), ite_swap (x := Str.ofString "tally") (by decide), ite_swap (x := Str.ofString "tally") (by decide), ite_upd]
theorem lwM_order {mm : Str → Option Value} {v_changes v_most v_words v_lexer v_tally v_order v_left v_due v_rings v_total v9 : Option Value} {y : Str} : (if y = Str.ofString "order" then v9 else lwM mm v_changes v_most v_words v_lexer v_tally v_order v_left v_due v_rings v_total y) = lwM mm v_changes v_most v_words v_lexer v_tally v9 v_left v_due v_rings v_total y := by
  unfold lwM; rw [ite_swap (x := Str.ofString "order") (by decide), ite_swap (x := Str.ofString "order") (by decide), ite_swap (x := Str.ofString "order") (by decide), ite_swap (x := Str.ofString "order") (by decide), ite_swap (x := Str.ofString "order") (by decide), ite_upd]
theorem lwM_left {mm : Str → Option Value} {v_changes v_most v_words v_lexer v_tally v_order v_left v_due v_rings v_total v9 : Option Value} {y : Str} : (if y = Str.ofString "left" then v9 else lwM mm v_changes v_most v_words v_lexer v_tally v_order v_left v_due v_rings v_total y) = lwM mm v_changes v_most v_words v_lexer v_tally v_order v9 v_due v_rings v_total y := by
  unfold lwM; rw [ite_swap (x := Str.ofString "left") (by decide), ite_swap (x := Str.ofString "left") (by decide), ite_swap (x := Str.ofString "left") (by decide), ite_swap (x := Str.ofString "left") (by decide), ite_swap (x := Str.ofString "left") (by decide), ite_swap (x := Str.ofString "left") (by decide), ite_upd]
theorem lwM_due {mm : Str → Option Value} {v_changes v_most v_words v_lexer v_tally v_order v_left v_due v_rings v_total v9 : Option Value} {y : Str} : (if y = Str.ofString "due" then v9 else lwM mm v_changes v_most v_words v_lexer v_tally v_order v_left v_due v_rings v_total y) = lwM mm v_changes v_most v_words v_lexer v_tally v_order v_left v9 v_rings v_total y := by
  unfold lwM; rw [ite_swap (x := Str.ofString "due") (by decide), ite_swap (x := Str.ofString "due") (by decide), ite_swap (x := Str.ofString "due") (by decide), ite_swap (x := Str.ofString "due") (by decide), ite_swap (x := Str.ofString "due") (by decide), ite_swap (x := Str.ofString "due") (by decide), ite_swap (x := Str.ofString "due") (by decide), ite_upd]
theorem lwM_rings {mm : Str → Option Value} {v_changes v_most v_words v_lexer v_tally v_order v_left v_due v_rings v_total v9 : Option Value} {y : Str} : (if y = Str.ofString "rings" then v9 else lwM mm v_changes v_most v_words v_lexer v_tally v_order v_left v_due v_rings v_total y) = lwM mm v_changes v_most v_words v_lexer v_tally v_order v_left v_due v9 v_total y := by
  unfold lwM; rw [ite_swap (x := Str.ofString "rings") (by decide), ite_swap (x := Str.ofString "rings") (by decide), ite_swap (x := Str.ofString "rings") (by decide), ite_swap (x := Str.ofString "rings") (by decide), ite_swap (x := Str.ofString "rings") (by decide), ite_swap (x := Str.ofString "rings") (by decide), ite_swap (x := Str.ofString "rings") (by decide), ite_swap (x := Str.ofString "rings") (by decide), ite_upd]
theorem lwM_total {mm : Str → Option Value} {v_changes v_most v_words v_lexer v_tally v_order v_left v_due v_rings v_total v9 : Option Value} {y : Str} : (if y = Str.ofString "total" then v9 else lwM mm v_changes v_most v_words v_lexer v_tally v_order v_left v_due v_rings v_total y) = lwM mm v_changes v_most v_words v_lexer v_tally v_order v_left v_due v_rings v9 y := by
  unfold lwM; rw [ite_swap (x := Str.ofString "total") (by decide), ite_swap (x := Str.ofString "total") (by decide), ite_swap (x := Str.ofString "total") (by decide), ite_swap (x := Str.ofString "total") (by decide), ite_swap (x := Str.ofString "total") (by decide), ite_swap (x := Str.ofString "total") (by decide), ite_swap (x := Str.ofString "total") (by decide), ite_swap (x := Str.ofString "total") (by decide), ite_swap (x := Str.ofString "total") (by decide), ite_upd]
theorem lwM_init (mm : Str → Option Value) : lwM mm (mm (Str.ofString "changes")) (mm (Str.ofString "most")) (mm (Str.ofString "words")) (mm (Str.ofString "lexer")) (mm (Str.ofString "tally")) (mm (Str.ofString "order")) (mm (Str.ofString "left")) (mm (Str.ofString "due")) (mm (Str.ofString "rings")) (mm (Str.ofString "total")) = mm := by
  funext y
  unfold lwM
  by_cases e0 : y = Str.ofString "changes"
  · rw [if_pos e0, e0]
  rw [if_neg e0]
  by_cases e1 : y = Str.ofString "most"
  · rw [if_pos e1, e1]
  rw [if_neg e1]
  by_cases e2 : y = Str.ofString "words"
  · rw [if_pos e2, e2]
  rw [if_neg e2]
  by_cases e3 : y = Str.ofString "lexer"
  · rw [if_pos e3, e3]
  rw [if_neg e3]
  by_cases e4 : y = Str.ofString "tally"
  · rw [if_pos e4, e4]
  rw [if_neg e4]
  by_cases e5 : y = Str.ofString "order"
  · rw [if_pos e5, e5]
  rw [if_neg e5]
  by_cases e6 : y = Str.ofString "left"
  · rw [if_pos e6, e6]
  rw [if_neg e6]
  by_cases e7 : y = Str.ofString "due"
  · rw [if_pos e7, e7]
  rw [if_neg e7]
  by_cases e8 : y = Str.ofString "rings"
  · rw [if_pos e8, e8]
  rw [if_neg e8]
  by_cases e9 : y = Str.ofString "total"
  · rw [if_pos e9, e9]
  rw [if_neg e9]
def DotsV (wvs : List Value) (j : Nat) : Prop := wvs.length = j ∧ ∀ (i : Nat) (v : Value), wvs[i]? = some v → ∃ t, v = Value.str (dots (i + 1)) t
theorem pos_sum : ∀ cs : List Int, (cs.map fun c => ((c.toNat : Nat) : Int)).sum = ((posSum cs : Nat) : Int)
  | [] => rfl
  | c :: r => by rw [List.map_cons, List.sum_cons, pos_sum r]; simp [posSum]
theorem pos_le : ∀ {cs : List Int}, (∀ c ∈ cs, -3 ≤ c ∧ c ≤ 3) → posSum cs ≤ 3 * cs.length
  | [], _ => by simp [posSum]
  | c :: r, h => by
    have h1 := h c (by simp)
    have h2 := pos_le (cs := r) fun x hx => h x (by simp [hx])
    simp only [posSum, List.map_cons, List.sum_cons, List.length_cons] at h2 ⊢; omega
theorem dotsV_last {wvs : List Value} {j : Nat} (h : DotsV wvs (j + 1)) : ∃ pre t, wvs = pre ++ [Value.str (dots (j + 1)) t] := by
  have hne : wvs ≠ [] := by intro e; rw [e] at h; exact absurd h.1 (by simp)
  obtain ⟨t, ht⟩ := h.2 j (wvs.getLast hne) (by rw [List.getLast_eq_getElem, List.getElem?_eq_getElem (by have := h.1; omega)]; simp [h.1])
  exact ⟨wvs.dropLast, t, by rw [← ht, List.dropLast_concat_getLast]⟩
theorem dotsV_snoc {wvs : List Value} {j : Nat} (h : DotsV wvs j) (t : Tok) : DotsV (wvs ++ [Value.str (dots (j + 1)) t]) (j + 1) := by
  refine ⟨by simp [h.1], fun i v hv => ?_⟩
  rcases Nat.lt_or_ge i wvs.length with hi | hi
  · rw [List.getElem?_append_left hi] at hv; exact h.2 i v hv
  · rw [List.getElem?_append_right hi] at hv
    have : i - wvs.length = 0 := by
      rcases Nat.eq_zero_or_pos (i - wvs.length) with h0 | h0
      · exact h0
      · rw [List.getElem?_eq_none (by simp; omega)] at hv; cases hv
    rw [this] at hv
    simp at hv
    exact ⟨t, by rw [← hv, show i = j by have := h.1; omega]⟩
local macro_rules | `(tactic| k_all) => `(tactic| first | with_reducible assumption | (refine rest_ne (by with_reducible assumption) ?_; omega))
theorem law_B {w : World} {p : Program} {loose : List Str} {mean : ExcName → Option Value} {mg mb : Str → Option Value} {dp un : Nat} {gd : Option (List Code)} {fa ce : Addr} {ccd : Value} {outer : List Env} {A₀ : Around} {base h₀ : Heap} {L : Addr} {s : Shared} {Q : Flow → Shared → Prop} {E : Value → Shared → Prop} {ca : Addr} {cvs : List Value} {cs' : List Int} {nc : Nat} {rest : List (Addr × Obj)} {mm : Str → Option Value} {v2 v3 v4 v5 v6 v7 v8 v9 v10 : Option Value} (B : Below A₀ base outer h₀) (F : Fr h₀ L s.heap (lwM mm (some (.ref ca)) v2 v3 v4 v5 v6 v7 v8 v9 v10)) (X : (hd.heap_39 w.params).In h₀) (T : Top p loose mean mg mb h₀) (hdp : dp + 50 < recursionLimit) (hun : un + 300 < cLine)
    (hi : IntsAre cvs cs') (h4 : cs'.length = 4) (hc : ∀ c ∈ cs', -3 ≤ c ∧ c ≤ 3)
    (N : News h₀ L s.heap ((ca, listOf cvs.toArray nc) :: rest))
    (next : ∀ wa wvs nw tm h' tk', Fr h₀ L h' (lwM mm (some (.ref ca)) (some (.int ((posSum cs' : Nat) : Int) tm)) (some (.ref wa)) v4 v5 v6 v7 v8 v9 v10) → News h₀ L h' ((wa, listOf wvs.toArray nw) :: (ca, listOf cvs.toArray nc) :: rest) → DotsV wvs (max 1 (posSum cs')) → (∀ q ∈ (ca, listOf cvs.toArray nc) :: rest, q.1 ≠ wa) →
      wpAny (model PySem.Challenge.pw_re0010_01 w) (ktrTop dp un gd (Str.ofString "law") lawScope L fa ccd [(Str.ofString "script", ce)] outer) (execs (lawBody.drop 4) (lawEnv L fa ccd ce)) Q E { s with heap := h', toks := tk' }) :
    wpAny (model PySem.Challenge.pw_re0010_01 w) (ktrTop dp un gd (Str.ofString "law") lawScope L fa ccd [(Str.ofString "script", ce)] outer) (execs (lawBody.drop 1) (lawEnv L fa ccd ce)) Q E s := by
  dsimp only [lawBody, lawScope, lawEnv, lawPack, List.drop]
  repeat ((fail_if_success (with_reducible show wpAny _ _ (eval (Expr.ListComp _ _ _ _) _) _ _ _)); (first | (k_unfold; (try dsimp only)) | walk1 | (dsimp only; walk1) | (leave1; (try dsimp only))))
  refine comp1_open (cl := []) (by with_unfolding_all rfl) rfl (by decide) (fun _ => rfl) ?_
  repeat ((fail_if_success (with_reducible show wpAny _ _ (pyIter _) _ _ _)); (first | (k_unfold; (try dsimp only)) | walk1 | (dsimp only; walk1) | (leave1; (try dsimp only))))
  (with_reducible rename News _ _ _ _ => kN); (with_reducible rename Fr _ _ _ _ => kF)
  refine comp1_list_K (vs := cvs) (fun k ys nw => nw = (ca, listOf cvs.toArray nc) :: rest ∧ IntsAre ys ((cs'.take k).map fun c => ((c.toNat : Nat) : Int)) ∧ k ≤ 4) rfl (by decide) rfl (by decide) ?_ kF kN ⟨rfl, .nil, by omega⟩ ?_ ?_ ?_
  · rintro k ys nw ⟨rfl, _⟩
    exact ⟨nc, .head _⟩
  · rintro k ys nw ⟨rfl, hy, _⟩
    rw [ints_len hy]; simp; omega
  · rintro k v ys nw nD C D I oC mC oI h2 tk2 E2 hv ⟨rfl, hy, hk4⟩ hC hm F2 N2 hA
    obtain ⟨c, tc, hck, rfl⟩ := ints_get hi hv
    clear kF kN
    repeat ((fail_if_success (with_reducible show wpAny _ _ (call (Value.builtin "max") _) _ _ _)); (first | (k_unfold; (try dsimp only)) | walk1 | (dsimp only; walk1) | (leave1; (try dsimp only))))
    (with_reducible rename News _ _ _ _ => kN); (with_reducible rename Fr _ _ _ _ => kF)
    refine max_two_N rfl kF kN fun h3 tk3 F3 N3 => ⟨h3, tk3, _, rfl, F3, N3, hA, rfl, ?_, ?_⟩
    · rw [List.take_add_one, hck, Option.toList_some, List.map_append]
      refine hy.append ?_
      rw [show (if c > 0 then c else 0) = ((c.toNat : Nat) : Int) by split <;> omega]
      exact .cons _ _ .nil
    · have := (List.getElem?_eq_some_iff.mp hck).1; omega
  · rintro ys nw nD D h2 tk2 ⟨rfl, hy, _⟩ F2 N2 hn2
    clear kF kN
    have hlen := ints_len hi
    rw [hlen, List.take_length] at hy
    repeat ((fail_if_success (with_reducible show wpAny _ _ (exec (Stmt.While _ _ _ _) _) _ _ _)); (first | (k_unfold; (try dsimp only)) | walk1 | (dsimp only; walk1) | (leave1; (try dsimp only))))
    (with_reducible rename News _ _ _ _ => kN); (with_reducible rename Fr _ _ _ _ => kF)
    simp only [lwM_most, lwM_words, pos_sum] at kF
    rename_i tm _ tw wa _ lW _
    have hmost : posSum cs' ≤ 12 := by have := pos_le hc; omega
    generalize hmo : posSum cs' = most at *
    refine wpAny_While (codeAny_whileLoop (fun n st' => ∃ h5 tk5 j wvs nl, st' = { s with heap := h5, toks := tk5 } ∧ Fr h₀ L h5 (lwM mm (some (.ref ca)) (some (.int (most : Int) tm)) (some (.ref wa)) v4 v5 v6 v7 v8 v9 v10) ∧
      News h₀ L h5 ((wa, listOf wvs.toArray nl) :: (ca, listOf cvs.toArray nc) :: rest) ∧ DotsV wvs (j + 1) ∧ j + 1 ≤ max 1 most ∧ n = most - (j + 1)) ?_ (most - 1) ?_)
    rotate_left
    · refine ⟨_, _, 0, [Value.str (Str.ofString ".") tw], 0, rfl, kF, News.sub kN (l' := (wa, listOf (List.toArray [Value.str (Str.ofString ".") tw]) 0) :: (ca, listOf cvs.toArray nc) :: rest) ?_, ⟨rfl, ?_⟩, by omega, rfl⟩
      · intro q hq; simp only [List.mem_cons] at hq ⊢; grind
      · intro i v hv
        cases i with
        | zero => simp at hv; exact ⟨_, hv.symm⟩
        | succ i => simp at hv
    clear kF kN
    rintro n st' ⟨h5, tk5, j, wvs, nl, rfl, F5, N5, hW, hj, rfl⟩
    obtain ⟨pre, tl, rfl⟩ := dotsV_last hW
    have hpl : pre.length = j := by have := hW.1; simp at this; omega
    have F9 := F5
    have N9 := N5
    clear F5 N5
    repeat ((fail_if_success (with_reducible show wpAny _ _ (call (Value.builtin "len") _) _ _ _)); (first | (k_unfold; (try dsimp only)) | walk1 | (dsimp only; walk1) | (leave1; (try dsimp only))))
    refine len_list (News.isList N9 (.head _)) (by simp; omega) ?_
    have hrest : ∀ q ∈ (ca, listOf cvs.toArray nc) :: rest, q.1 ≠ wa := by
      intro q hq
      rcases List.mem_cons.mp hq with rfl | hq
      · exact Nat.ne_of_lt lW.2.1
      · exact Nat.ne_of_lt (allLt_mem lW.2.2 q hq)
    repeat ((fail_if_success (with_reducible show wpAny _ _ (execs _ _) _ _ _)); (first | (k_unfold; (try dsimp only)) | walk1 | (dsimp only; walk1) | (leave1; (try dsimp only))))
    · rename_i hif
      have hjm : j + 1 < most := by simp at hif; omega
      repeat ((fail_if_success (with_reducible show wpAny _ _ (subscriptTail _ _ _ _) _ _ _)); (first | (k_unfold; (try dsimp only)) | walk1 | (dsimp only; walk1) | (leave1; (try dsimp only))))
      refine item_last (News.isList N9 (.head _)) ?_
      repeat ((fail_if_success (with_reducible show wpAny _ _ (call (Value.ref 97) _) _ _ _)); (first | (k_unfold; (try dsimp only)) | walk1 | (dsimp only; walk1) | (leave1; (try dsimp only))))
      refine wpAny_call (quote_spec (by k_asm) F9 (by k_asm) (by k_asm) rfl (by omega) (by omega) (by omega) (by omega) N9 ?_)
      intro t6 h6 tk6 F6 N6
      clear F9 N9
      repeat ((fail_if_success (with_reducible show wpAny _ _ (call (Value.builtin "list.append") _) _ _ _)); (first | (k_unfold; (try dsimp only)) | walk1 | (dsimp only; walk1) | (leave1; (try dsimp only))))
      (with_reducible rename News _ _ _ _ => kN); (with_reducible rename Fr _ _ _ _ => kF)
      refine append_K kF kN (Upd.head hrest) ?_ (by simp only [List.size_toArray, sizeLine_eq]; simp; omega)
      intro h7 F7 N7
      clear kF kN
      rw [List.push_toArray] at N7
      repeat ((fail_if_success (with_reducible show wpAny _ _ (execs [] _) _ _ _)); (first | (k_unfold; (try dsimp only)) | walk1 | (dsimp only; walk1) | (leave1; (try dsimp only))))
      (with_reducible rename News _ _ _ _ => kN); (with_reducible rename Fr _ _ _ _ => kF)
      refine wpAny_execs_nil ⟨most - (j + 2), by omega, _, _, j + 1, _, nl + 1, rfl, kF, kN, dotsV_snoc hW t6, by omega, rfl⟩
    · rename_i hif
      have hjm : j + 1 = max 1 most := by simp at hif; omega
      repeat ((fail_if_success (with_reducible show wpAny _ _ (execs [] _) _ _ _)); (first | (k_unfold; (try dsimp only)) | walk1 | (dsimp only; walk1) | (leave1; (try dsimp only))))
      refine wpAny_execs_nil ?_
      dsimp only
      exact next wa _ nl tm _ _ F9 N9 (by rw [← hjm]; exact hW) hrest
end
section
open PySem PySem.W PySem.Spec PySem.Calls PyProof.Rows
example : True := by w_top off; trivial
example : PySem.Challenge.rw_re0010_01 = PySem.Challenge.rw_re0010_01 ∧ hd.heap_39 = hd.heap_39 := by k_fill; exact ⟨rfl, rfl⟩
def totOf (rings : List (List Int)) : Nat := (rings.map fun r => r.sum.toNat).sum
theorem dots_len (n : Nat) : (dots n).length = n := Array.size_replicate
theorem dots_snoc (n : Nat) : dots n ++ Str.ofString "." = dots (n + 1) := by
  have h1 : Str.ofString "." = dots 1 := by decide +kernel
  rw [h1]
  show (⟨Array.replicate n 46 ++ Array.replicate 1 46⟩ : Str) = ⟨Array.replicate (n + 1) 46⟩
  rw [Array.replicate_append_replicate]
theorem tal_size {kvs : List (Int × Value)} {l : List Nat} (h : TalKV kvs l) : kvs.length ≤ l.length := by
  have := nodup_sub_len (a := kvs.map (·.1)) (b := l.map fun (j : Nat) => (j : Int)) h.1 fun x hx => by
    obtain ⟨kv, hkv, rfl⟩ := List.mem_map.mp hx
    obtain ⟨j, hj, hc, _⟩ := h.2.1 kv hkv
    rw [hj]
    exact List.mem_map.mpr ⟨j, List.count_pos_iff.mp hc, rfl⟩
  simpa using this
theorem tot_sum : ∀ rings : List (List Int), (rings.map fun r => ((r.sum.toNat : Nat) : Int)).sum = ((totOf rings : Nat) : Int)
  | [] => rfl
  | c :: r => by rw [List.map_cons, List.sum_cons, tot_sum r]; simp [totOf]
theorem TabIn.monoL {G G' : List (Addr × Obj)} (h : ∀ a (vs : List Value) n, (a, listOf vs.toArray n) ∈ G → (a, listOf vs.toArray n) ∈ G') : ∀ {vs : List Value} {tabs : List (List (List Int))}, TabIn G vs tabs → TabIn G' vs tabs := by
  have hr : ∀ {refs : List Value} {pss : List (List Int)}, RowsIn G refs pss → RowsIn G' refs pss := by
    intro refs pss hr
    induction hr with
    | nil => exact .nil
    | cons hm hi _ ih => exact .cons (h _ _ _ hm) hi ih
  intro vs tabs ht
  induction ht with
  | nil => exact .nil
  | cons hm hi _ ih => exact .cons (h _ _ _ hm) (hr hi) ih
theorem dict_not_list {w : World} {K : Type} [DecidableEq K] {knd : KeyKind PySem.Challenge.pw_re0010_01 w K} {o : Obj} {kvs : List (K × Value)} (h : o.IsDictOf knd kvs) {vs : List Value} {n : Nat} : o ≠ listOf vs.toArray n := by
  rintro rfl
  obtain ⟨es, ep, _, hd, _⟩ := h
  exact absurd hd (by simp [W.listOf])
local macro_rules | `(tactic| k_all) => `(tactic| first | with_reducible assumption | (refine rest_ne (by with_reducible assumption) ?_; omega))
theorem law_D {w : World} {p : Program} {loose : List Str} {mean : ExcName → Option Value} {mg mb : Str → Option Value} {dp un : Nat} {gd : Option (List Code)} {fa ce : Addr} {ccd : Value} {outer : List Env} {A₀ : Around} {base h₀ : Heap} {L : Addr} {s : Shared} {Q : Flow → Shared → Prop} {E : Value → Shared → Prop} {ca ta : Addr} {cvs : List Value} {cs' : List Int} {nc : Nat} {ot : Obj} {kt : List (Int × Value)} {ql : List Nat} {rest : List (Addr × Obj)} {mm : Str → Option Value} {v2 v3 v4 v5 v6 v7 v8 v9 v10 : Option Value} (B : Below A₀ base outer h₀) (F : Fr h₀ L s.heap (lwM mm (some (.ref ca)) v2 v3 v4 (some (.ref ta)) v6 v7 v8 v9 v10)) (X : (hd.heap_39 w.params).In h₀) (T : Top p loose mean mg mb h₀) (hdp : dp + 50 < recursionLimit) (hun : un + 300 < cLine)
    (hi : IntsAre cvs cs') (h4 : cs'.length = 4) (hc : ∀ c ∈ cs', -3 ≤ c ∧ c ≤ 3)
    (N : News h₀ L s.heap ((ca, listOf cvs.toArray nc) :: (ta, ot) :: rest))
    (lt : (ta == sysModules) = false) (hd : ot.IsDictOf (intKind PySem.Challenge.pw_re0010_01 w) kt) (hT : TalKV kt ql) (hq : ∀ j, ql.count j = ((seatAll cs').map totOf).count j)
    (fin : ∀ h' tk' m', Fr h₀ L h' m' → News h₀ L h' rest → Q (.ret (.bool true)) { s with heap := h', toks := tk' }) :
    wpAny (model PySem.Challenge.pw_re0010_01 w) (ktrTop dp un gd (Str.ofString "law") lawScope L fa ccd [(Str.ofString "script", ce)] outer) (execs (lawBody.drop 7) (lawEnv L fa ccd ce)) Q E s := by
  dsimp only [lawBody, lawScope, lawEnv, lawPack, List.drop]
  repeat ((fail_if_success (with_reducible show wpAny _ _ (exec (Stmt.For _ _ _ _ _) _) _ _ _)); (first | (k_unfold; (try dsimp only)) | walk1 | (dsimp only; walk1) | (leave1; (try dsimp only))))
  refine wpAny_For ?_
  repeat ((fail_if_success (with_reducible show wpAny _ _ (call (Value.ref 130) _) _ _ _)); (first | (k_unfold; (try dsimp only)) | walk1 | (dsimp only; walk1) | (leave1; (try dsimp only))))
  (with_reducible rename News _ _ _ _ => kN); (with_reducible rename Fr _ _ _ _ => kF)
  simp only [lwM_due] at kF
  rename_i du _ od lu _ _ du0 _ lD _
  have hkeep : ∀ q ∈ (ca, listOf cvs.toArray nc) :: (ta, ot) :: rest, q.1 ≠ du := by
    intro q hq
    rcases List.mem_cons.mp hq with rfl | hq
    · exact Nat.ne_of_lt lD.1
    rcases List.mem_cons.mp hq with rfl | hq
    · exact Nat.ne_of_lt lD.2.1
    · exact Nat.ne_of_lt (allLt_mem lD.2.2 q hq)
  refine wpAny_call (seated_spec (cs' := cs') (ca := ca) (ovs := cvs) (nc := nc) (rest := (du, od) :: (ta, ot) :: rest) (by k_asm) kF (by k_asm) (by k_asm) rfl (by omega) (by omega) hi (by omega) (News.sub kN ?_) ?_)
  · intro q hq; simp only [List.mem_cons] at hq ⊢; grind
  rintro ra news₂ h2 tk2 F2 N2 ⟨rvs, nr, G, rfl, hR, hG, hK⟩
  clear kF kN
  have hRG : TabIn (G ++ (ca, listOf cvs.toArray nc) :: (ta, ot) :: rest) rvs (seatAll cs') := hR.monoL fun a vs n hm => by
    have : (a, listOf vs.toArray n) ≠ (du, od) := fun e => dict_not_list du0 (Prod.mk.inj e).2.symm
    simp only [List.mem_append, List.mem_cons] at hm ⊢; grind
  have hlow : ∀ q ∈ (ra, listOf rvs.toArray nr) :: (G ++ (ca, listOf cvs.toArray nc) :: (ta, ot) :: rest), q.1 ≠ du := by
    intro q hq
    rcases List.mem_cons.mp hq with rfl | hq
    · exact Ne.symm (hK (du, od) (by simp))
    rcases List.mem_append.mp hq with hq | hq
    · exact Ne.symm ((hG q hq).2 (du, od) (by simp))
    · exact hkeep q hq
  have hok := (seatAll_ok cs' 4 (by omega)).1
  rw [show cs'.take 4 = cs' by rw [← h4, List.take_length]] at hok
  have hra : (ra, listOf rvs.toArray nr) ∈ (ra, listOf rvs.toArray nr) :: (G ++ (ca, listOf cvs.toArray nc) :: (ta, ot) :: rest) := .head _
  have hta : (ta, ot) ∈ (ra, listOf rvs.toArray nr) :: (G ++ (ca, listOf cvs.toArray nc) :: (ta, ot) :: rest) := by simp
  have hrK : ∀ q ∈ rest, q ∈ (ra, listOf rvs.toArray nr) :: (G ++ (ca, listOf cvs.toArray nc) :: (ta, ot) :: rest) := fun q hq => by simp only [List.mem_cons, List.mem_append]; grind
  have hRK : TabIn ((ra, listOf rvs.toArray nr) :: (G ++ (ca, listOf cvs.toArray nc) :: (ta, ot) :: rest)) rvs (seatAll cs') := hRG.mono fun q hq => .tail _ hq
  have N3 := News.sub N2 (l' := (du, od) :: (ra, listOf rvs.toArray nr) :: (G ++ (ca, listOf cvs.toArray nc) :: (ta, ot) :: rest)) (by intro q hq; simp only [List.mem_cons, List.mem_append, List.nil_append] at hq ⊢; grind)
  clear N2
  generalize (ra, listOf rvs.toArray nr) :: (G ++ (ca, listOf cvs.toArray nc) :: (ta, ot) :: rest) = K at *
  repeat ((fail_if_success (with_reducible show wpAny _ _ (pyIter _) _ _ _)); (first | (k_unfold; (try dsimp only)) | walk1 | (dsimp only; walk1) | (leave1; (try dsimp only))))
  refine for_list_K (vs := rvs) (fun i m' news' => ∃ vr vt od kvs, m' = lwM mm (some (.ref ca)) v2 v3 v4 (some (.ref ta)) v6 v7 (some (.ref du)) vr vt ∧ news' = (du, od) :: K ∧ od.IsDictOf (intKind PySem.Challenge.pw_re0010_01 w) kvs ∧ TalKV kvs (((seatAll cs').take i).map totOf)) rfl ?_ F2 N3 ?_ ?_ ?_ rfl rfl
  · rintro i m' news' ⟨vr, vt, od, kvs, rfl, rfl, _⟩
    exact ⟨nr, .tail _ hra⟩
  · exact ⟨_, _, _, _, rfl, rfl, du0, tal_nil⟩
  · rintro i v m₁ news₁ h3 tk3 it oi E3 hv ⟨vr, vt, od, kvs, rfl, rfl, hdu, hTi⟩ hn₁ F₁ N₁ hlt
    clear F2 N3
    obtain ⟨rg, refs, nrg, rings, rfl, hrg, hRr, hri⟩ := hRK.get hv
    simp only [lwM_rings] at F₁
    have hringok := hok rings (List.mem_of_getElem? hri)
    have N4 := News.sub N₁ (l' := (rg, listOf refs.toArray nrg) :: (it, oi) :: (du, od) :: K) (by
      intro q hq
      rcases List.mem_cons.mp hq with rfl | hq
      · exact .tail _ (.tail _ hrg)
      · exact hq)
    clear N₁
    repeat ((fail_if_success (with_reducible show wpAny _ _ (eval (Expr.ListComp _ _ _ _) _) _ _ _)); (first | (k_unfold; (try dsimp only)) | walk1 | (dsimp only; walk1) | (leave1; (try dsimp only))))
    refine comp1_open (cl := []) (by with_unfolding_all rfl) rfl (by decide) (fun _ => rfl) ?_
    repeat ((fail_if_success (with_reducible show wpAny _ _ (pyIter _) _ _ _)); (first | (k_unfold; (try dsimp only)) | walk1 | (dsimp only; walk1) | (leave1; (try dsimp only))))
    (with_reducible rename News _ _ _ _ => kN); (with_reducible rename Fr _ _ _ _ => kF)
    refine comp1_list_K (vs := refs) (fun k ys nw => nw = (rg, listOf refs.toArray nrg) :: (it, oi) :: (du, od) :: K ∧ IntsAre ys ((rings.take k).map fun r => ((r.sum.toNat : Nat) : Int)) ∧ k ≤ 4) rfl (by decide) rfl (by decide) ?_ kF kN ⟨rfl, .nil, by omega⟩ ?_ ?_ ?_
    · rintro k ys nw ⟨rfl, _⟩
      exact ⟨nrg, .head _⟩
    · rintro k ys nw ⟨rfl, hy, _⟩
      rw [ints_len hy]; have := hringok.1; simp; omega
    · rintro k v' ys nw nD C D I oC mC oI h5 tk5 E5 hv' ⟨rfl, hy, hk4⟩ hC hm F5 N5 hA
      clear kF kN
      obtain ⟨rk, vs, nrk, ps, rfl, hrk, hip, hps⟩ := hRr.get hv'
      have N6 := News.sub N5 (l' := (rk, listOf vs.toArray nrk) :: (C, oC) :: (D, listOf ys.toArray nD) :: (I, oI) :: (rg, listOf refs.toArray nrg) :: (it, oi) :: (du, od) :: K) (by
        intro q hq
        rcases List.mem_cons.mp hq with rfl | hq
        · simp only [List.mem_cons]; simp [hrk]
        · exact hq)
      clear N5
      repeat ((fail_if_success (with_reducible show wpAny _ _ (call (Value.builtin "max") _) _ _ _)); (first | (k_unfold; (try dsimp only)) | walk1 | (dsimp only; walk1) | (leave1; (try dsimp only))))
      (with_reducible rename News _ _ _ _ => kN); (with_reducible rename Fr _ _ _ _ => kF)
      refine max_two_N rfl kF kN fun h7 tk7 F7 N7 => ⟨h7, tk7, _, rfl, F7, fun q hq => N7 q (.tail _ hq), hA, rfl, ?_, ?_⟩
      · rw [List.take_add_one, hps, Option.toList_some, List.map_append]
        refine hy.append ?_
        rw [show (if ps.sum > 0 then ps.sum else 0) = ((ps.sum.toNat : Nat) : Int) by split <;> omega]
        exact .cons _ _ .nil
      · have := (List.getElem?_eq_some_iff.mp hps).1; have := hringok.1; omega
    · rintro ys nw nD D h5 tk5 ⟨rfl, hy, _⟩ F5 N5 hn5
      clear kF kN
      rw [hRr.length, List.take_length] at hy
      repeat ((fail_if_success (with_reducible show wpAny _ _ (getMethod (Value.ref _) _ _) _ _ _)); (first | (k_unfold; (try dsimp only)) | walk1 | (dsimp only; walk1) | (leave1; (try dsimp only))))
      (with_reducible rename News _ _ _ _ => kN); (with_reducible rename Fr _ _ _ _ => kF)
      simp only [tot_sum, lwM_total] at kF ⊢
      generalize hj : totOf rings = j at *
      refine kdg_method (knd := intKind _ _) kN (by simp) hdu ?_
      repeat ((fail_if_success (with_reducible show wpAny _ _ (call (Value.builtin "dict.get") _) _ _ _)); (first | (k_unfold; (try dsimp only)) | walk1 | (dsimp only; walk1) | (leave1; (try dsimp only))))
      refine kdg_get2 (knd := intKind _ _) (k := (j : Int)) kN (by simp) hdu lu (intKind_is _ _ _ _) _ rfl ?_
      obtain ⟨tg, eg⟩ := tal_get hTi j _
      rw [eg]
      repeat ((fail_if_success (with_reducible show wpAny _ _ (binaryOp _ _ _) _ _ _)); (first | (k_unfold; (try dsimp only)) | walk1 | (dsimp only; walk1) | (leave1; (try dsimp only))))
      have hcl : ((((seatAll cs').take i).map totOf).count j) ≤ 1000000 := by
        have h1 := List.count_le_length (a := j) (l := ((seatAll cs').take i).map totOf)
        have h2 := (seatAll_ok cs' 4 (by omega)).2 (by omega)
        rw [show cs'.take 4 = cs' by rw [← h4, List.take_length]] at h2
        rw [List.length_map, List.length_take] at h1
        omega
      have h1d : (Str.ofString ".").length = 1 := by decide +kernel
      have hkl : kvs.length ≤ 1000000 := by
        have h0 := tal_size hTi
        have h2 := (seatAll_ok cs' 4 (by omega)).2 (by omega)
        rw [show cs'.take 4 = cs' by rw [← h4, List.take_length]] at h2
        rw [List.length_map, List.length_take] at h0
        omega
      refine PyProof.Rows.add_str (fun t9 tk9 => ?_) (by rw [dots_len, h1d, sizeLine_eq]; omega)
      rw [dots_snoc]
      repeat ((fail_if_success (with_reducible show wpAny _ _ (setItem _ _ _) _ _ _)); (first | (k_unfold; (try dsimp only)) | walk1 | (dsimp only; walk1) | (leave1; (try dsimp only))))
      refine kda_set (knd := intKind _ _) (k := (j : Int)) kF (News.sub kN (l' := (du, od) :: (it, oi) :: K) ?_) (.head ?_) hdu (intKind_is _ _ _ _) ?_ fun h8 o8 F8 N8 hd8 => ?_
      · intro q hq; simp only [List.mem_cons] at hq ⊢; grind
      · intro q hq
        rcases List.mem_cons.mp hq with rfl | hq
        · exact Ne.symm (hn₁ (du, od) (.head _))
        · exact hlow q hq
      · rw [sizeLine_eq]; omega
      clear kF kN
      repeat ((fail_if_success (with_reducible show wpAny _ _ (execs [] _) _ _ _)); (first | (k_unfold; (try dsimp only)) | walk1 | (dsimp only; walk1) | (leave1; (try dsimp only))))
      (with_reducible rename News _ _ _ _ => kN); (with_reducible rename Fr _ _ _ _ => kF)
      refine wpAny_execs_nil (TurnEnd.nextI kF (news₂ := (du, o8) :: K) (News.sub kN ?_) ?_ ⟨_, _, o8, _, rfl, rfl, hd8, ?_⟩)
      · intro q hq; simp only [List.mem_cons] at hq ⊢; grind
      · exact ne_map hn₁ rfl
      · rw [List.take_add_one, hri, Option.toList_some, List.map_append, List.map_singleton, hj]
        exact tal_set hTi j t9
  · rintro m₁ news₁ h3 tk3 ⟨vr, vt, od, kvs, rfl, rfl, hdu, hTi⟩ F₁ N₁
    rw [hRK.length, List.take_length] at hTi
    clear F2 N3
    dsimp only
    repeat ((fail_if_success (with_reducible show wpAny _ _ (compareOp CmpOp.Eq _ _) _ _ _)); (first | (k_unfold; (try dsimp only)) | walk1 | (dsimp only; walk1) | (leave1; (try dsimp only))))
    (with_reducible rename News _ _ _ _ => kN); (with_reducible rename Fr _ _ _ _ => kF)
    refine keq_pairs (knd := intKind _ _) kN (.tail _ hta) (.head _) hd hdu lt lu (tal_len hT hTi hq) (by show un < cLine; omega) (tal_hits hTi hq hT.2.1) ?_
    dsimp only
    exact fin _ _ _ kF (News.sub kN fun q hq => .tail _ (hrK q hq))
end
section
open PySem PySem.W PySem.Spec PySem.Calls PyProof.Rows
example : True := by w_top off; trivial
example : PySem.Challenge.rw_re0010_01 = PySem.Challenge.rw_re0010_01 ∧ hd.heap_39 = hd.heap_39 := by k_fill; exact ⟨rfl, rfl⟩
theorem dots_ne (n : Nat) : dots (n + 1) ≠ Str.ofString "" := by
  intro h
  have h1 := dots_len (n + 1)
  rw [h] at h1
  exact absurd h1 (by have : (Str.ofString "").length = 0 := by decide +kernel
                      omega)
theorem range_q : ∀ m : Fin 13, ∀ q : Fin 13, q.val ≤ m.val → Builtin.Range.small ((m.val : Int) - (q.val : Int) + 1) ((m.val : Int) + 1) 1 = true ∧ (Builtin.Range.rangeSize ((m.val : Int) - (q.val : Int) + 1) ((m.val : Int) + 1) 1).toNat = q.val := by decide +kernel
theorem seg_strs {wvs : List Value} {n most q : Nat} (hW : DotsV wvs n) (hq : q ≤ most) (hm : most ≤ n) : StrsAre (seg wvs most q) ((List.range q).map fun i => dots (most - q + 1 + i)) := by
  have hl : (seg wvs most q).length = q := seg_len hq (by rw [hW.1]; exact hm)
  refine strs_of (by rw [hl]; simp) fun j v hv => ?_
  have hj : j < q := by rw [← hl]; exact (List.getElem?_eq_some_iff.mp hv).1
  refine ⟨dots (most - q + 1 + j), by simp [hj], ?_⟩
  unfold seg at hv
  rw [List.getElem?_drop, List.getElem?_take_of_lt (by omega)] at hv
  obtain ⟨t, rfl⟩ := hW.2 _ v hv
  exact ⟨t, by rw [show most - q + j + 1 = most - q + 1 + j by omega]⟩
def qOf (o : List Int) : Nat := (o.foldl stepQ (0, 0)).2
local macro_rules | `(tactic| k_all) => `(tactic| first | with_reducible assumption | (refine rest_ne (by with_reducible assumption) ?_; omega))
theorem law_C {w : World} {p : Program} {loose : List Str} {mean : ExcName → Option Value} {mg mb : Str → Option Value} {dp un : Nat} {gd : Option (List Code)} {fa ce : Addr} {ccd : Value} {outer : List Env} {A₀ : Around} {base h₀ : Heap} {L : Addr} {s : Shared} {Q : Flow → Shared → Prop} {E : Value → Shared → Prop} {ca wa : Addr} {cvs wvs : List Value} {cs' : List Int} {nc nw most : Nat} {tm : Tok} {rest : List (Addr × Obj)} {mm : Str → Option Value} {v4 v5 v6 v7 v8 v9 v10 : Option Value} (B : Below A₀ base outer h₀) (F : Fr h₀ L s.heap (lwM mm (some (.ref ca)) (some (.int (most : Int) tm)) (some (.ref wa)) v4 v5 v6 v7 v8 v9 v10)) (X : (hd.heap_39 w.params).In h₀) (T : Top p loose mean mg mb h₀) (hdp : dp + 50 < recursionLimit) (hun : un + 300 < cLine)
    (hi : IntsAre cvs cs') (h4 : cs'.length = 4) (hc : ∀ c ∈ cs', -3 ≤ c ∧ c ≤ 3) (hmost : most ≤ 12) (hW : DotsV wvs (max 1 most)) (CH : CodeHd base 103 99)
    (N : News h₀ L s.heap ((99, tabObj #[]) :: (wa, listOf wvs.toArray nw) :: (ca, listOf cvs.toArray nc) :: rest))
    (h99 : ∀ q ∈ (wa, listOf wvs.toArray nw) :: (ca, listOf cvs.toArray nc) :: rest, q.1 ≠ 99)
    (Hm : ∀ o ∈ permsI 4 cs', o.length = 4 ∧ (∀ c ∈ o, -3 ≤ c ∧ c ≤ 3) ∧ posSum o = most ∧ colTop o = 2 + qOf o) (H24 : (permsI 4 cs').length ≤ 24)
    (hq : ∀ j, ((permsI 4 cs').map qOf).count j = ((seatAll cs').map totOf).count j)
    (fin : ∀ h' tk' m' tab, Fr h₀ L h' m' → News h₀ L h' [(99, tabObj tab)] → Q (.ret (.bool true)) { s with heap := h', toks := tk' }) :
    wpAny (model PySem.Challenge.pw_re0010_01 w) (ktrTop dp un gd (Str.ofString "law") lawScope L fa ccd [(Str.ofString "script", ce)] outer) (execs (lawBody.drop 4) (lawEnv L fa ccd ce)) Q E s := by
  dsimp only [lawBody, lawScope, lawEnv, lawPack, List.drop]
  repeat ((fail_if_success (with_reducible show wpAny _ _ (call (Value.ref 104) _) _ _ _)); (first | (k_unfold; (try dsimp only)) | walk1 | (dsimp only; walk1) | (leave1; (try dsimp only))))
  (with_reducible rename News _ _ _ _ => kN); (with_reducible rename Fr _ _ _ _ => kF)
  refine wpAny_call (lexer_spec (by k_asm) kF (by k_asm) (by k_asm) rfl (by omega) (by omega) CH kN h99 ?_)
  intro lx dx pb st at' n1 n2 n3 t1 t2 t3 t4 t5 t6 ct0 hh1 hh2 hh3 hh4 GL tab h2 tk2 F2 N2 g0 hne hGL hR9
  clear kF kN
  repeat ((fail_if_success (with_reducible show wpAny _ _ (exec (Stmt.For _ _ _ _ _) _) _ _ _)); (first | (k_unfold; (try dsimp only)) | walk1 | (dsimp only; walk1) | (leave1; (try dsimp only))))
  refine wpAny_For ?_
  repeat ((fail_if_success (with_reducible show wpAny _ _ (call (Value.ref 109) _) _ _ _)); (first | (k_unfold; (try dsimp only)) | walk1 | (dsimp only; walk1) | (leave1; (try dsimp only))))
  (with_reducible rename News _ _ _ _ => kN); (with_reducible rename Fr _ _ _ _ => kF)
  simp only [lwM_lexer, lwM_tally] at kF
  rename_i ta _ ot lt _ _ ta0 _ lT _
  have hTa : ∀ q ∈ (pb, listOf ([] : List Value).toArray n2) :: (at', listOf [Value.int 0 ct0].toArray n3) :: (lx, instObj 76 dx) :: (dx, dictOf [⟨hh1, .str (Str.ofString "lineno") t1, .int 1 t5⟩, ⟨hh2, .str (Str.ofString "instream") t2, .ref st⟩, ⟨hh3, .str (Str.ofString "whitespace") t3, .str (Str.ofString "\n\t\r ") t6⟩, ⟨hh4, .str (Str.ofString "pushback") t4, .ref pb⟩] n1) :: (GL ++ (99, tabObj tab) :: (wa, listOf wvs.toArray nw) :: (ca, listOf cvs.toArray nc) :: rest), q.1 ≠ ta := by
    intro q hq
    simp only [List.mem_cons] at hq
    rcases hq with rfl | rfl | rfl | rfl | hq
    · exact Nat.ne_of_lt lT.1
    · exact Nat.ne_of_lt lT.2.1
    · exact Nat.ne_of_lt lT.2.2.1
    · exact Nat.ne_of_lt lT.2.2.2.1
    · exact Nat.ne_of_lt (allLt_mem lT.2.2.2.2 q hq)
  refine wpAny_call (orders_spec 4 (ra := ca) (ovs := cvs) (nr := nc) (cs' := cs') (rest := (ta, ot) :: (pb, listOf ([] : List Value).toArray n2) :: (at', listOf [Value.int 0 ct0].toArray n3) :: (lx, instObj 76 dx) :: (dx, dictOf [⟨hh1, .str (Str.ofString "lineno") t1, .int 1 t5⟩, ⟨hh2, .str (Str.ofString "instream") t2, .ref st⟩, ⟨hh3, .str (Str.ofString "whitespace") t3, .str (Str.ofString "\n\t\r ") t6⟩, ⟨hh4, .str (Str.ofString "pushback") t4, .ref pb⟩] n1) :: (GL ++ (99, tabObj tab) :: (wa, listOf wvs.toArray nw) :: rest)) (by k_asm) kF (by k_asm) (by k_asm) rfl (by omega) (by omega) hi h4 (by omega) (News.sub kN ?_) ?_)
  · intro q hq; simp only [List.mem_cons, List.mem_append] at hq ⊢; grind
  intro oa no refs GO h3 tk3 F3 N3 hRO hfr hne2
  rw [h4] at hRO
  clear kF kN
  have hap : ∀ z, z = pb ∨ z = at' ∨ z = ta → ∀ q ∈ (oa, listOf refs.toArray no) :: (GO ++ (wa, listOf wvs.toArray nw) :: (ca, listOf cvs.toArray nc) :: (99, tabObj tab) :: rest), q.1 ≠ z := by
    intro z hz q hq
    have h1 : z = pb ∨ z = at' ∨ z = ta → z ≠ oa ∧ ∀ g ∈ GO, z ≠ g.1 := by
      rintro (rfl | rfl | rfl)
      · exact hfr (z, listOf ([] : List Value).toArray n2) (by simp)
      · exact hfr (z, listOf [Value.int 0 ct0].toArray n3) (by simp)
      · exact hfr (z, ot) (by simp)
    have h2 := hR9 q
    have h3 := hTa q
    have h1' := h1 hz
    simp only [List.mem_cons, List.mem_append] at hq h2 h3
    rcases hq with rfl | hq | hq
    · exact Ne.symm h1'.1
    · exact Ne.symm (h1'.2 q hq)
    · have hq' : q = (99, tabObj tab) ∨ q = (wa, listOf wvs.toArray nw) ∨ q = (ca, listOf cvs.toArray nc) ∨ q ∈ rest := by grind
      rcases hz with rfl | rfl | rfl
      · exact (h2 hq').1
      · exact (h2 hq').2
      · exact h3 (by grind)
  have N4 := News.sub N3 (l' := (ta, ot) :: (pb, listOf ([] : List Value).toArray n2) :: (at', listOf [Value.int 0 ct0].toArray n3) :: (lx, instObj 76 dx) :: (dx, dictOf [⟨hh1, .str (Str.ofString "lineno") t1, .int 1 t5⟩, ⟨hh2, .str (Str.ofString "instream") t2, .ref st⟩, ⟨hh3, .str (Str.ofString "whitespace") t3, .str (Str.ofString "\n\t\r ") t6⟩, ⟨hh4, .str (Str.ofString "pushback") t4, .ref pb⟩] n1) :: (GL ++ ((oa, listOf refs.toArray no) :: (GO ++ (wa, listOf wvs.toArray nw) :: (ca, listOf cvs.toArray nc) :: (99, tabObj tab) :: rest)))) (by intro q hq; simp only [List.mem_cons, List.mem_append] at hq ⊢; grind)
  clear N3
  have hoK : (oa, listOf refs.toArray no) ∈ (oa, listOf refs.toArray no) :: (GO ++ (wa, listOf wvs.toArray nw) :: (ca, listOf cvs.toArray nc) :: (99, tabObj tab) :: rest) := .head _
  have hwK : (wa, listOf wvs.toArray nw) ∈ (oa, listOf refs.toArray no) :: (GO ++ (wa, listOf wvs.toArray nw) :: (ca, listOf cvs.toArray nc) :: (99, tabObj tab) :: rest) := by simp
  have hcK : (ca, listOf cvs.toArray nc) ∈ (oa, listOf refs.toArray no) :: (GO ++ (wa, listOf wvs.toArray nw) :: (ca, listOf cvs.toArray nc) :: (99, tabObj tab) :: rest) := by simp
  have htK : (99, tabObj tab) ∈ (oa, listOf refs.toArray no) :: (GO ++ (wa, listOf wvs.toArray nw) :: (ca, listOf cvs.toArray nc) :: (99, tabObj tab) :: rest) := by simp
  have hRK : RowsIn ((oa, listOf refs.toArray no) :: (GO ++ (wa, listOf wvs.toArray nw) :: (ca, listOf cvs.toArray nc) :: (99, tabObj tab) :: rest)) refs (permsI 4 cs') := hRO.mono fun q hq => .tail _ (List.mem_append.mpr (.inl hq))
  have hTL : ∀ q ∈ (lx, instObj 76 dx) :: (dx, dictOf [⟨hh1, .str (Str.ofString "lineno") t1, .int 1 t5⟩, ⟨hh2, .str (Str.ofString "instream") t2, .ref st⟩, ⟨hh3, .str (Str.ofString "whitespace") t3, .str (Str.ofString "\n\t\r ") t6⟩, ⟨hh4, .str (Str.ofString "pushback") t4, .ref pb⟩] n1) :: GL, q.1 ≠ ta := fun q hq => hTa q (by simp only [List.mem_cons, List.mem_append] at hq ⊢; grind)
  have hTp : (pb : Nat) ≠ ta ∧ (at' : Nat) ≠ ta := ⟨hTa _ (.head _), hTa _ (.tail _ (.head _))⟩
  generalize (oa, listOf refs.toArray no) :: (GO ++ (wa, listOf wvs.toArray nw) :: (ca, listOf cvs.toArray nc) :: (99, tabObj tab) :: rest) = K at *
  repeat ((fail_if_success (with_reducible show wpAny _ _ (pyIter _) _ _ _)); (first | (k_unfold; (try dsimp only)) | walk1 | (dsimp only; walk1) | (leave1; (try dsimp only))))
  refine for_list_K (vs := refs) (fun i m' news' => ∃ vo vl n2 ct ot kvs, m' = lwM mm (some (.ref ca)) (some (.int (most : Int) tm)) (some (.ref wa)) (some (.ref lx)) (some (.ref ta)) vo vl v8 v9 v10 ∧ news' = (ta, ot) :: (pb, listOf ([] : List Value).toArray n2) :: (at', listOf [Value.int 0 ct].toArray n3) :: (lx, instObj 76 dx) :: (dx, dictOf [⟨hh1, .str (Str.ofString "lineno") t1, .int 1 t5⟩, ⟨hh2, .str (Str.ofString "instream") t2, .ref st⟩, ⟨hh3, .str (Str.ofString "whitespace") t3, .str (Str.ofString "\n\t\r ") t6⟩, ⟨hh4, .str (Str.ofString "pushback") t4, .ref pb⟩] n1) :: (GL ++ K) ∧
    ot.IsDictOf (intKind PySem.Challenge.pw_re0010_01 w) kvs ∧ TalKV kvs (((permsI 4 cs').take i).map qOf)) rfl ?_ F3 N4 ?_ ?_ ?_ rfl rfl
  · rintro i m' news' ⟨vo, vl, n2, ct, ot, kvs, rfl, rfl, _⟩
    exact ⟨no, by simp [hoK]⟩
  · exact ⟨_, _, _, _, _, _, rfl, rfl, ta0, tal_nil⟩
  · rintro i v m₁ news₁ h5 tk5 it oi E5 hv ⟨vo, vl, n2', ct, od, kvs, rfl, rfl, hdo, hTi⟩ hn₁ F₁ N₁ hlt
    clear F3 N4
    obtain ⟨og, vs, nog, o, rfl, hog, hio, hoi⟩ := hRK.get hv
    obtain ⟨ho4, hoc, hop, hot⟩ := Hm o (List.mem_of_getElem? hoi)
    simp only [lwM_order] at F₁
    repeat ((fail_if_success (with_reducible show wpAny _ _ (call (Value.ref 116) _) _ _ _)); (first | (k_unfold; (try dsimp only)) | walk1 | (dsimp only; walk1) | (leave1; (try dsimp only))))
    (with_reducible rename News _ _ _ _ => kN); (with_reducible rename Fr _ _ _ _ => kF)
    have hql := fold_le o (0, 0) (Nat.le_refl _)
    have hcome : (o.foldl stepQ (0, 0)).1 = most := by rw [fold_come]; simp [hop]
    refine wpAny_call (still_spec (rest := (it, oi) :: (ta, od) :: K) (oa := og) (ovs := vs) (no := nog) (cs' := o) (wa := wa) (wvs := wvs) (nw := nw) (n2 := n2') (n3 := n3) (ct0 := ct) (G := GL) (by k_asm) kF (by k_asm) (by k_asm) rfl (by omega) (by omega) g0 hio hoc ?_ ?_ ?_ (News.sub kN ?_) ?_ ?_ ?_)
    · rw [hop, hW.1]; omega
    · rw [hW.1]; omega
    · intro v hv
      obtain ⟨j, hj, rfl⟩ := List.mem_iff_getElem.mp hv
      obtain ⟨t, ht⟩ := hW.2 j _ (List.getElem?_eq_getElem hj)
      exact ⟨_, t, ht, dots_ne j⟩
    · intro q hq; simp only [List.mem_cons, List.mem_append] at hq ⊢; grind
    · intro q hq
      have h1 := hGL q
      have h2 := hap pb (.inl rfl) q
      simp only [List.mem_cons, List.mem_append] at hq
      rcases hq with rfl | rfl | rfl | rfl | rfl | hq | rfl | rfl | hq
      · exact hne.1
      · exact hne.2.1
      · exact hne.2.2.1
      · exact hap pb (.inl rfl) _ hog
      · exact hap pb (.inl rfl) _ hwK
      · exact (h1 hq).1
      · exact Ne.symm (hn₁ (pb, listOf ([] : List Value).toArray n2') (by simp))
      · exact Ne.symm hTp.1
      · exact h2 hq
    · intro q hq
      have h1 := hGL q
      have h2 := hap at' (.inr (.inl rfl)) q
      simp only [List.mem_cons, List.mem_append] at hq
      rcases hq with rfl | rfl | rfl | rfl | hq | rfl | rfl | hq
      · exact hne.2.2.2.1
      · exact hne.2.2.2.2
      · exact hap at' (.inr (.inl rfl)) _ hog
      · exact hap at' (.inr (.inl rfl)) _ hwK
      · exact (h1 hq).2
      · exact Ne.symm (hn₁ (at', listOf [Value.int 0 ct].toArray n3) (by simp))
      · exact Ne.symm hTp.2
      · exact h2 hq
    intro la nl n2'' ct' h6 tk6 F6 N6 l6
    clear kF kN
    rw [hcome] at N6 hql
    change (o.foldl stepQ (0, 0)).2 ≤ most at hql
    change qOf o ≤ most at hql
    change News h₀ L h6 ((la, listOf (seg wvs most (qOf o)).toArray nl) :: _) at N6
    have hqi : ((permsI 4 cs').map qOf)[i]? = some (qOf o) := by rw [List.getElem?_map, hoi]; rfl
    generalize hqo : qOf o = q at *
    have hS := seg_strs hW hql (by omega)
    have hlv : (seg wvs most q).length = q := by rw [hS.len_eq]; simp
    generalize seg wvs most q = lv at *
    obtain ⟨K3, hK3⟩ : ∃ K3, K3 = (pb, listOf ([] : List Value).toArray n2'') :: (at', listOf [Value.int 0 ct'].toArray n3) :: (lx, instObj 76 dx) :: (dx, dictOf [⟨hh1, .str (Str.ofString "lineno") t1, .int 1 t5⟩, ⟨hh2, .str (Str.ofString "instream") t2, .ref st⟩, ⟨hh3, .str (Str.ofString "whitespace") t3, .str (Str.ofString "\n\t\r ") t6⟩, ⟨hh4, .str (Str.ofString "pushback") t4, .ref pb⟩] n1) :: (GL ++ K) := ⟨_, rfl⟩
    have N7 := News.sub N6 (l' := (la, listOf lv.toArray nl) :: (ta, od) :: (it, oi) :: (og, listOf vs.toArray nog) :: K3) (by rw [hK3]; intro q hq; simp only [List.mem_cons, List.mem_append] at hq ⊢; grind)
    have hK3t : ∀ q ∈ (it, oi) :: (og, listOf vs.toArray nog) :: K3, q.1 ≠ ta := by
      rw [hK3]
      intro q hq
      have h1 := hTL q
      have h2 := hap ta (.inr (.inr rfl)) q
      simp only [List.mem_cons, List.mem_append] at hq h1
      rcases hq with rfl | rfl | rfl | rfl | hq | hq | hq | hq
      · exact Ne.symm (hn₁ (ta, od) (.head _))
      · exact hap ta (.inr (.inr rfl)) _ hog
      · exact hTp.1
      · exact hTp.2
      · exact h1 (by grind)
      · exact h1 (by grind)
      · exact h1 (by grind)
      · exact h2 hq
    have hK3i : ∀ q ∈ (ta, od) :: K3, q.1 ≠ it := by rw [hK3]; exact ne_map hn₁ rfl
    clear N6 l6
    repeat ((fail_if_success (with_reducible show wpAny _ _ (eval (Expr.ListComp _ _ _ _) _) _ _ _)); (first | (k_unfold; (try dsimp only)) | walk1 | (dsimp only; walk1) | (leave1; (try dsimp only))))
    refine comp1_open (cl := []) (by with_unfolding_all rfl) rfl (by decide) (fun _ => rfl) ?_
    repeat ((fail_if_success (with_reducible show wpAny _ _ (call (Value.builtin "len") _) _ _ _)); (first | (k_unfold; (try dsimp only)) | walk1 | (dsimp only; walk1) | (leave1; (try dsimp only))))
    (with_reducible rename News _ _ _ _ => kN); (with_reducible rename Fr _ _ _ _ => kF)
    refine len_list (News.isList kN (.head _)) (by rw [List.size_toArray]; omega) ?_
    rw [List.size_toArray, hlv]
    repeat ((fail_if_success (with_reducible show wpAny _ _ (pyIter _) _ _ _)); (first | (k_unfold; (try dsimp only)) | walk1 | (dsimp only; walk1) | (leave1; (try dsimp only))))
    (with_reducible rename News _ _ _ _ => kN); (with_reducible rename Fr _ _ _ _ => kF)
    (with_reducible rename IsRange _ _ _ _ _ _ _ _ => kR)
    simp only [lwM_left] at kF
    have hrq := range_q ⟨most, by omega⟩ ⟨q, by omega⟩ hql
    dsimp only at hrq
    refine comp1_range_K (fun k ys nw => nw = (la, listOf lv.toArray nl) :: (ta, od) :: (it, oi) :: (og, listOf vs.toArray nog) :: K3 ∧ StrsAre ys ((List.range k).map fun i => dots (most - q + 1 + i)) ∧ k ≤ q) rfl (by decide) rfl (by decide) kR hrq.1 kF kN ⟨rfl, .nil, by omega⟩ ?_ ?_ ?_
    · rintro k ys nw ⟨rfl, hy, _⟩
      rw [hy.len_eq]; simp; omega
    · rintro k tv ys nw nD C D I oC mC oI h7 tk7 E7 hk7 ⟨rfl, hy, hkq⟩ hC hm F7 N7 hA
      rw [hrq.2] at hk7
      clear kF kN kR
      repeat ((fail_if_success (with_reducible show wpAny _ _ (binaryOp _ _ _) _ _ _)); (first | (k_unfold; (try dsimp only)) | walk1 | (dsimp only; walk1) | (leave1; (try dsimp only))))
      (with_reducible rename News _ _ _ _ => kN); (with_reducible rename Fr _ _ _ _ => kF)
      have e9 : (most : Int) - (q : Int) + 1 + (k : Int) * 1 = ((most - q + 1 + k : Nat) : Int) := by omega
      rw [e9]
      refine SB.mul (mulOk_of 16 1048576 (by decide) (by omega) (by omega) (by decide) (by decide)) fun t9 tk9 => ?_
      rw [dots_mul (by omega)]
      refine ⟨_, _, _, rfl, kF, kN, hA, rfl, ?_, by omega⟩
      rw [List.range_succ, List.map_append]
      exact hy.append' (.cons _ _ .nil)
    · rintro ys nw nD D h7 tk7 ⟨rfl, hy, _⟩ F7 N7 hn7
      rw [hrq.2] at hy
      clear kF kN kR
      repeat ((fail_if_success (with_reducible show wpAny _ _ (compareOp _ _ _) _ _ _)); (first | (k_unfold; (try dsimp only)) | walk1 | (dsimp only; walk1) | (leave1; (try dsimp only))))
      (with_reducible rename News _ _ _ _ => kN); (with_reducible rename Fr _ _ _ _ => kF)
      refine ne_strs (News.isList kN (.tail _ (.head _))) (News.isList kN (.head _)) hS hy (fun x hx => by
        obtain ⟨i, _, rfl⟩ := List.mem_map.mp hx
        exact dots_ok _) (by show un + 64 < cLine; omega) ?_
      have N8 := News.sub kN (l' := (og, listOf vs.toArray nog) :: (la, listOf lv.toArray nl) :: (ta, od) :: (it, oi) :: K3) (by intro q hq; simp only [List.mem_cons] at hq ⊢; grind)
      clear kN
      repeat ((fail_if_success (with_reducible show wpAny _ _ (call (Value.ref 123) _) _ _ _)); (first | (k_unfold; (try dsimp only)) | walk1 | (dsimp only; walk1) | (leave1; (try dsimp only))))
      (with_reducible rename News _ _ _ _ => kN); (with_reducible rename Fr _ _ _ _ => kF)
      refine wpAny_call (column_spec (by k_asm) kF (by k_asm) (by k_asm) rfl (by omega) (by omega) hio hoc ho4 kN ?_)
      intro t8 h8 tk8 F8 N8
      clear kF kN
      repeat ((fail_if_success (with_reducible show wpAny _ _ (call (Value.builtin "len") _) _ _ _)); (first | (k_unfold; (try dsimp only)) | walk1 | (dsimp only; walk1) | (leave1; (try dsimp only))))
      (with_reducible rename News _ _ _ _ => kN); (with_reducible rename Fr _ _ _ _ => kF)
      refine len_list (News.isList kN (.tail _ (.head _))) (by rw [List.size_toArray]; omega) ?_
      rw [List.size_toArray, hlv]
      repeat ((fail_if_success (with_reducible show wpAny _ _ (execs _ _) _ _ _)); (first | (k_unfold; (try dsimp only)) | walk1 | (dsimp only; walk1) | (leave1; (try dsimp only))))
      any_goals (exfalso; rename_i hcc; omega)
      repeat ((fail_if_success (with_reducible show wpAny _ _ (getMethod (Value.ref _) _ _) _ _ _)); (first | (k_unfold; (try dsimp only)) | walk1 | (dsimp only; walk1) | (leave1; (try dsimp only))))
      refine kdg_method (knd := intKind _ _) kN (by simp) hdo ?_
      repeat ((fail_if_success (with_reducible show wpAny _ _ (call (Value.builtin "len") _) _ _ _)); (first | (k_unfold; (try dsimp only)) | walk1 | (dsimp only; walk1) | (leave1; (try dsimp only))))
      refine len_list (News.isList kN (.tail _ (.head _))) (by rw [List.size_toArray]; omega) ?_
      rw [List.size_toArray, hlv]
      repeat ((fail_if_success (with_reducible show wpAny _ _ (call (Value.builtin "dict.get") _) _ _ _)); (first | (k_unfold; (try dsimp only)) | walk1 | (dsimp only; walk1) | (leave1; (try dsimp only))))
      refine kdg_get2 (knd := intKind _ _) (k := (q : Int)) kN (by simp) hdo lt (intKind_is _ _ _ _) _ rfl ?_
      obtain ⟨tg, eg⟩ := tal_get hTi q _
      rw [eg]
      have hcl : ((((permsI 4 cs').take i).map qOf).count q) ≤ 24 := by
        have h1 := List.count_le_length (a := q) (l := ((permsI 4 cs').take i).map qOf)
        rw [List.length_map, List.length_take] at h1
        omega
      have hkl : kvs.length ≤ 24 := by
        have h0 := tal_size hTi
        rw [List.length_map, List.length_take] at h0
        omega
      repeat ((fail_if_success (with_reducible show wpAny _ _ (call (Value.ref 97) _) _ _ _)); (first | (k_unfold; (try dsimp only)) | walk1 | (dsimp only; walk1) | (leave1; (try dsimp only))))
      (with_reducible rename News _ _ _ _ => kN); (with_reducible rename Fr _ _ _ _ => kF)
      refine wpAny_call (quote_spec (by k_asm) kF (by k_asm) (by k_asm) rfl (by omega) (by omega) (by omega) (by omega) kN ?_)
      intro t9 h9 tk9 F9 N9
      clear kF kN
      repeat ((fail_if_success (with_reducible show wpAny _ _ (call (Value.builtin "len") _) _ _ _)); (first | (k_unfold; (try dsimp only)) | walk1 | (dsimp only; walk1) | (leave1; (try dsimp only))))
      (with_reducible rename News _ _ _ _ => kN); (with_reducible rename Fr _ _ _ _ => kF)
      refine len_list (News.isList kN (.tail _ (.head _))) (by rw [List.size_toArray]; omega) ?_
      rw [List.size_toArray, hlv]
      repeat ((fail_if_success (with_reducible show wpAny _ _ (setItem _ _ _) _ _ _)); (first | (k_unfold; (try dsimp only)) | walk1 | (dsimp only; walk1) | (leave1; (try dsimp only))))
      refine kda_set (knd := intKind _ _) (k := (q : Int)) kF (News.sub kN (l' := (ta, od) :: (it, oi) :: (og, listOf vs.toArray nog) :: K3) ?_) (.head hK3t) hdo (intKind_is _ _ _ _) (by rw [sizeLine_eq]; omega) fun h10 o10 F10 N10 hd10 => ?_
      · intro q hq; simp only [List.mem_cons] at hq ⊢; grind
      clear kF kN
      repeat ((fail_if_success (with_reducible show wpAny _ _ (execs [] _) _ _ _)); (first | (k_unfold; (try dsimp only)) | walk1 | (dsimp only; walk1) | (leave1; (try dsimp only))))
      (with_reducible rename News _ _ _ _ => kN); (with_reducible rename Fr _ _ _ _ => kF)
      subst hK3
      refine wpAny_execs_nil (TurnEnd.nextI kF (news₂ := (ta, o10) :: (pb, listOf ([] : List Value).toArray n2'') :: (at', listOf [Value.int 0 ct'].toArray n3) :: (lx, instObj 76 dx) :: (dx, dictOf [⟨hh1, .str (Str.ofString "lineno") t1, .int 1 t5⟩, ⟨hh2, .str (Str.ofString "instream") t2, .ref st⟩, ⟨hh3, .str (Str.ofString "whitespace") t3, .str (Str.ofString "\n\t\r ") t6⟩, ⟨hh4, .str (Str.ofString "pushback") t4, .ref pb⟩] n1) :: (GL ++ K)) (News.sub kN ?_) (ne_map hK3i rfl) ⟨_, _, _, _, o10, _, rfl, rfl, hd10, ?_⟩)
      · intro q hq; simp only [List.mem_cons] at hq ⊢; grind
      · rw [List.take_add_one, hoi, Option.toList_some, List.map_append, List.map_singleton, hqo]
        exact tal_set hTi q t9
  · rintro m₁ news₁ h5 tk5 ⟨vo, vl, n2', ct, od, kvs, rfl, rfl, hdo, hTi⟩ F₁ N₁
    rw [hRK.length, List.take_length] at hTi
    clear F3 N4
    dsimp only
    exact law_D (v5 := none) B F₁ X T hdp hun hi h4 hc (News.sub N₁ (l' := (ca, listOf cvs.toArray nc) :: (ta, od) :: [(99, tabObj tab)]) (by
      intro q hq; simp only [List.mem_cons, List.not_mem_nil, or_false] at hq
      rcases hq with rfl | rfl | rfl
      · simp [hcK]
      · simp
      · simp [htK])) lt hdo hTi hq (fun h' tk' m' F9 N9 => fin h' tk' m' tab F9 N9)
end
section
open PySem PySem.W PySem.Spec PySem.Calls PyProof.Rows
example : True := by w_top off; trivial
example : PySem.Challenge.rw_re0010_01 = PySem.Challenge.rw_re0010_01 ∧ hd.heap_39 = hd.heap_39 := by k_fill; exact ⟨rfl, rfl⟩
open LCg (NsObj ns_obj)
theorem fresh_new {h₀ h : Heap} {L : Addr} {m : Str → Option Value} (F : Fr h₀ L h m) {a : Addr} (ha : h.objs.size ≤ a) : a ≠ L ∧ h₀.get? a = none := by
  refine ⟨Nat.ne_of_gt (Nat.lt_of_lt_of_le F.ns.lt ha), ?_⟩
  cases e : h₀.get? a with
  | none => rfl
  | some o => exact absurd (Heap.lt_size (F.keep a o e)) (Nat.not_lt.mpr ha)
theorem ints_some : ∀ {zs : List Value}, (∀ v ∈ zs, ∃ n t, v = Value.int n t) → ∃ ms, IntsAre zs ms
  | [], _ => ⟨[], .nil⟩
  | v :: zs, h => by
    obtain ⟨n, t, rfl⟩ := h v (.head _)
    obtain ⟨ms, hm⟩ := ints_some (zs := zs) fun x hx => h x (.tail _ hx)
    exact ⟨n :: ms, .cons _ _ hm⟩
theorem ints_mem {vs : List Value} {ns : List Int} (h : IntsAre vs ns) : ∀ v ∈ vs, ∃ n t, v = Value.int n t := by
  induction h with
  | nil => intro v hv; cases hv
  | cons n t _ ih =>
    intro v hv
    rcases List.mem_cons.mp hv with rfl | hv
    · exact ⟨n, t, rfl⟩
    · exact ih v hv
theorem pick_ints {vs : List Value} {ns : List Int} (h : IntsAre vs ns) (lo hi st : Option Int) : ∃ ms, IntsAre (slicePick vs.toArray lo hi st).toList ms := by
  refine ints_some fun v hv => ints_mem h v ?_
  unfold slicePick at hv
  rw [List.toList_toArray] at hv
  obtain ⟨i, _, hi⟩ := List.mem_filterMap.mp hv
  have hi : vs.toArray[i]? = some v := hi
  rw [List.getElem?_toArray] at hi
  exact List.mem_of_getElem? hi
theorem rest_sum : ∀ {rs : List Int}, (∀ r ∈ rs, 0 ≤ r ∧ r ≤ 6) → 0 ≤ rs.sum ∧ rs.sum ≤ 6 * (rs.length : Int)
  | [], _ => by simp
  | r :: rs, h => by
    have h1 := h r (.head _)
    have h2 := rest_sum (rs := rs) fun x hx => h x (.tail _ hx)
    rw [List.sum_cons, List.length_cons]; omega
theorem enum_led {prog : Program} {w : World} {A : Around} {E E' : Value → Shared → Prop} {s : Shared} {h₀ : Heap} {L T : Addr} {m : Str → Option Value} {oT : Obj} {nT : Nat} {items : Array Value} {rest : List (Addr × Obj)} {K : Value → Shared → Prop}
    (F : Fr h₀ L s.heap m) (N : News h₀ L s.heap ((T, oT) :: rest)) (hc : oT.cls = .type "tuple") (hd : oT.data = .seq items nT)
    (h : ∀ e it oe oi h', Fr h₀ L h' m → News h₀ L h' ((e, oe) :: (it, oi) :: (T, oT) :: rest) → it < e → (∀ q ∈ (T, oT) :: rest, q.1 < it) →
      oe = { cls := .type "enumerate", dict := none, data := .fields #[.none, .bool false, .ref it, rawInt (0 : Nat), .none, .none], slots := #[] } → (oi.cls = .type "tuple_iterator" ∧ oi.data = .fields #[.ref T, .int (0 : Nat) 0]) → K (.ref e) { s with heap := h' }) :
    wpAny (model prog w) A (call (.type "enumerate") [.ref T]) (fun xv s₁ => wpAny (model prog w) A (pyIter xv) K E' s₁) E s := by
  refine enumerate_tuple (items := items) ⟨oT, (N _ (.head _)).1, hc, nT, hd⟩ fun h2 hE hI hsz hk => ?_
  obtain ⟨oi, hgi, hci, hdi⟩ := hI
  refine wpAny_pyIter_enum hE ?_
  refine h (s.heap.objs.size + 1) s.heap.objs.size _ oi h2 (F.keeps hk) ?_ (Nat.lt_succ_self _) (fun q hq => Heap.lt_size (N q hq).1) rfl ⟨hci, hdi⟩
  intro q hq
  rcases List.mem_cons.mp hq with rfl | hq
  · exact ⟨hE, fresh_new F (Nat.le_succ _)⟩
  · rcases List.mem_cons.mp hq with rfl | hq
    · exact ⟨hgi, fresh_new F (Nat.le_refl _)⟩
    · exact ⟨hk _ _ (N q hq).1, (N q hq).2⟩
local macro_rules | `(tactic| k_all) => `(tactic| first | with_reducible assumption | (refine rest_ne (by with_reducible assumption) ?_; omega))
theorem law_A {w : World} {p : Program} {loose : List Str} {mean : ExcName → Option Value} {mg mb : Str → Option Value} {dp un : Nat} {gd : Option (List Code)} {fa ce : Addr} {ccd : Value} {outer : List Env} {A₀ : Around} {base h₀ : Heap} {L : Addr} {s : Shared} {Q : Flow → Shared → Prop} {E : Value → Shared → Prop} {sa : Addr} {svs : List Value} {ns : List Int} {oc : Obj} {rest : List (Addr × Obj)} {mm : Str → Option Value} (B : Below A₀ base outer h₀) (F : Fr h₀ L s.heap mm) (X : (hd.heap_39 w.params).In h₀) (T : Top p loose mean mg mb h₀) (hdp : dp + 50 < recursionLimit) (hun : un + 300 < cLine)
    (hS : h₀.IsList sa svs.toArray) (hi : IntsAre svs ns) (hl : ns.length ≤ 63) (hoc : oc.data = .cell (some (.ref sa)))
    (N : News h₀ L s.heap ((ce, oc) :: rest))
    (next : ∀ ca cvs cs' nc h' tk', IntsAre cvs cs' → cs'.length = 4 → (∀ c ∈ cs', -3 ≤ c ∧ c ≤ 3) → Fr h₀ L h' (lwM mm (some (.ref ca)) (mm (Str.ofString "most")) (mm (Str.ofString "words")) (mm (Str.ofString "lexer")) (mm (Str.ofString "tally")) (mm (Str.ofString "order")) (mm (Str.ofString "left")) (mm (Str.ofString "due")) (mm (Str.ofString "rings")) (mm (Str.ofString "total"))) → News h₀ L h' ((ca, listOf cvs.toArray nc) :: (ce, oc) :: rest) → (∀ q ∈ (ce, oc) :: rest, q.1 ≠ ca) →
      wpAny (model PySem.Challenge.pw_re0010_01 w) (ktrTop dp un gd (Str.ofString "law") lawScope L fa ccd [(Str.ofString "script", ce)] outer) (execs (lawBody.drop 1) (lawEnv L fa ccd ce)) Q E { s with heap := h', toks := tk' }) :
    wpAny (model PySem.Challenge.pw_re0010_01 w) (ktrTop dp un gd (Str.ofString "law") lawScope L fa ccd [(Str.ofString "script", ce)] outer) (execs (lawBody.drop 0) (lawEnv L fa ccd ce)) Q E s := by
  dsimp only [lawBody, lawScope, lawEnv, lawPack, List.drop]
  repeat ((fail_if_success (with_reducible show wpAny _ _ (exec _ _) _ _ _)); (first | (k_unfold; (try dsimp only)) | walk1 | (dsimp only; walk1) | (leave1; (try dsimp only))))
  refine assign_comp_open (cl := [(Str.ofString "script", ce)]) (by with_unfolding_all rfl) (by with_unfolding_all rfl) rfl (by decide) (fun _ => rfl) ?_
  repeat ((fail_if_success (with_reducible show wpAny _ _ (call (Value.type "enumerate") _) _ _ _)); (first | (k_unfold; (try dsimp only)) | walk1 | (dsimp only; walk1) | (leave1; (try dsimp only))))
  (with_reducible rename News _ _ _ _ => kN); (with_reducible rename Fr _ _ _ _ => kF)
  rename_i TT _ lT
  refine enum_led kF kN rfl rfl ?_
  intro e it oe oi h2 F2 N2 hei hlt hoe hoi
  clear kF kN
  generalize hoT : ({ cls := Value.type "tuple", data := Data.seq _ } : Obj) = oT at *
  have hap : ∀ q ∈ (TT, oT) :: (ce, oc) :: rest, q.1 ≠ e ∧ q.1 ≠ it := fun q hq => ⟨Nat.ne_of_lt (Nat.lt_trans (hlt q hq) hei), Nat.ne_of_lt (hlt q hq)⟩
  refine start_any (by decide) rfl F2 N2 ?_ ?_
  · intro h3 tk3 Q3 E3 N3 hQ3
    refine wpAny_pyIter_enum (by have := (N3 _ (.head _)).1; rw [hoe] at this; exact this) hQ3
  intro C D oC mC h3 tk3 hC F3 N3 hCD hapn
  have hA4 : Apart4 C D e it ((TT, oT) :: (ce, oc) :: rest) := ⟨⟨hCD, Ne.symm (hapn _ (.head _)).1, Ne.symm (hapn _ (.tail _ (.head _))).1, Ne.symm (hapn _ (.head _)).2, Ne.symm (hapn _ (.tail _ (.head _))).2, Nat.ne_of_gt hei⟩, fun q hq => ⟨(hapn q (.tail _ (.tail _ hq))).1, (hapn q (.tail _ (.tail _ hq))).2, (hap q hq).1, (hap q hq).2⟩⟩
  obtain ⟨items, hit1, hit2, hit3⟩ : ∃ items : List Value, oT.cls = .type "tuple" ∧ (∃ n, oT.data = .seq items.toArray n) ∧ items.length = 4 ∧ ∀ (k : Nat) (v : Value), items[k]? = some v → ∃ c t, v = .int c t ∧ -3 ≤ c ∧ c ≤ 3 := by
    refine ⟨_, by rw [← hoT], ⟨0, by rw [← hoT]⟩, rfl, ?_⟩
    intro k v hv
    have hk : k = 0 ∨ k = 1 ∨ k = 2 ∨ k = 3 := by
      have := (List.getElem?_eq_some_iff.mp hv).1
      simp at this; omega
    rcases hk with rfl | rfl | rfl | rfl <;> (simp at hv; subst hv; exact ⟨_, _, rfl, by decide, by decide⟩)
  refine enum_core (T := TT) (items := items) (fun k ys nw => nw = (TT, oT) :: (ce, oc) :: rest ∧ k ≤ 4 ∧ ∃ cs, IntsAre ys cs ∧ cs.length = k ∧ ∀ c ∈ cs, -3 ≤ c ∧ c ≤ 3) rfl rfl (by decide) (by decide) (by decide) ?_ ?_ ?_ ?_ ⟨rfl, by omega, [], .nil, rfl, by simp⟩ hC F3 (News.sub N3 (fun q hq => hq)) hA4 ⟨_, hoe⟩ hoi
  · rintro k ys nw ⟨rfl, hk4, cs, hy, hc, _⟩
    rw [ints_len hy, hc]; omega
  · rintro k ys nw ⟨rfl, _⟩
    obtain ⟨n, hn⟩ := hit2
    exact ⟨oT, n, .head _, hit1, hn⟩
  · rintro k v tv ys nw nD oC4 mC4 oe4 oi4 h4 tk4 E4 hv ⟨rfl, hk4, cs, hy, hcl, hcs⟩ hC4 hma hmb F4 N4 hA
    obtain ⟨c, tc, rfl, hc1, hc2⟩ := hit3.2 k v hv
    have hk4' : k < 4 := by have := (List.getElem?_eq_some_iff.mp hv).1; omega
    clear F3 N3 N2 F2
    repeat ((fail_if_success (with_reducible show wpAny _ _ (eval (Expr.ListComp _ _ _ _) _) _ _ _)); (first | (k_unfold; (try dsimp only)) | walk1 | (dsimp only; walk1) | (leave1; (try dsimp only))))
    refine comp1_open (cl := []) (by with_unfolding_all rfl) rfl (by decide) (fun _ => rfl) ?_
    repeat ((fail_if_success (with_reducible show wpAny _ _ (subscriptTail _ _ _ _) _ _ _)); (first | (k_unfold; (try dsimp only)) | walk1 | (dsimp only; walk1) | (leave1; (try dsimp only))))
    have hsl := ints_len hi
    k_dflt (refine' kmk_slice3_lit (zs := (slicePick svs.toArray (some (k : Int)) (some 24) (some 4)).toList) F4 N4 (Fr.lst F4 hS) (IsPart.int _ _) (IsPart.int _ _) (IsPart.int _ _) (by decide) rfl ?_ (by with_unfolding_all rfl) (by intro _; with_unfolding_all rfl) (by rw [List.size_toArray, sizeLine_eq]; omega))
    intro Dz h5 F5 N5 l5
    obtain ⟨ms, hms⟩ := pick_ints hi (some (k : Int)) (some 24) (some 4)
    have hzl : (slicePick svs.toArray (some (k : Int)) (some 24) (some 4)).toList.length ≤ 63 := by
      have h1 := slicePick_size_le svs.toArray (some (k : Int)) (some 24) (some 4)
      have h2 : svs.toArray.size = svs.length := List.size_toArray ..
      rw [Array.length_toList]
      omega
    generalize (slicePick svs.toArray (some (k : Int)) (some 24) (some 4)).toList = zs at *
    have hAz : Apart4 C D e it ((Dz, listOf zs.toArray 0) :: (TT, oT) :: (ce, oc) :: rest) := ⟨hA.1, fun q hq => by
      rcases List.mem_cons.mp hq with rfl | hq
      · exact ⟨Nat.ne_of_gt (l5 _ (.head _)), Nat.ne_of_gt (l5 _ (.tail _ (.head _))), Nat.ne_of_gt (l5 _ (.tail _ (.tail _ (.head _)))), Nat.ne_of_gt (l5 _ (.tail _ (.tail _ (.tail _ (.head _)))))⟩
      · exact hA.2 q hq⟩
    repeat ((fail_if_success (with_reducible show wpAny _ _ (pyIter _) _ _ _)); (first | (k_unfold; (try dsimp only)) | walk1 | (dsimp only; walk1) | (leave1; (try dsimp only))))
    refine comp1_list_K (vs := zs) (fun j ys' nw => nw = (Dz, listOf zs.toArray 0) :: (C, oC4) :: (D, listOf ys.toArray nD) :: (e, oe4) :: (it, oi4) :: (TT, oT) :: (ce, oc) :: rest ∧ ∃ rs, IntsAre ys' rs ∧ rs.length = j ∧ j ≤ 63 ∧ ∀ r ∈ rs, 0 ≤ r ∧ r ≤ 6) rfl (by decide) rfl (by decide) ?_ F5 N5 ⟨rfl, [], .nil, rfl, by omega, by simp⟩ ?_ ?_ ?_
    · rintro j ys' nw ⟨rfl, _⟩
      exact ⟨0, .head _⟩
    · rintro j ys' nw ⟨rfl, rs, hy', hr, hj, _⟩
      rw [ints_len hy', hr]; omega
    · rintro j v' ys' nw nD' C' D' I' oC' mC' oI' h6 tk6 E6 hv' ⟨rfl, rs, hy', hr, hj, hrs⟩ hC' hm' F6 N6 hA6
      obtain ⟨n', t', rfl⟩ := ints_mem hms v' (List.mem_of_getElem? hv')
      have hj' : j < 63 := by have := (List.getElem?_eq_some_iff.mp hv').1; omega
      clear F5 N5 F4 N4
      repeat ((fail_if_success (with_reducible show wpAny _ _ (binaryOp _ _ _) _ _ _)); (first | (k_unfold; (try dsimp only)) | walk1 | (dsimp only; walk1) | (leave1; (try dsimp only))))
      (with_reducible rename News _ _ _ _ => kN); (with_reducible rename Fr _ _ _ _ => kF)
      refine PyProof.Rows.mod_int (by decide) ⟨_, _, _, rfl, kF, kN, hA6, rfl, rs ++ [n'.fmod 7], hy'.append (.cons _ _ .nil), by simp [hr], by omega, ?_⟩
      intro r hr'
      rcases List.mem_append.mp hr' with hr' | hr'
      · exact hrs r hr'
      · rw [List.mem_singleton.mp hr', Int.fmod_eq_emod_of_nonneg _ (by decide)]; omega
    · rintro ys' nw nD' D' h6 tk6 ⟨rfl, rs, hy', hr, hj, hrs⟩ F6 N6 hn6
      have hsum := rest_sum hrs
      clear F5 N5 F4 N4
      repeat ((fail_if_success (with_reducible show wpAny _ _ (binaryOp Operator.Sub _ _) _ _ _)); (first | (k_unfold; (try dsimp only)) | walk1 | (dsimp only; walk1) | (leave1; (try dsimp only))))
      (with_reducible rename News _ _ _ _ => kN); (with_reducible rename Fr _ _ _ _ => kF)
      refine PyProof.Rows.sub_int ⟨_, _, _, rfl, kF, News.sub kN ?_, hA, rfl, by omega, cs ++ [(c + 3 + rs.sum).fmod 7 - 3], hy.append (.cons _ _ .nil), by simp [hcl], ?_⟩
      · intro q hq; simp only [List.mem_cons] at hq ⊢; grind
      · intro r hr'
        rcases List.mem_append.mp hr' with hr' | hr'
        · exact hcs r hr'
        · rw [List.mem_singleton.mp hr', Int.fmod_eq_emod_of_nonneg _ (by decide)]; omega
  · rintro ys nw nD oC4 mC4 h4 tk4 ⟨rfl, hk4, cs, hy, hcl, hcs⟩ hC4 F4 N4 hA
    clear F3 N3 N2 F2
    show wpAny _ _ (assign _ _ _) _ _ _
    refine wpAny_assign_Name (wpAny_storeName_local rfl F4.ns (fun h5 hn5 hs5 => ?_))
    have F5 := F4.set hn5 hs5
    have N5 : News h₀ L h5 ((C, oC4) :: (D, listOf ys.toArray nD) :: (TT, oT) :: (ce, oc) :: rest) := fun q hq => ⟨hs5.extBut _ _ (N4 q hq).2.1 (N4 q hq).1, (N4 q hq).2⟩
    refine ⟨mC4, hC4.ns (N5 _ (.head _)).1, fun h6 hs6 => ?_⟩
    obtain ⟨F6, N6⟩ := led_drop (d := C) F5 N5 (by
      intro q hq; simp only [List.mem_cons] at hq
      rcases hq with rfl | hq
      · exact Ne.symm hA.1.1
      · exact (hA.2 q (by simpa using hq)).1) (fun b x hb e => hs6.extBut b x hb e)
    have e0 : (fun y => if y = Str.ofString "changes" then some (Value.ref D) else mm y) = lwM mm (some (.ref D)) (mm (Str.ofString "most")) (mm (Str.ofString "words")) (mm (Str.ofString "lexer")) (mm (Str.ofString "tally")) (mm (Str.ofString "order")) (mm (Str.ofString "left")) (mm (Str.ofString "due")) (mm (Str.ofString "rings")) (mm (Str.ofString "total")) := by
      funext y
      rw [← lwM_changes (v_changes := mm (Str.ofString "changes")), lwM_init]
    rw [e0] at F6
    refine next D ys cs nD h6 _ hy (by rw [hcl, hit3.1]) hcs F6 (News.sub N6 ?_) fun q hq => (hA.2 q (.tail _ hq)).2.1
    intro q hq; simp only [List.mem_cons] at hq ⊢; grind
end
section
open PySem PySem.W PySem.Spec PySem.Calls PyProof.Rows
def sq (q c : Nat) : Nat := q + c - 3
def qN (o : List Nat) : Nat := o.foldl sq 0
def totN (rings : List (List Nat)) : Nat := (rings.map fun r => r.sum - 3 * r.length).sum
def enc (l : List Nat) : Nat := (l.map fun j => 32 ^ j).sum
def ordN (a b c d : Nat) : List (List Nat) := [[a, b, c, d], [a, b, d, c], [a, c, b, d], [a, c, d, b], [a, d, b, c], [a, d, c, b], [b, a, c, d], [b, a, d, c], [b, c, a, d], [b, c, d, a], [b, d, a, c], [b, d, c, a], [c, a, b, d], [c, a, d, b], [c, b, a, d], [c, b, d, a], [c, d, a, b], [c, d, b, a], [d, a, b, c], [d, a, c, b], [d, b, a, c], [d, b, c, a], [d, c, a, b], [d, c, b, a]]
def seatN (a b c d : Nat) : List (List (List Nat)) := [[[a], [b], [c], [d]], [[a, d], [b], [c]], [[a], [b, d], [c]], [[a], [b], [c, d]], [[a, c], [b], [d]], [[a, c, d], [b]], [[a, c, d], [b]], [[a, c], [b, d]], [[a], [b, c], [d]], [[a, d], [b, c]], [[a], [b, c, d]], [[a], [b, c, d]], [[a, b], [c], [d]], [[a, b, d], [c]], [[a, b, d], [c]], [[a, b], [c, d]], [[a, b, c], [d]], [[a, b, c, d]], [[a, b, c, d]], [[a, b, c, d]], [[a, b, c], [d]], [[a, b, c, d]], [[a, b, c, d]], [[a, b, c, d]]]
def encQ (a b c d : Nat) : Nat := 32 ^ sq (sq (sq (sq 0 a) b) c) d + (32 ^ sq (sq (sq (sq 0 a) b) d) c + (32 ^ sq (sq (sq (sq 0 a) c) b) d + (32 ^ sq (sq (sq (sq 0 a) c) d) b + (32 ^ sq (sq (sq (sq 0 a) d) b) c + (32 ^ sq (sq (sq (sq 0 a) d) c) b + (32 ^ sq (sq (sq (sq 0 b) a) c) d + (32 ^ sq (sq (sq (sq 0 b) a) d) c + (32 ^ sq (sq (sq (sq 0 b) c) a) d + (32 ^ sq (sq (sq (sq 0 b) c) d) a + (32 ^ sq (sq (sq (sq 0 b) d) a) c + (32 ^ sq (sq (sq (sq 0 b) d) c) a + (32 ^ sq (sq (sq (sq 0 c) a) b) d + (32 ^ sq (sq (sq (sq 0 c) a) d) b + (32 ^ sq (sq (sq (sq 0 c) b) a) d + (32 ^ sq (sq (sq (sq 0 c) b) d) a + (32 ^ sq (sq (sq (sq 0 c) d) a) b + (32 ^ sq (sq (sq (sq 0 c) d) b) a + (32 ^ sq (sq (sq (sq 0 d) a) b) c + (32 ^ sq (sq (sq (sq 0 d) a) c) b + (32 ^ sq (sq (sq (sq 0 d) b) a) c + (32 ^ sq (sq (sq (sq 0 d) b) c) a + (32 ^ sq (sq (sq (sq 0 d) c) a) b + (32 ^ sq (sq (sq (sq 0 d) c) b) a + 0)))))))))))))))))))))))
def encT (a b c d : Nat) : Nat := 32 ^ ((a + 0 - 3) + ((b + 0 - 3) + ((c + 0 - 3) + ((d + 0 - 3) + 0)))) + (32 ^ ((a + (d + 0) - 6) + ((b + 0 - 3) + ((c + 0 - 3) + 0))) + (32 ^ ((a + 0 - 3) + ((b + (d + 0) - 6) + ((c + 0 - 3) + 0))) + (32 ^ ((a + 0 - 3) + ((b + 0 - 3) + ((c + (d + 0) - 6) + 0))) + (32 ^ ((a + (c + 0) - 6) + ((b + 0 - 3) + ((d + 0 - 3) + 0))) + (32 ^ ((a + (c + (d + 0)) - 9) + ((b + 0 - 3) + 0)) + (32 ^ ((a + (c + (d + 0)) - 9) + ((b + 0 - 3) + 0)) + (32 ^ ((a + (c + 0) - 6) + ((b + (d + 0) - 6) + 0)) + (32 ^ ((a + 0 - 3) + ((b + (c + 0) - 6) + ((d + 0 - 3) + 0))) + (32 ^ ((a + (d + 0) - 6) + ((b + (c + 0) - 6) + 0)) + (32 ^ ((a + 0 - 3) + ((b + (c + (d + 0)) - 9) + 0)) + (32 ^ ((a + 0 - 3) + ((b + (c + (d + 0)) - 9) + 0)) + (32 ^ ((a + (b + 0) - 6) + ((c + 0 - 3) + ((d + 0 - 3) + 0))) + (32 ^ ((a + (b + (d + 0)) - 9) + ((c + 0 - 3) + 0)) + (32 ^ ((a + (b + (d + 0)) - 9) + ((c + 0 - 3) + 0)) + (32 ^ ((a + (b + 0) - 6) + ((c + (d + 0) - 6) + 0)) + (32 ^ ((a + (b + (c + 0)) - 9) + ((d + 0 - 3) + 0)) + (32 ^ ((a + (b + (c + (d + 0))) - 12) + 0) + (32 ^ ((a + (b + (c + (d + 0))) - 12) + 0) + (32 ^ ((a + (b + (c + (d + 0))) - 12) + 0) + (32 ^ ((a + (b + (c + 0)) - 9) + ((d + 0 - 3) + 0)) + (32 ^ ((a + (b + (c + (d + 0))) - 12) + 0) + (32 ^ ((a + (b + (c + (d + 0))) - 12) + 0) + (32 ^ ((a + (b + (c + (d + 0))) - 12) + 0) + 0)))))))))))))))))))))))
theorem encQ_def (a b c d : Nat) : enc ((ordN a b c d).map qN) = encQ a b c d := by kernel_rfl
theorem encT_def (a b c d : Nat) : enc ((seatN a b c d).map totN) = encT a b c d := by kernel_rfl
def chkA (a : Nat) : Bool := [0, 1, 2, 3, 4, 5, 6].all fun b => [0, 1, 2, 3, 4, 5, 6].all fun c => [0, 1, 2, 3, 4, 5, 6].all fun d => Nat.beq (encQ a b c d) (encT a b c d)
theorem chk0 : chkA 0 = true := by decide +kernel
theorem chk1 : chkA 1 = true := by decide +kernel
theorem chk2 : chkA 2 = true := by decide +kernel
theorem chk3 : chkA 3 = true := by decide +kernel
theorem chk4 : chkA 4 = true := by decide +kernel
theorem chk5 : chkA 5 = true := by decide +kernel
theorem chk6 : chkA 6 = true := by decide +kernel
theorem enc_eq {a b c d : Nat} (ha : a < 7) (hb : b < 7) (hc : c < 7) (hd : d < 7) : enc ((ordN a b c d).map qN) = enc ((seatN a b c d).map totN) := by
  rw [encQ_def, encT_def]
  have mem7 : ∀ {x : Nat}, x < 7 → x ∈ [0, 1, 2, 3, 4, 5, 6] := by
    intro x hx
    have : x = 0 ∨ x = 1 ∨ x = 2 ∨ x = 3 ∨ x = 4 ∨ x = 5 ∨ x = 6 := by omega
    rcases this with rfl | rfl | rfl | rfl | rfl | rfl | rfl <;> decide
  have h1 : chkA a = true := by
    have : a = 0 ∨ a = 1 ∨ a = 2 ∨ a = 3 ∨ a = 4 ∨ a = 5 ∨ a = 6 := by omega
    rcases this with rfl | rfl | rfl | rfl | rfl | rfl | rfl
    · exact chk0
    · exact chk1
    · exact chk2
    · exact chk3
    · exact chk4
    · exact chk5
    · exact chk6
  exact Nat.eq_of_beq_eq_true (List.all_eq_true.mp (List.all_eq_true.mp (List.all_eq_true.mp h1 b (mem7 hb)) c (mem7 hc)) d (mem7 hd))
theorem enc_low (v : Nat) : ∀ l : List Nat, (∀ x ∈ l, x < v) → 32 * enc l ≤ l.length * 32 ^ v
  | [], _ => by simp [enc]
  | x :: l, h => by
    have h1 := h x (.head _)
    have h2 := enc_low v l fun y hy => h y (.tail _ hy)
    have h3 : 32 ^ (x + 1) ≤ 32 ^ v := Nat.pow_le_pow_right (by decide) h1
    rw [Nat.pow_succ] at h3
    have e : enc (x :: l) = 32 ^ x + enc l := by simp [enc]
    rw [e, List.length_cons, Nat.add_mul, Nat.one_mul]
    generalize (32 : Nat) ^ v = X at *
    generalize (32 : Nat) ^ x = Y at *
    generalize l.length * X = Z at *
    omega
theorem enc_split (v : Nat) : ∀ l : List Nat, ∃ B, enc l = enc (l.filter (· < v)) + (l.count v + 32 * B) * 32 ^ v
  | [] => ⟨0, by simp [enc]⟩
  | x :: l => by
    obtain ⟨B, hB⟩ := enc_split v l
    have e : enc (x :: l) = 32 ^ x + enc l := by simp [enc]
    rcases Nat.lt_trichotomy x v with h | h | h
    · refine ⟨B, ?_⟩
      rw [List.filter_cons, if_pos (by simpa using h), List.count_cons, if_neg (by simp; omega), e, hB]
      simp [enc]; omega
    · subst h
      refine ⟨B, ?_⟩
      rw [List.filter_cons, if_neg (by simp), List.count_cons, if_pos (by simp), e, hB, Nat.add_mul, Nat.add_mul, Nat.add_mul]
      omega
    · refine ⟨B + 32 ^ (x - v - 1), ?_⟩
      have e2 : (32 : Nat) ^ x = 32 * 32 ^ (x - v - 1) * 32 ^ v := by
        rw [← Nat.pow_succ', ← Nat.pow_add]; congr 1; omega
      rw [List.filter_cons, if_neg (by simp; omega), List.count_cons, if_neg (by simp; omega), e, hB, e2, Nat.mul_add, Nat.add_zero, Nat.add_mul, Nat.add_mul, Nat.add_mul]
      generalize (32 : Nat) * 32 ^ (x - v - 1) * 32 ^ v = Y
      generalize 32 * B * 32 ^ v = Z
      generalize l.count v * 32 ^ v = W
      omega
theorem enc_count {l : List Nat} (hl : l.length < 32) (v : Nat) : enc l / 32 ^ v % 32 = l.count v := by
  obtain ⟨B, hB⟩ := enc_split v l
  have h1 := enc_low v (l.filter (· < v)) (fun x hx => by simpa using (List.mem_filter.mp hx).2)
  have h2 : (l.filter (· < v)).length ≤ l.length := List.length_filter_le ..
  have h3 : 0 < 32 ^ v := Nat.pow_pos (by decide)
  have h4 : enc (l.filter (· < v)) < 32 ^ v := by
    have : (l.filter (· < v)).length * 32 ^ v ≤ 31 * 32 ^ v := Nat.mul_le_mul_right _ (by omega)
    omega
  have h5 : l.count v ≤ l.length := List.count_le_length
  rw [hB, Nat.add_mul_div_right _ _ h3, Nat.div_eq_of_lt h4, Nat.zero_add, Nat.add_mul_mod_self_left, Nat.mod_eq_of_lt (by omega)]
theorem enc_inj {l k : List Nat} (hl : l.length < 32) (hk : k.length < 32) (h : enc l = enc k) (v : Nat) : l.count v = k.count v := by
  rw [← enc_count hl v, ← enc_count hk v, h]
def fI (x : Nat) : Int := (x : Int) - 3
theorem sumI : ∀ r : List Nat, (r.map fI).sum = (r.sum : Int) - 3 * (r.length : Int)
  | [] => rfl
  | x :: r => by rw [List.map_cons, List.sum_cons, sumI r, List.sum_cons, List.length_cons]; unfold fI; omega
theorem totI : ∀ rings : List (List Nat), totOf (rings.map fun r => r.map fI) = totN rings
  | [] => rfl
  | r :: rings => by
    have h1 : totOf ((r.map fI) :: rings.map fun r => r.map fI) = (r.map fI).sum.toNat + totOf (rings.map fun r => r.map fI) := by simp [totOf]
    have h2 : totN (r :: rings) = (r.sum - 3 * r.length) + totN rings := by simp [totN]
    rw [List.map_cons, h1, h2, totI rings, sumI]; omega
theorem qI : ∀ (o : List Nat) (st : Nat × Nat), ((o.map fI).foldl stepQ st).2 = o.foldl sq st.2
  | [], _ => rfl
  | x :: o, st => by
    rw [List.map_cons, List.foldl_cons, List.foldl_cons, qI o]
    congr 1
    unfold stepQ sq fI; dsimp only; omega
theorem qOfI (o : List Nat) : qOf (o.map fI) = qN o := qI o (0, 0)
theorem perms4 (a b c d : Nat) : permsI 4 [fI a, fI b, fI c, fI d] = (ordN a b c d).map fun o => o.map fI := by kernel_rfl
theorem seat4 (a b c d : Nat) : seatAll [fI a, fI b, fI c, fI d] = (seatN a b c d).map fun rings => rings.map fun r => r.map fI := by kernel_rfl
theorem encQ_eq (a b c d : Nat) : (permsI 4 [fI a, fI b, fI c, fI d]).map qOf = (ordN a b c d).map qN := by
  rw [perms4, List.map_map]
  exact List.map_congr_left fun o _ => qOfI o
theorem encT_eq (a b c d : Nat) : (seatAll [fI a, fI b, fI c, fI d]).map totOf = (seatN a b c d).map totN := by
  rw [seat4, List.map_map]
  exact List.map_congr_left fun o _ => totI o
theorem perms_perm : ∀ (n : Nat) (row o : List Int), row.length = n → o ∈ permsI n row → o.Perm row
  | 0, row, o, hl, ho => by
    rw [List.length_eq_zero_iff.mp hl]
    simp [permsI] at ho
    rw [ho]
  | n + 1, row, o, hl, ho => by
    simp only [permsI, List.mem_flatMap, List.mem_map, List.mem_range] at ho
    obtain ⟨k, hk, qs, hq, rfl⟩ := ho
    have ih := perms_perm n _ qs (by simp; omega) hq
    have e : row = row.take k ++ row.getD k 0 :: row.drop (k + 1) := by
      rw [List.getD_eq_getElem?_getD, List.getElem?_eq_getElem hk, Option.getD_some, ← List.drop_eq_getElem_cons hk, List.take_append_drop]
    refine (ih.cons _).trans ?_
    conv => rhs; rw [e]
    exact List.perm_middle.symm
theorem pos_perm {a b : List Int} (h : a.Perm b) : posSum a = posSum b := by
  induction h with
  | nil => rfl
  | cons x _ ih => simp only [posSum, List.map_cons, List.sum_cons] at ih ⊢; rw [ih]
  | swap x y l => simp only [posSum, List.map_cons, List.sum_cons]; omega
  | trans _ _ h1 h2 => rw [h1, h2]
theorem stepQ_int (st : Nat × Nat) (c : Int) : (stepQ st c).2 = ((st.2 : Int) + c).toNat := by
  unfold stepQ; dsimp only; omega
def sI (q : Nat) (c : Int) : Nat := ((q : Int) + c).toNat
theorem qOf4 (a b c d : Int) : qOf [a, b, c, d] = sI (sI (sI (sI 0 a) b) c) d := by
  unfold qOf sI
  simp only [List.foldl_cons, List.foldl_nil, stepQ_int]
theorem colE4 (a b c d : Int) : colE [a, b, c, d] 1 = (d + 2).toNat ∧ colE [a, b, c, d] 2 = (c + d + 2).toNat ∧ colE [a, b, c, d] 3 = (b + c + d + 2).toNat ∧ colE [a, b, c, d] 4 = (a + b + c + d + 2).toNat := by
  have e1 : ([d] : List Int).sum = d := by simp
  have e2 : ([c, d] : List Int).sum = c + d := by simp
  have e3 : ([b, c, d] : List Int).sum = b + c + d := by simp [Int.add_assoc]
  have e4 : ([a, b, c, d] : List Int).sum = a + b + c + d := by simp [Int.add_assoc]
  refine ⟨?_, ?_, ?_, ?_⟩
  · exact congrArg (fun z : Int => (z + 2).toNat) e1
  · exact congrArg (fun z : Int => (z + 2).toNat) e2
  · exact congrArg (fun z : Int => (z + 2).toNat) e3
  · exact congrArg (fun z : Int => (z + 2).toNat) e4
theorem step_max {q : Nat} {p : Nat} {c : Int} (h : q = sI p c) : (q = 0 ∨ (q : Int) = p + c) ∧ (p : Int) + c ≤ q := by
  unfold sI at h; omega
theorem col4 (a b c d : Int) : colTop [a, b, c, d] = 2 + qOf [a, b, c, d] := by
  obtain ⟨e1, e2, e3, e4⟩ := colE4 a b c d
  unfold colTop
  rw [e1, e2, e3, e4, qOf4]
  clear e1 e2 e3 e4
  generalize hq1 : sI 0 a = q1
  generalize hq2 : sI q1 b = q2
  generalize hq3 : sI q2 c = q3
  generalize hq4 : sI q3 d = q4
  have r1 := step_max hq1.symm
  have r2 := step_max hq2.symm
  have r3 := step_max hq3.symm
  have r4 := step_max hq4.symm
  clear hq1 hq2 hq3 hq4
  have t : ∀ {z : Int}, z ≤ q4 → (z + 2).toNat ≤ 2 + q4 := fun h => by omega
  have u : ∀ {z : Int}, (q4 : Int) = z → 2 + q4 ≤ (z + 2).toNat := fun h => by omega
  refine Nat.le_antisymm ?_ ?_
  · exact Nat.max_le.mpr ⟨Nat.max_le.mpr ⟨Nat.max_le.mpr ⟨Nat.max_le.mpr ⟨by omega, t (by omega)⟩, t (by omega)⟩, t (by omega)⟩, t (by omega)⟩
  · have m4 : (a + b + c + d + 2).toNat ≤ max (max (max (max 2 (d + 2).toNat) (c + d + 2).toNat) (b + c + d + 2).toNat) (a + b + c + d + 2).toNat := Nat.le_max_right ..
    have m3 : (b + c + d + 2).toNat ≤ max (max (max (max 2 (d + 2).toNat) (c + d + 2).toNat) (b + c + d + 2).toNat) (a + b + c + d + 2).toNat := Nat.le_trans (Nat.le_max_right ..) (Nat.le_max_left ..)
    have m2 : (c + d + 2).toNat ≤ max (max (max (max 2 (d + 2).toNat) (c + d + 2).toNat) (b + c + d + 2).toNat) (a + b + c + d + 2).toNat := Nat.le_trans (Nat.le_trans (Nat.le_max_right ..) (Nat.le_max_left ..)) (Nat.le_max_left ..)
    have m1 : (d + 2).toNat ≤ max (max (max (max 2 (d + 2).toNat) (c + d + 2).toNat) (b + c + d + 2).toNat) (a + b + c + d + 2).toNat := Nat.le_trans (Nat.le_trans (Nat.le_trans (Nat.le_max_right ..) (Nat.le_max_left ..)) (Nat.le_max_left ..)) (Nat.le_max_left ..)
    have m0 : 2 ≤ max (max (max (max 2 (d + 2).toNat) (c + d + 2).toNat) (b + c + d + 2).toNat) (a + b + c + d + 2).toNat := Nat.le_trans (Nat.le_trans (Nat.le_trans (Nat.le_max_left ..) (Nat.le_max_left ..)) (Nat.le_max_left ..)) (Nat.le_max_left ..)
    rcases r4.1 with h | h
    · rw [h]; exact m0
    · rcases r3.1 with h3 | h3
      · exact Nat.le_trans (u (by rw [h, h3]; exact Int.zero_add d)) m1
      · rcases r2.1 with h2 | h2
        · exact Nat.le_trans (u (by rw [h, h3, h2]; simp)) m2
        · rcases r1.1 with h1 | h1
          · exact Nat.le_trans (u (by rw [h, h3, h2, h1]; simp)) m3
          · exact Nat.le_trans (u (by rw [h, h3, h2, h1]; simp)) m4
theorem law_math {cs : List Int} (h4 : cs.length = 4) (hc : ∀ c ∈ cs, -3 ≤ c ∧ c ≤ 3) :
    (∀ o ∈ permsI 4 cs, o.length = 4 ∧ (∀ c ∈ o, -3 ≤ c ∧ c ≤ 3) ∧ posSum o = posSum cs ∧ colTop o = 2 + qOf o) ∧ (permsI 4 cs).length ≤ 24 ∧ ∀ j, ((permsI 4 cs).map qOf).count j = ((seatAll cs).map totOf).count j := by
  refine ⟨fun o ho => ?_, ?_⟩
  · have hp := perms_perm 4 cs o h4 ho
    have hl : o.length = 4 := by rw [hp.length_eq, h4]
    refine ⟨hl, fun c hco => hc c (hp.mem_iff.mp hco), pos_perm hp, ?_⟩
    obtain ⟨a, b, c, d, rfl⟩ : ∃ a b c d, o = [a, b, c, d] := by
      rcases o with _ | ⟨a, _ | ⟨b, _ | ⟨c, _ | ⟨d, _ | ⟨e, r⟩⟩⟩⟩⟩ <;> simp at hl
      exact ⟨a, b, c, d, rfl⟩
    exact col4 a b c d
  · obtain ⟨a, b, c, d, rfl⟩ : ∃ a b c d, cs = [a, b, c, d] := by
      rcases cs with _ | ⟨a, _ | ⟨b, _ | ⟨c, _ | ⟨d, _ | ⟨e, r⟩⟩⟩⟩⟩ <;> simp at h4
      exact ⟨a, b, c, d, rfl⟩
    have ex : ∀ {x : Int}, -3 ≤ x ∧ x ≤ 3 → ∃ y : Nat, x = fI y ∧ y < 7 := fun {x} h => ⟨(x + 3).toNat, by unfold fI; omega, by omega⟩
    obtain ⟨a', rfl, la⟩ := ex (hc a (by simp))
    obtain ⟨b', rfl, lb⟩ := ex (hc b (by simp))
    obtain ⟨c', rfl, lc⟩ := ex (hc c (by simp))
    obtain ⟨d', rfl, ld⟩ := ex (hc d (by simp))
    refine ⟨by rw [perms4, List.length_map]; exact Nat.le_refl 24, fun j => ?_⟩
    rw [encQ_eq, encT_eq]
    exact enc_inj (by rw [List.length_map]; exact (by decide : 24 < 32)) (by rw [List.length_map]; exact (by decide : 24 < 32)) (enc_eq la lb lc ld) j
end
section
open PySem PySem.W PySem.Spec PySem.Calls PyProof.Rows
example : True := by w_top off; trivial
example : PySem.Challenge.rw_re0010_01 = PySem.Challenge.rw_re0010_01 ∧ hd.heap_39 = hd.heap_39 := by k_fill; exact ⟨rfl, rfl⟩
theorem post_true (ns : List Int) : PySem.Challenge.rw_re0010_01.row.claim.post [ofPy (PyData.list (List.map PyData.int ns))] (WData.bool true) [ofPy (PyData.list (List.map PyData.int ns))] = true := by
  wrow_post
theorem none_raised (ns : List Int) : ∀ cls, PySem.Challenge.rw_re0010_01.row.claim.raises [ofPy (PyData.list (List.map PyData.int ns))] cls = false := by
  refine raisesW_false ?_
  wrow_none_raised
theorem law_all {w : World} {p : Program} {loose : List Str} {mean : ExcName → Option Value} {mg mb : Str → Option Value} {dp un : Nat} {gd : Option (List Code)} {fa ce : Addr} {ccd : Value} {outer : List Env} {A₀ : Around} {base h₀ : Heap} {L : Addr} {s : Shared} {Q : Flow → Shared → Prop} {E : Value → Shared → Prop} {sa : Addr} {svs : List Value} {ns : List Int} {oc : Obj} {rest : List (Addr × Obj)} {mm : Str → Option Value} (B : Below A₀ base outer h₀) (F : Fr h₀ L s.heap mm) (X : (hd.heap_39 w.params).In h₀) (T : Top p loose mean mg mb h₀) (hdp : dp + 50 < recursionLimit) (hun : un + 300 < cLine)
    (hS : h₀.IsList sa svs.toArray) (hi : IntsAre svs ns) (hl : ns.length ≤ 63) (hoc : oc.data = .cell (some (.ref sa))) (CH : CodeHd base 103 99)
    (N : News h₀ L s.heap ((ce, oc) :: (99, tabObj #[]) :: rest)) (h99 : (ce : Nat) ≠ 99 ∧ ∀ q ∈ rest, q.1 ≠ 99)
    (fin : ∀ h' tk' m' tab, Fr h₀ L h' m' → News h₀ L h' [(99, tabObj tab)] → Q (.ret (.bool true)) { s with heap := h', toks := tk' }) :
    wpAny (model PySem.Challenge.pw_re0010_01 w) (ktrTop dp un gd (Str.ofString "law") lawScope L fa ccd [(Str.ofString "script", ce)] outer) (execs (lawBody.drop 0) (lawEnv L fa ccd ce)) Q E s := by
  refine law_A B F X T hdp hun hS hi hl hoc N ?_
  intro ca cvs cs' nc h2 tk2 hic h4 hc F2 N2 hca
  refine law_B B F2 X T hdp hun hic h4 hc N2 ?_
  intro wa wvs nw tm h3 tk3 F3 N3 hW hwa
  have hm := law_math h4 hc
  have hp := pos_le hc
  refine law_C (nc := nc) (nw := nw) (rest := (ce, oc) :: rest) B F3 X T hdp hun hic h4 hc (by omega) hW CH (News.sub N3 ?_) ?_ hm.1 hm.2.1 hm.2.2 fin
  · intro q hq; simp only [List.mem_cons] at hq ⊢; grind
  · intro q hq
    simp only [List.mem_cons] at hq
    rcases hq with rfl | rfl | rfl | hq
    · exact Ne.symm (hwa (99, tabObj #[]) (by simp))
    · exact Ne.symm (hca (99, tabObj #[]) (by simp))
    · exact h99.1
    · exact h99.2 q hq
end
section
open PySem PySem.W PySem.Spec PySem.Calls PyProof.Rows
example : True := by w_top off; trivial
example : PySem.Challenge.rw_re0010_01 = PySem.Challenge.rw_re0010_01 ∧ hd.heap_39 = hd.heap_39 := by k_fill; exact ⟨rfl, rfl⟩
theorem holds : PySem.Challenge.rw_re0010_01.Holds := hd (by
  k_go0
  (all_goals try k_fold)
  (with_reducible rename News _ _ _ _ => kN)
  (with_reducible rename Fr _ _ _ _ => kF)
  (with_reducible rename Below _ _ _ _ => kB)
  (with_reducible rename CodeHd _ _ _ => kC)
  refine law_all kB kF (by k_asm) (by k_asm) ?_ ?_ (by assumption) (by assumption) ?_ ?_ kC kN ?_ ?_
  · decide +kernel
  · decide +kernel
  · (with_reducible rename ¬ (_ < _) => hc9)
    exact Int.ofNat_le.mp (Int.not_lt.mp hc9)
  · (with_reducible rename Obj.data _ = _ => hoc)
    exact hoc
  · (with_reducible rename 99 < _ => h99)
    exact ⟨Nat.ne_of_gt (Nat.lt_succ_of_lt h99), fun q hq => nomatch hq⟩
  · intro h9 tk9 m9 tab9 F9 N9
    clear kN kF
    exact ⟨goodW_bool F9 (by assumption) (none_raised _) (post_true _), ⟨_, (N9 _ (.head _)).1⟩, trivial⟩)
end
end Mine
theorem PySem.Challenge.cw_re0010_01_holds : PySem.Challenge.rw_re0010_01.Holds := by
  exact Mine.holds
