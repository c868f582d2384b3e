import PyProof.Rows.All
import Wide.All
import OpenK.AllK
import Wide.FinOn
import PySem.Challenge.RW_fb0031_01
set_option Elab.async false
set_option maxRecDepth 100000
set_option maxHeartbeats 16000000
section
open PySem PySem.W PyProof.Rows
open_top hd for PySem.Challenge.rw_fb0031_01
end
section
open PySem PySem.W PyProof.Rows PySem.Calls Builtin Builtin.ObjectAttr Builtin.Getset_descriptor
namespace Mine

/-- an object of a class over list -/
abbrev domObj (C dx : Addr) (xs : Array Value) (n : Nat) : Obj := { cls := .ref C, dict := some dx, data := .seq xs n }

def makesInL (K : Frag) (C : Addr) : Bool := match K.lookup C with
  | some ⟨_, _, .cls cd, sl⟩ => !cd.hasDel && (sl.toList[4]?).join == some (.builtin "list.__new__") && !cd.mro.isEmpty && cd.mro.contains (.ref C) && cd.mro.contains (.type "list") &&
      specialIn K (.ref C) "__call__" == some (some (.builtin "type.__call__")) && instIn K (.ref C) (.type "type") == some true
  | _ => false

structure MakesL (M : Model) (h : Heap) (C : Addr) : Prop where
  obj : ∃ oc od cd sl, h.get? C = some ⟨oc, od, .cls cd, sl⟩ ∧ cd.hasDel = false ∧ cd.mro.isEmpty = false
  made : Looks M h (Bind.madeBy (.ref C)) (some "list.__new__")
  base : Looks M h (Bind.staticBase (.ref C)) (.ref C)
  self : Looks M h (isSubtype (.ref C) (.ref C)) true
  top : Looks M h (isSubtype (.ref C) (.type "list")) true
  call : Looks M h (specialOf (.ref C) "__call__") (some (.builtin "type.__call__"))
  typ : Looks M h (isInstance (.ref C) (.type "type")) true

theorem makesL_of {K : Frag} {M : Model} {h : Heap} (X : K.In h) {C : Addr} (e : makesInL K C = true) : MakesL M h C := by
  unfold makesInL at e
  split at e
  · rename_i oc od cd sl ho
    simp only [Bool.and_eq_true, Bool.not_eq_true', beq_iff_eq] at e
    obtain ⟨⟨⟨⟨⟨⟨e2, e3⟩, e4⟩, e5⟩, e6⟩, e7⟩, e8⟩ := e
    have hc : clsIn K C = some cd := by unfold clsIn; rw [ho]
    have hm : Looks M h (mroOf (.ref C)) cd.mro := (looks_clsIn X hc).andThen .now
    obtain ⟨c, l, hl⟩ : ∃ c l, cd.mro = c :: l := by cases q : cd.mro with | nil => rw [q] at e4; cases e4 | cons c l => exact ⟨c, l, rfl⟩
    have made : Looks M h (Bind.madeBy (.ref C)) (some "list.__new__") := by
      intro A Q E s k q
      unfold Bind.madeBy
      refine wpAny_bind (hm A _ E s k ?_)
      rw [hl, List.forIn_cons]
      refine wpAny_bind (wpAny_bind (wpAny_bind (wpAny_bind (wpAny_loadPart (k _ _ (X _ _ ho)) (wpAny_pure ?_)))))
      dsimp only
      rw [← Array.getElem?_toList, e3]
      exact wpAny_pure (wpAny_pure (wpAny_pure q))
    refine ⟨⟨oc, od, cd, sl, X _ _ ho, e2, e4⟩, made, ?_, looks_mroIn X ?_, looks_mroIn X ?_, looks_specialIn X e7, looks_instIn X e8⟩
    · intro A Q E s k q
      unfold Bind.staticBase
      refine wpAny_bind (hm A _ E s k ?_)
      rw [hl, List.forIn_cons]
      exact wpAny_bind (wpAny_bind (wpAny_bind (made A _ E s k (wpAny_pure (wpAny_pure (wpAny_pure q))))))
    · unfold mroIn; rw [hc, Option.bind_some, if_neg (by rw [e4]; decide), e5]
    · unfold mroIn; rw [hc, Option.bind_some, if_neg (by rw [e4]; decide), e6]
  · cases e

section
variable {prog : Program} {w : World} {A : Around} {K : Frag} {C : Addr} {R : Result → Shared → Prop} {h : Heap} {g : Array GenState} {d : Drawn} {t : Nat} {os : OsState}

theorem ln_kind : builtinKind "list.__new__" = some .builtinFn := by decide +kernel
theorem ln_split : splitId "list.__new__" = some ("list", "__new__") := by decide +kernel
theorem ln_args (a : Value) (rest : List Value) (kw : List (Str × Value)) : argsOk "list.__new__" ⟨a :: rest, kw⟩ := by unfold argsOk; kernel_rfl

theorem ln_sig : ∃ sig, Manifest.signature? "list.__new__" = some sig ∧ ∀ (a : Value) (rest : List Value) (kw : List (Str × Value)), Bind.checkArgs "list.__new__" sig ⟨a :: rest, kw⟩ = pure () := by
  have h := ln_args
  unfold argsOk at h
  cases q : Manifest.signature? "list.__new__" with
  | none => exact absurd q (by decide +kernel)
  | some sig => exact ⟨sig, rfl, fun a rest kw => by have := h a rest kw; rw [q] at this; exact this⟩
theorem isType_L {M : Model} {oc : Value} {od : Option Addr} {cd : ClassData} {sl : Array (Option Value)} (hC : h.get? C = some ⟨oc, od, .cls cd, sl⟩) : Looks M h (isType (.ref C)) true := by
  unfold isType loadHead
  exact (Looks.ld hC).andThen .now

theorem check_ln {M : Model} {E : Value → Shared → Prop} {rest : List Value} {kw : List (Str × Value)} {Q : Unit → Shared → Prop} (Y : MakesL M h C) (q : Q () ⟨h, g, d, t, os⟩) :
    wpAny M A (checkBuiltinCall "list.__new__" ⟨.ref C :: rest, kw⟩) Q E ⟨h, g, d, t, os⟩ := by
  obtain ⟨⟨oc, od, cd, sl, hC, e2, e4⟩, made, base, self, top, call, typ⟩ := Y
  have ty := isType_L (M := M) hC
  obtain ⟨sig, hs, ha⟩ := ln_sig
  simp only [checkBuiltinCall, ln_kind, ln_split, hs, ha]
  repeat (first | simp only [bne_self_eq_false, Bool.false_eq_true, if_false] | lk)
  exact q

theorem new_L {rest : List Value} {kw : List (Str × Value)} (Y : MakesL (model prog w) h C)
    (hq : R (.ok (.ret (.ref (h.objs.size + 1)))) ⟨(h.push emptyDict).push (domObj C h.objs.size #[] 0), g, d, t, os⟩) :
    codeAny (model prog w) A (.call (.builtin "list.__new__") ⟨.ref C :: rest, kw⟩) R ⟨h, g, d, t, os⟩ := by
  refine codeAny_call_builtin_code (Code.quiet_builtin _ (by decide +kernel)) (check_ln Y ?_)
  obtain ⟨⟨oc, od, cd, sl, hC, e2, e4⟩, made, base, self, top, call, typ⟩ := Y
  have ty := isType_L (M := model prog w) hC
  refine codeAny_builtin_stack F.entry_list_new rfl fun p st => ?_
  have hown := owner_list_new
  simp only [hown]
  repeat lk
  refine nd_load (Heap.get?_push_of_some _ (Heap.get?_push_of_some _ hC)) ?_
  refine wpAny_pure (wpAny_pure ?_)
  rw [e2]
  refine wpAny_pure (wpAny_pure ?_)
  show R _ _
  rw [Heap.size_push]
  exact hq

theorem make_coreL {rest : List Value} {kw : List (Str × Value)} {init : Value} (Y : MakesL (model prog w) h C) (hi : Looks (model prog w) h (typeLookup (.ref C) "__init__") (some init))
    (hb : ∀ self, Looks (model prog w) h (bindSpecial init self) (init, [self]))
    (hq : codeAny (model prog w) (A.under (.builtin "type.__call__" ⟨.ref C :: rest, kw⟩)) (.call init ⟨.ref (h.objs.size + 1) :: rest, kw⟩) (InitBack (h.objs.size + 1) R) ⟨(h.push emptyDict).push (domObj C h.objs.size #[] 0), g, d, t, os⟩) :
    codeAny (model prog w) A (.call (.ref C) ⟨rest, kw⟩) R ⟨h, g, d, t, os⟩ := by
  have Y' := Y
  obtain ⟨⟨oc, od, cd, sl, hC, e2, e4⟩, made, base, self, top, call, typ⟩ := Y
  refine codeAny_of_tree ?_
  show wpAny _ _ (callAny (.ref C) _) _ _ _
  refine nd_load hC ?_
  show wpAny _ _ (callAny.viaDunder (.ref C) _) _ _ _
  unfold callAny.viaDunder
  refine wpAny_bind (call.at ?_)
  dsimp only
  rw [tc_bind]
  refine wpAny_bind (wpAny_pure (wpAny_bind (wpAny_pure ?_)))
  refine wpAny_pure (a := Fin.again (.call (.builtin "type.__call__") ⟨.ref C :: rest, kw⟩)) (And.intro rfl ?_)
  refine codeAny_call_builtin_at (Code.quiet_builtin _ (by decide +kernel)) entry_typeCall (check_slot tc_kind tc_split typ (tc_args _ _ _) ?_)
  unfold Builtin.«type.__call__»
  have hm : Looks (model prog w) h (mroOf (.ref C)) cd.mro := ((Looks.ld (part := none) hC).andThen .now).andThen .now
  repeat (first | simp only [e4, Bool.false_eq_true, if_false] | with_reducible refine wpAny_call ?_ | lk)
  refine new_L Y' ?_
  have k : ∀ b o, h.get? b = some o → ((h.push emptyDict).push (domObj C h.objs.size #[] 0)).get? b = some o := fun b o e => Heap.get?_push_of_some _ (Heap.get?_push_of_some _ e)
  have hx : ((h.push emptyDict).push (domObj C h.objs.size #[] 0)).get? (h.objs.size + 1) = some (domObj C h.objs.size #[] 0) := by heap_get
  have t1 : Looks (model prog w) ((h.push emptyDict).push (domObj C h.objs.size #[] 0)) (typeOf (.ref (h.objs.size + 1))) (.ref C) := (Looks.ld hx).andThen .now
  have s1 := self.keeps k
  have i1 := hi.keeps k
  have b1 := (hb (.ref (h.objs.size + 1))).keeps k
  unfold isInstance callSpecial? specialOf
  repeat (first | with_reducible refine wpAny_call ?_ | lk)
  refine codeAny_mono hq fun r s' z => ?_
  rcases r with e | (v | _ | _ | _) <;> first | exact z | exact z.elim | skip
  obtain ⟨rfl, z⟩ := z
  exact wpAny_pure (wpAny_pure z)
end

section
variable {prog : Program} {w : World} {A : Around} {E : Value → Shared → Prop} {K : Frag} {C x L : Addr} {s : Shared} {h₀ : Heap} {m : Str → Option Value} {news : List (Addr × Obj)} {Q : Value → Shared → Prop}

theorem call_clsL {pos : List Value} {kw : List (Str × Value)} {fI : Addr} (F : Fr h₀ L s.heap m) (X₀ : K.In h₀) (N : News h₀ L s.heap news) (hm : makesInL K C = true) (hi : findIn K (.ref C) "__init__" = some (some (.ref fI))) (hf : isFn K (.ref fI) = true)
    (h : ∀ x dx h', Fr h₀ L h' m → News h₀ L h' ((x, domObj C dx #[] 0) :: (dx, dictOf [] 0) :: news) → (∀ p ∈ news, p.1 < dx) → dx < x →
      codeAny (model prog w) (A.under (.builtin "type.__call__" ⟨.ref C :: pos, kw⟩)) (.call (.ref fI) ⟨.ref x :: pos, kw⟩) (InitBack x fun r s' => match r with | .ok (.ret v) => Q v s' | .ok _ => False | .error e => E e s') { s with heap := h' }) :
    wpAny (model prog w) A (call (.ref C) pos kw) Q E s := by
  have X := X₀.keeps F.keep
  refine wpAny_call ?_
  obtain ⟨hh, g, d, t, os⟩ := s
  refine make_coreL (makesL_of X hm) (looks_findIn X hi) (fun self => bind_fn X self (beq_iff_eq.mp hf)) (h _ hh.objs.size _ ((F.push _).push _) ?_ (fun p hp => Heap.lt_size (N p hp).1) (Nat.lt_succ_self _))
  have := (N.push F emptyDict).push (F.push _) (domObj C hh.objs.size #[] 0)
  rwa [Heap.size_push] at this
end
end Mine
end
section
open PySem PySem.W PyProof.Rows PySem.Calls Builtin Builtin.ObjectAttr Builtin.Getset_descriptor
namespace Mine

/-- what the written part must say of a class over list whose attributes are read and stored the everyday way -/
def overL (K : Frag) (C : Addr) : Bool := (clsIn K C).any (fun cd => cd.mro == [.ref C, .type "list", .type "object"] && cd.hasDict) &&
  findIn K (.ref C) "__getattribute__" == some (some (.builtin "list.__getattribute__")) && findIn K (.ref C) "__getattr__" == some none &&
  findIn K (.ref C) "__setattr__" == some (some (.builtin "object.__setattr__"))
theorem overL_of {K : Frag} {C : Addr} (e : overL K C = true) : (∃ cd, clsIn K C = some cd ∧ cd.mro = [.ref C, .type "list", .type "object"] ∧ cd.hasDict = true) ∧
    findIn K (.ref C) "__getattribute__" = some (some (.builtin "list.__getattribute__")) ∧ findIn K (.ref C) "__getattr__" = some none ∧
    findIn K (.ref C) "__setattr__" = some (some (.builtin "object.__setattr__")) := by
  simp only [overL, Bool.and_eq_true, beq_iff_eq] at e
  obtain ⟨⟨⟨a, b⟩, c⟩, d⟩ := e
  obtain ⟨cd, hc, hh⟩ := any_some a
  simp only [Bool.and_eq_true, beq_iff_eq] at hh
  exact ⟨⟨cd, hc, hh.1, hh.2⟩, b, c, d⟩
theorem overL_mro {K : Frag} {C : Addr} (e : overL K C = true) {b : Value} (hb : ([.ref C, .type "list", .type "object"] : List Value).contains b = true) : mroIn K C b = some true := by
  obtain ⟨⟨cd, hc, hm, _⟩, _⟩ := overL_of e
  unfold mroIn
  rw [hc, Option.bind_some, hm, if_neg (by simp), hb]
theorem contains3 {C : Addr} {t : Value} (h : t = .type "list" ∨ t = .type "object") : ([.ref C, .type "list", .type "object"] : List Value).contains t = true := by
  rcases h with rfl | rfl <;> simp
theorem overL_mroOf {K : Frag} {C : Addr} {M : Model} {h : Heap} (X : K.In h) (e : overL K C = true) : Looks M h (mroOf (.ref C)) [.ref C, .type "list", .type "object"] := by
  obtain ⟨⟨cd, hc, hm, _⟩, _⟩ := overL_of e
  rw [← hm]
  exact (looks_clsIn X hc).andThen .now

theorem refuse_list (self : Value) (C : Addr) : refuseLoop self "__setattr__" [.ref C, .type "list", .type "object"] = pure () := by
  rw [refuseLoop_ref]
  kernel_rfl

section
variable {prog : Program} {w : World} {A : Around} {E : Value → Shared → Prop} {K : Frag} {C x dx L : Addr} {s : Shared} {h₀ : Heap} {m : Str → Option Value} {news news' : List (Addr × Obj)} {ox od : Obj} {R : Result → Shared → Prop}
  {name : Str} {v : Value} {es es' : List DictEntry} {n n' : Nat}

theorem isList_inst {M : Model} (X : K.In s.heap) (I : InstAt s.heap x ox C (some od)) (ho : overL K C = true) : Looks M s.heap (isInstance (.ref x) (.type "list")) true :=
  I.type.andThen (looks_mroIn X (overL_mro ho (contains3 (.inl rfl))))
theorem isObj_inst {M : Model} (X : K.In s.heap) (I : InstAt s.heap x ox C (some od)) (ho : overL K C = true) : Looks M s.heap (isInstance (.ref x) (.type "object")) true :=
  I.type.andThen (looks_mroIn X (overL_mro ho (contains3 (.inr rfl))))

/-- a store into an attribute of an object of a class over list, into its own dict -/
theorem osa_L {tk : Tok} {pre post : List (Addr × Obj)} (F : Fr h₀ L s.heap m) (X : K.In s.heap) (N : News h₀ L s.heap (pre ++ (dx, dictOf es n) :: post))
    (I : InstAt s.heap x ox C (some (dictOf es n))) (hd : ox.dict = some dx) (ho : overL K C = true) (ha : findIn K (.ref C) name = some none) (hl : (getL name es).isSome = true)
    (h1 : ∀ p ∈ pre, p.1 ≠ dx) (h2 : ∀ p ∈ post, p.1 ≠ dx) (e : (putL name (PyData.keyHash w.params name) (.str name s.toks) v es, putN name es n) = (es', n')) (hz : es'.length ≤ 1000)
    (h : ∀ h', Fr h₀ L h' m → News h₀ L h' (pre ++ (dx, dictOf es' n') :: post) → R (.ok (.ret .none)) { s with heap := h', toks := s.toks + 1 }) :
    codeAny (model prog w) A (.call (.builtin "object.__setattr__") ⟨[.ref x, .str name tk, v], []⟩) R s := by
  have SF := PySem.F.store_object
  obtain ⟨⟨cd, hc, hm, hh⟩, -⟩ := overL_of ho
  obtain ⟨e1, e2⟩ := Prod.mk.inj e
  obtain ⟨U1, U2⟩ := news_upd (f := Obj.putName name (PyData.keyHash w.params name) (.str name s.toks) v) (o' := dictOf es' n') F N h1 h2 (by rw [putName_dict, e1, e2]) rfl
  have D := (N (dx, dictOf es n) (by simp)).1
  have D' := (U2 (dx, dictOf es' n') (by simp)).1
  refine codeAny_call_builtin SF.slot.plain SF.entry (@check_slot (model prog w) _ _ s "object.__setattr__" "object" "__setattr__" (.ref x) [.str name tk, v] [] _ SF.kind SF.split (isObj_inst X I ho) (SF.args (.ref x) (.str name tk) v) ?_)
  rw [osa_eq, refuse_eq]
  refine wpAny_bind (wpAny_bind (I.type.here (wpAny_bind ((overL_mroOf X ho).here ?_))))
  rw [refuse_list]
  refine wpAny_pure (wpAny_bind (I.type.here (wpAny_bind ((looks_findIn X ha).here (wpAny_bind (wpAny_pure ?_))))))
  obtain ⟨hx, hcl, hn, -⟩ := I
  obtain ⟨oc, odi, oda, osl⟩ := ox
  dsimp only at hcl hd
  subst hcl hd
  refine wpAny_bind (wpAny_pure (wpAny_bind (wpAny_bind (wpAny_loadPart hx (wpAny_bind ((looks_clsIn X hc).here ?_))))))
  rw [hh]
  refine wpAny_pure (a := some dx) (wpAny_bind (wpAny_pure (wpAny_bind ?_)))
  unfold nsSet
  refine wpAny_bind (wpAny_bind (wpAny_askSetting (wpAny_pure (wpAny_bind (wpAny_mkText (wpAny_bind (wpAny_loadPart D ?_)))))))
  have c : (!es.toArray.any (·.key.isStr name) && es.toArray.any (·.refKey)) = false := by
    unfold getL at hl
    rw [List.any_toArray, List.any_toArray]
    split at hl
    · rename_i en he
      rw [List.any_eq_true.mpr ⟨en, List.mem_of_find?_eq_some he, List.find?_some he⟩]; rfl
    · split at hl
      · cases hl
      · rename_i z; rw [Bool.not_eq_true] at z; rw [z, Bool.and_false]
  dsimp only
  rw [aRefKeyMayBeTheName_at, c]
  refine wpAny_updatePart D ?_
  refine wpAny_bind (wpAny_lookBehind D' (pastItsLine_dict (by rw [List.size_toArray, sizeLine_eq]; omega)) ?_)
  exact wpAny_pure (h _ U1 U2)

theorem set_L {Q : Unit → Shared → Prop} (F : Fr h₀ L s.heap m) (X₀ : K.In h₀) (N : News h₀ L s.heap news) (I : InstAt s.heap x ox C (some (dictOf es n))) (hd : ox.dict = some dx)
    (ho : overL K C = true) (ha : findIn K (.ref C) name = some none) (hl : (getL name es).isSome = true)
    (e : (putL name (PyData.keyHash w.params name) (.str name (s.toks + 1)) v es, putN name es n) = (es', n')) (U : Upd dx (dictOf es n) (dictOf es' n') news news') (hz : es'.length ≤ 1000)
    (h : ∀ h', Fr h₀ L h' m → News h₀ L h' news' → Q () { s with heap := h', toks := s.toks + 2 }) :
    wpAny (model prog w) A (setAttr (.ref x) name v) Q E s := by
  obtain ⟨pre, post, rfl, rfl, a, b⟩ := U.split
  exact set_plain (X₀.keeps F.keep) I (overL_of ho).2.2.2 (osa_L (s := { s with toks := s.toks + 1 }) F (X₀.keeps F.keep) N I hd ho ha hl a b e hz fun h' F' N' => h h' F' N')

/-- an attribute of the object's own dict is read -/
theorem get_L {expr : Bool} {Q : Value → Shared → Prop} {od : Option Obj} (X : K.In s.heap) (I : InstAt s.heap x ox C od) (ho : overL K C = true) (hf : findObj K C od name = some (.value v)) (hh : handedIn v = true)
    (h : Q v { s with toks := s.toks + 1 }) : wpAny (model prog w) A (getAttr (.ref x) name expr) Q E s := by
  obtain ⟨-, hga, hk, -⟩ := overL_of ho
  refine wpAny_bind (wpAny_mkText (wpAny_holding (wpAny_bind (I.type _ _ _ _ (fun _ _ e => e) (wpAny_bind (looks_findIn X hga _ _ _ _ (fun _ _ e => e) ?_))))))
  dsimp only
  rw [show (onTheHeap (Value.ref C) && Value.builtin "list.__getattribute__" == Value.builtin "object.__getattribute__") = false from by rw [show (Value.builtin "list.__getattribute__" == Value.builtin "object.__getattribute__") = false from by decide +kernel, Bool.and_false], if_neg (by decide)]
  refine wpAny_bind ((show Looks (model prog w) s.heap (hookBefore (.ref C)) none from looks_findIn X hk) _ _ _ _ (fun _ _ e => e) (wpAny_bind (wpAny_attempt (wpAny_holding ?_))))
  unfold callGetattribute
  rw [show (expr && onTheHeap (Value.builtin "list.__getattribute__")) = false from Bool.and_false _, if_neg (by decide)]
  unfold boundAndCalled
  rw [F.slot_list_getattribute.bind]
  refine wpAny_bind (wpAny_pure ?_)
  show wpAny _ _ (call (.builtin "list.__getattribute__") [.ref x, .str name s.toks]) _ _ _
  refine wpAny_call ?_
  have isl : Looks (model prog w) s.heap (isInstance (.ref x) (.type "list")) true := I.type.andThen (looks_mroIn X (overL_mro ho (contains3 (.inl rfl))))
  refine codeAny_call_builtin F.slot_list_getattribute.plain F.entry_list_ga ?_
  refine @check_slot (model prog w) _ _ { s with toks := s.toks + 1 } "list.__getattribute__" "list" "__getattribute__" (.ref x) [.str name s.toks] [] _ (by decide +kernel) (by decide +kernel) isl (F.args_list_getattribute_2 (.ref x) (.str name s.toks)) ?_
  unfold Builtin.«object.__getattribute__»
  refine wpAny_bind (m := slotArgs "__getattribute__" 1 _) (wpAny_pure ?_)
  refine wpAny_bind (m := attrName _) (wpAny_pure ?_)
  refine wpAny_bind (I.type _ _ _ _ (fun _ _ e => e) ?_)
  refine wpAny_bind (looks_find X I hf _ _ _ _ (fun _ _ e => e) ?_)
  refine wpAny_pure ?_
  show wpAny _ _ (handedOut v) _ _ _
  rw [handedOut_of hh]
  exact wpAny_pure h

theorem getown_L {expr : Bool} {Q : Value → Shared → Prop} (F : Fr h₀ L s.heap m) (X₀ : K.In h₀) (I : InstAt s.heap x ox C (some (dictOf es n))) (ho : overL K C = true) (ha : findIn K (.ref C) name = some none)
    (hl : getL name es = some (some v)) (hv : handedIn v = true) (h : Q v { s with toks := s.toks + 1 }) :
    wpAny (model prog w) A (getAttr (.ref x) name expr) Q E s :=
  get_L (X₀.keeps F.keep) I ho (findObj_own (by obtain ⟨⟨cd, hc, _, hh⟩, _⟩ := overL_of ho; unfold hasDictIn; rw [hc]; exact hh) ha rfl hl) hv h

theorem canon_list_ga : (Manifest.canonical "list.__getattribute__" != "object.__getattribute__") = false := by decide +kernel

/-- a method of the class (a def, or one of list's own) is met on the object -/
theorem meth_L {pl : Sem Bool} {Q : Value × List Value → Shared → Prop} {f : Value} {tf : Value} (F : Fr h₀ L s.heap m) (X₀ : K.In h₀) (I : InstAt s.heap x ox C (some (dictOf es n))) (ho : overL K C = true)
    (hf : findIn K (.ref C) name = some (some f)) (ht : typeIn K f = some tf) (hk : (tf != .type "function" && tf != .type "method_descriptor" && tf != .type "wrapper_descriptor") = false)
    (hl : getL name es = some none) (h : Q (f, [.ref x]) s) : wpAny (model prog w) A (getMethod (.ref x) name pl) Q E s := by
  have X := X₀.keeps F.keep
  obtain ⟨-, hga, hg, -⟩ := overL_of ho
  unfold getMethod specialOf
  refine wpAny_bind (wpAny_bind (I.type.here ((looks_findIn X hga).here ?_)))
  dsimp only
  rw [canon_list_ga, if_neg (by decide)]
  refine wpAny_bind (wpAny_bind (I.type.here ((looks_findIn X hg).here ?_)))
  refine wpAny_bind (wpAny_bind (I.type.here ((looks_findIn X hf).here (wpAny_bind ((looks_typeIn X ht).here ?_)))))
  rw [hk]
  simp only [Bool.false_eq_true, if_false]
  refine wpAny_bind (wpAny_loadPart I.at_ ?_)
  have hd := I.dict
  cases e : ox.dict with
  | none => exact wpAny_bind (wpAny_rule (wpAny_pure h))
  | some dx =>
    rw [e] at hd
    refine wpAny_bind (wpAny_bind (wpAny_loadPart hd ?_))
    rw [nsLook_of (r := none) (by rw [lookIn_dict]; exact hl)]
    exact wpAny_pure (wpAny_bind (wpAny_rule (wpAny_pure h)))
end
end Mine
end
section
open PySem PySem.W PyProof.Rows PySem.Calls
open PySem.MeetsSeq (EqGives)
open PySem.AutoSeq1 (wpAny_loadPart')
namespace Mine

/-- a sequence object of any class -/
abbrev sq (c : Value) (dd : Option Addr) (sl : Array (Option Value)) (xs : Array Value) (n : Nat) : Obj := { cls := c, dict := dd, data := .seq xs n, slots := sl }

section
variable {c : Value} {dd : Option Addr} {sl : Array (Option Value)}

theorem sq_update {h : Heap} {l : Addr} {items : Array Value} {n : Nat} (hl : h.get? l = some (sq c dd sl items n)) (f : Array Value → Array Value) :
    (h.update l (Obj.mapSeq f)).get? l = some (sq c dd sl (f items) (if (f items).size == items.size then n else n + 1)) := Heap.get?_update_self _ hl rfl

theorem rm_loop (l : Addr) (items : Array Value) (n : Nat) (x : Value) (e : Value → Bool) (he : ∀ y, y ∈ items → EqGives y x (e y)) (j : Nat) (hj : j < items.size) (hit : e items[j] = true) (hs1 : items.size ≤ sizeLine) :
    ∀ k i : Nat, j - i = k → i ≤ j → (∀ m (hm : m < items.size), i ≤ m → m < j → e items[m] = false) → Meets (Builtin.«list.remove.loop» ⟨[.ref l, x, rawInt i], []⟩)
      (fun _ R s => s.heap.get? l = some (sq c dd sl items n) ∧ R (.ok (.ret .none)) { s with heap := s.heap.update l (Obj.mapSeq fun xs => xs.eraseIdxIfInBounds j) }) := by
  intro k
  induction k with
  | zero =>
    intro i hk hij hno prog w A R s h
    obtain ⟨hp, g, d, tk, os⟩ := s; obtain ⟨hl, h⟩ := h
    have hij' : i = j := by omega
    subst hij'
    wp_walk using wpAny_loadPart' hl
    have hi : items[((i : Nat) : Int).toNat]? = some items[i] := by simp [hj]
    rw [hi]
    refine wpAny_bind (he _ (Array.getElem_mem hj) prog w _ _ _ _ ?_)
    rw [hit]
    have hz' : (items.eraseIdxIfInBounds i).size ≤ sizeLine + 1 := Nat.le_trans (MeetsSeq.size_erased items _) (Nat.le_succ_of_le hs1)
    wp_walk using (wpAny_updateSeq hl rfl (hz := hs1) (_hz' := hz')), wpAny_loadPart' hl
    simpa using h
  | succ k ih =>
    intro i hk hij hno prog w A R s h
    obtain ⟨hp, g, d, tk, os⟩ := s; obtain ⟨hl, h⟩ := h
    have hlt : i < items.size := by omega
    wp_walk using wpAny_loadPart' hl
    have hi : items[((i : Nat) : Int).toNat]? = some items[i] := by simp [hlt]
    have hc : ((i : Int) + 1) = ((i + 1 : Nat) : Int) := by push_cast; rfl
    rw [hi]
    refine wpAny_bind (he _ (Array.getElem_mem hlt) prog w _ _ _ _ ?_)
    rw [hno i hlt (Nat.le_refl _) (by omega)]
    wp_walk
    rw [hc]
    exact ⟨plainId_quiet MeetsSeq.plain_remove_loop _, codeAny_builtin MeetsSeq.entry_remove_loop (by
      rw [Around.under_plainId MeetsSeq.plain_remove_loop _]
      exact ih (i + 1) (by omega) (by omega) (fun m hm h1 h2 => hno m hm (by omega) h2) prog w A R _ ⟨hl, h⟩)⟩

theorem rm_list (l : Addr) (items : Array Value) (n : Nat) (x : Value) (e : Value → Bool) (he : ∀ y, y ∈ items → EqGives y x (e y)) (j : Nat) (hj : j < items.size)
    (hit : e items[j] = true) (hno : ∀ m (hm : m < items.size), m < j → e items[m] = false) (hs1 : items.size ≤ sizeLine) :
    Meets (Builtin.«list.remove» ⟨[.ref l, x], []⟩)
      (fun _ R s => s.heap.get? l = some (sq c dd sl items n) ∧ R (.ok (.ret .none)) { s with heap := s.heap.update l (Obj.mapSeq fun xs => xs.eraseIdxIfInBounds j) }) := by
  intro prog w A R s h
  obtain ⟨hp, g, d, tk, os⟩ := s; obtain ⟨hl, h⟩ := h
  wp_walk using wpAny_loadPart' hl
  exact ⟨plainId_quiet MeetsSeq.plain_remove_loop _, codeAny_builtin MeetsSeq.entry_remove_loop (by
    rw [Around.under_plainId MeetsSeq.plain_remove_loop _]
    exact rm_loop l items n x e he j hj hit hs1 _ 0 rfl (Nat.zero_le _) (fun m hm _ h2 => hno m hm h2) prog w A R _ ⟨hl, h⟩)⟩

theorem rm_loop_none (l : Addr) (items : Array Value) (n : Nat) (x : Value) (e : Value → Bool) (he : ∀ y, y ∈ items → EqGives y x (e y)) (hno : ∀ m (hm : m < items.size), e items[m] = false) :
    ∀ k i : Nat, items.size - i = k → Meets (Builtin.«list.remove.loop» ⟨[.ref l, x, rawInt i], []⟩)
      (fun A R s => s.heap.get? l = some (sq c dd sl items n) ∧ raisesNew "ValueError" A R s) := by
  intro k
  induction k with
  | zero =>
    intro i hk prog w A R s h
    obtain ⟨hp, g, d, tk, os⟩ := s; obtain ⟨hl, h⟩ := h
    wp_walk using wpAny_loadPart' hl
    have hi : items[((i : Nat) : Int).toNat]? = none := by simp; omega
    rw [hi]
    wp_walk
    exact_raiseError plainExc_ValueError h.1 h.2
  | succ k ih =>
    intro i hk prog w A R s h
    obtain ⟨hp, g, d, tk, os⟩ := s; obtain ⟨hl, h⟩ := h
    have hlt : i < items.size := by omega
    wp_walk using wpAny_loadPart' hl
    have hi : items[((i : Nat) : Int).toNat]? = some items[i] := by simp [hlt]
    have hc : ((i : Int) + 1) = ((i + 1 : Nat) : Int) := by push_cast; rfl
    rw [hi]
    refine wpAny_bind (he _ (Array.getElem_mem hlt) prog w _ _ _ _ ?_)
    rw [hno i hlt]
    wp_walk
    rw [hc]
    exact ⟨plainId_quiet MeetsSeq.plain_remove_loop _, codeAny_builtin MeetsSeq.entry_remove_loop (by
      rw [Around.under_plainId MeetsSeq.plain_remove_loop _]
      exact ih (i + 1) (by omega) prog w A R _ ⟨hl, h⟩)⟩

theorem rm_list_none (l : Addr) (items : Array Value) (n : Nat) (x : Value) (e : Value → Bool) (he : ∀ y, y ∈ items → EqGives y x (e y)) (hno : ∀ m (hm : m < items.size), e items[m] = false) :
    Meets (Builtin.«list.remove» ⟨[.ref l, x], []⟩)
      (fun A R s => s.heap.get? l = some (sq c dd sl items n) ∧ raisesNew "ValueError" A R s) := by
  intro prog w A R s h
  obtain ⟨hp, g, d, tk, os⟩ := s; obtain ⟨hl, h⟩ := h
  wp_walk using wpAny_loadPart' hl
  exact ⟨plainId_quiet MeetsSeq.plain_remove_loop _, codeAny_builtin MeetsSeq.entry_remove_loop (by
    rw [Around.under_plainId MeetsSeq.plain_remove_loop _]
    exact rm_loop_none l items n x e he hno _ 0 rfl prog w A R _ ⟨hl, h⟩)⟩

/-- list.extend, list.__init__ upon a sequence object, by a plain list -/
theorem ext_with {prog : Program} {w : World} {A : Around} {E : Value → Shared → Prop} {s : Shared} {l k : Addr} {items ys : Array Value} {n : Nat} {res : Value} {Q : Fin → Shared → Prop}
    (hl : s.heap.get? l = some (sq c dd sl items n)) (hk : s.heap.IsList k ys) (hz : items.size + ys.size ≤ sizeLine)
    (h : Q (.done (.ret res)) { s with heap := s.heap.update l (Obj.mapSeq (· ++ ys)) }) :
    wpAny (model prog w) A (Builtin.List.listExtendWith (.ref l) (.ref k) res) Q E s := by
  obtain ⟨o, ho, hc, e, hd⟩ := hk
  unfold Builtin.List.listExtendWith
  refine wpAny_bind (wpAny_typeOf (T := "list") ⟨o, ho, hc⟩ ?_)
  have ht : (Value.type "list" == Value.type "list") = true := by rfl
  rw [if_pos (by rw [ht]; simp)]
  refine wpAny_bind (listItems_at ho hd ?_)
  refine wpAny_bind (listItems_at hl rfl ?_)
  have hbig : ¬ (!items.isEmpty && Builtin.List.listTooLong (items.size + ys.size)) = true := by
    have : Builtin.List.listTooLong (items.size + ys.size) = false := by
      unfold Builtin.List.listTooLong
      exact decide_eq_false (by omega)
    rw [this, Bool.and_false]; decide
  rw [if_neg hbig]
  refine wpAny_bind (listUpdate_at hl rfl ?_ (by omega) (by rw [Array.size_append]; omega))
  exact wpAny_pure h

theorem init_with {prog : Program} {w : World} {A : Around} {E : Value → Shared → Prop} {s : Shared} {l k : Addr} {ys : Array Value} {n : Nat} {Q : Fin → Shared → Prop}
    (hl : s.heap.get? l = some (sq c dd sl #[] n)) (hk : s.heap.IsList k ys) (hne : k ≠ l) (hz : ys.size ≤ sizeLine)
    (h : ∀ h', Heap.SameBut l s.heap h' → (∃ n', h'.get? l = some (sq c dd sl ys n')) → Q (.done (.ret .none)) { s with heap := h' }) :
    wpAny (model prog w) A (Builtin.«list.__init__» ⟨[.ref l, .ref k], []⟩) Q E s := by
  have e : Builtin.«list.__init__» ⟨[.ref l, .ref k], []⟩ = (do
      let old ← Builtin.List.listItems (.ref l)
      Builtin.List.listUpdate (.ref l) (fun _ => #[])
      letGo old.toList.reverse
      Builtin.List.listExtendWith (.ref l) (.ref k) .none) := rfl
  rw [e]
  refine wpAny_bind (listItems_at hl rfl ?_)
  refine wpAny_bind (listUpdate_at hl rfl ?_ (Nat.zero_le _) (Nat.zero_le _))
  refine wpAny_bind (wpAny_letGo ?_)
  have hl2 := sq_update hl (fun _ => #[])
  have hk2 : (s.heap.update l (Obj.mapSeq fun _ => #[])).IsList k ys := by
    obtain ⟨o, ho, r⟩ := hk
    exact ⟨o, (Heap.get?_update_other _ _ (Ne.symm hne)).trans ho, r⟩
  refine ext_with (s := { s with heap := s.heap.update l (Obj.mapSeq fun _ => #[]) }) hl2 hk2 (by simpa using hz) (h _ ((Heap.SameBut.update ..).trans (Heap.SameBut.update ..)) ?_)
  have := sq_update hl2 (· ++ ys)
  rw [Array.empty_append] at this
  exact ⟨_, this⟩
end
end Mine
end
section
open PySem PySem.W PyProof.Rows PySem.Calls
open PySem.MeetsSeq (EqGives)
namespace Mine

/-! ints of a list, plain facts -/
def isV (k : Int) : Value → Bool
  | .int a _ => a == k
  | _ => false
theorem isV_gives {k : Int} {t : Tok} {xs : List Value} {ds : List Int} (hI : IntsAre xs ds) : ∀ y, y ∈ xs.toArray → EqGives y (.int k t) (isV k y) := fun y hy => by
  obtain ⟨n, u, rfl⟩ := hI.all y (by simpa using hy)
  exact EqGives.int n k u t
theorem isV_at {k : Int} : ∀ {xs : List Value} {ds : List Int}, IntsAre xs ds → ∀ i (hi : i < xs.length) (hj : i < ds.length), isV k xs[i] = (ds[i] == k)
  | _, _, .cons n t h, 0, _, _ => rfl
  | _, _, .cons n t h, i + 1, hi, hj => isV_at h i (Nat.lt_of_succ_lt_succ hi) (Nat.lt_of_succ_lt_succ hj)
theorem ints_erase : ∀ {xs : List Value} {ds : List Int}, IntsAre xs ds → ∀ i, IntsAre (xs.eraseIdx i) (ds.eraseIdx i)
  | _, _, .nil, _ => .nil
  | _, _, .cons n t h, 0 => h
  | _, _, .cons n t h, i + 1 => .cons n t (ints_erase h i)
theorem ints_split {p : List Int} {y : Int} : ∀ {xs : List Value}, IntsAre xs (p ++ [y]) → ∃ q t, xs = q ++ [.int y t] ∧ IntsAre q p := by
  induction p with
  | nil =>
    intro xs h
    obtain ⟨t, v, rfl, h'⟩ := IntsAre.cons_inv h
    obtain rfl := IntsAre.nil_inv h'
    exact ⟨[], t, rfl, .nil⟩
  | cons a p ih =>
    intro xs h
    obtain ⟨t, v, rfl, h'⟩ := IntsAre.cons_inv h
    obtain ⟨q, u, rfl, h''⟩ := ih h'
    exact ⟨.int a t :: q, u, rfl, .cons a t h''⟩

section
variable {prog : Program} {w : World} {A : Around} {E : Value → Shared → Prop} {K : Frag} {C x dx L l k : Addr} {s : Shared} {h₀ : Heap} {m : Str → Option Value} {news : List (Addr × Obj)} {g : Obj → List (Addr × Obj)}
  {c : Value} {dd : Option Addr} {sl : Array (Option Value)} {xs ys vs : List Value} {ds es ns : List Int} {n : Nat} {o : Obj}

theorem upd_at (F : Fr h₀ L s.heap m) (N : News h₀ L s.heap news) (U : UpdF l o news g) {h' : Heap} {o' : Obj} (hs : Heap.SameBut l s.heap h') (ho : h'.get? l = some o') : Fr h₀ L h' m ∧ News h₀ L h' (g o') := by
  obtain ⟨pre, post, rfl, hg, a, b⟩ := U.split
  have z := N (l, o) (List.mem_append.mpr (.inr (.head _)))
  rw [hg]
  exact ⟨F.change hs z.2.1 z.2.2, news_set N a b hs ho⟩
theorem upd_get (N : News h₀ L s.heap news) (U : UpdF l o news g) : s.heap.get? l = some o := by
  obtain ⟨pre, post, rfl, -, -, -⟩ := U.split
  exact (N (l, o) (List.mem_append.mpr (.inr (.head _)))).1
theorem upd_seq (F : Fr h₀ L s.heap m) (N : News h₀ L s.heap news) (U : UpdF l (sq c dd sl xs.toArray n) news g) (f : Array Value → Array Value) (hf : f xs.toArray = ys.toArray) :
    ∃ n', Fr h₀ L (s.heap.update l (Obj.mapSeq f)) m ∧ News h₀ L (s.heap.update l (Obj.mapSeq f)) (g (sq c dd sl ys.toArray n')) := by
  have := sq_update (upd_get N U) f
  rw [hf] at this
  exact ⟨_, upd_at F N U (Heap.SameBut.update ..) this⟩

/-- a method of list's upon an object that is a list -/
theorem call_lm {i nm : String} {b : Builtin} {rest : List Value} {Q : Value → Shared → Prop} (hk : builtinKind i = some .method) (hs : splitId i = some ("list", nm)) (plain : plainId i = true) (entry : entryFor table i = some b)
    (ha : argsOk i ⟨.ref l :: rest, []⟩) (hi : Looks (model prog w) s.heap (isInstance (.ref l) (.type "list")) true) {S : PySem.Spec} (g : Meets (b ⟨.ref l :: rest, []⟩) S) (h : S A (wants Q E) s) :
    wpAny (model prog w) A (call (.builtin i) (.ref l :: rest)) Q E s := by
  refine wpAny_call (codeAny_call_builtin plain entry ?_)
  have key := g prog w A (wants Q E) s h
  simp only [checkBuiltinCall, hk, hs]
  refine wpAny_bind (hi.here ?_)
  simp only [Bool.not_true, Bool.false_eq_true, if_false]
  cases hsig : Manifest.signature? i with
  | none => exact wpAny_pure key
  | some sig =>
    simp only [argsOk, hsig] at ha
    have h2 : Bind.checkArgs i sig ⟨.ref l :: rest, []⟩ = pure () := ha
    show wpAny _ _ (Bind.checkArgs i sig ⟨.ref l :: rest, []⟩) _ _ s
    rw [h2]; exact wpAny_pure key

theorem isl_plain {h : Heap} {M : Model} (ho : h.get? l = some (listOf xs.toArray n)) : Looks M h (isInstance (.ref l) (.type "list")) true :=
  ((Looks.ld ho).andThen .now).andThen (Looks.of_pure sub_list_self)

theorem rm_kind : builtinKind "list.remove" = some .method := by decide +kernel
theorem rm_split : splitId "list.remove" = some ("list", "remove") := by decide +kernel
theorem ex_kind : builtinKind "list.extend" = some .method := by decide +kernel
theorem ex_split : splitId "list.extend" = some ("list", "extend") := by decide +kernel
theorem ex_args (a b : Value) : argsOk "list.extend" ⟨[a, b], []⟩ := by unfold argsOk; kernel_rfl
theorem ex_entry : entryFor table "list.extend" = some Builtin.«list.extend» := entryFor_of_fast (by kernel_rfl)
theorem ex_plain : plainId "list.extend" = true := by decide +kernel

theorem remove_in {v : Int} {t : Tok} {Q : Value → Shared → Prop} (hi : Looks (model prog w) s.heap (isInstance (.ref l) (.type "list")) true) (F : Fr h₀ L s.heap m) (N : News h₀ L s.heap news) (U : UpdF l (sq c dd sl xs.toArray n) news g)
    (hI : IntsAre xs ds) (hz : ds.length ≤ 1000) (hv : v ∈ ds)
    (h : ∀ h' xs' n', IntsAre xs' (ds.erase v) → Fr h₀ L h' m → News h₀ L h' (g (sq c dd sl xs'.toArray n')) → Q .none { s with heap := h' }) :
    wpAny (model prog w) A (call (.builtin "list.remove") [.ref l, .int v t]) Q E s := by
  have hlen := hI.length
  have hj : ds.idxOf v < ds.length := List.idxOf_lt_length_iff.mpr hv
  have hs1 : xs.toArray.size ≤ sizeLine := by rw [List.size_toArray, sizeLine_eq]; omega
  refine call_lm rm_kind rm_split PySem.F.slot_list_remove.plain PySem.F.entry_list_remove (PySem.F.args_list_remove_2 _ _) hi
    (rm_list (c := c) (dd := dd) (sl := sl) l xs.toArray n (.int v t) (isV v) (isV_gives hI) (ds.idxOf v) (by rw [List.size_toArray]; omega) ?_ ?_ hs1) ⟨upd_get N U, ?_⟩
  · have := isV_at (k := v) hI (ds.idxOf v) (by omega) hj
    simp only [List.getElem_toArray, this, List.getElem_idxOf, beq_self_eq_true]
  · intro i hi hij
    have hi' : i < ds.length := by omega
    have := isV_at (k := v) hI i (by omega) hi'
    simp only [List.getElem_toArray, this]
    exact List.not_of_lt_findIdx hij
  · obtain ⟨n', F', N'⟩ := upd_seq (ys := xs.eraseIdx (ds.idxOf v)) F N U (fun xs => xs.eraseIdxIfInBounds (ds.idxOf v)) (by apply Array.toList_inj.mp; simp [Array.toList_eraseIdxIfInBounds])
    refine h _ _ n' ?_ F' N'
    rw [List.erase_eq_eraseIdx_of_idxOf rfl]
    exact ints_erase hI _

theorem remove_out {v : Int} {t : Tok} {Q : Value → Shared → Prop} (hi : Looks (model prog w) s.heap (isInstance (.ref l) (.type "list")) true) (ho : s.heap.get? l = some (sq c dd sl xs.toArray n)) (hh : A.handled = none)
    (hI : IntsAre xs ds) (hv : v ∉ ds)
    (h : ∀ h' tk e, Heap.NewExc s.heap h' e "ValueError" → E (.ref e) { s with heap := h', toks := tk }) :
    wpAny (model prog w) A (call (.builtin "list.remove") [.ref l, .int v t]) Q E s := by
  have hlen := hI.length
  refine call_lm rm_kind rm_split PySem.F.slot_list_remove.plain PySem.F.entry_list_remove (PySem.F.args_list_remove_2 _ _) hi
    (rm_list_none (c := c) (dd := dd) (sl := sl) l xs.toArray n (.int v t) (isV v) (isV_gives hI) ?_) ⟨ho, hh, h⟩
  intro i hi
  have hi' : i < ds.length := by rw [List.size_toArray] at hi; omega
  have := isV_at (k := v) hI i (by omega) hi'
  simp only [List.getElem_toArray, this, beq_eq_false_iff_ne]
  exact fun e => hv (e ▸ List.getElem_mem hi')

theorem meets_extend {ys : Array Value} {items : Array Value} (hz : items.size + ys.size ≤ sizeLine) :
    Meets (Builtin.«list.extend» ⟨[.ref l, .ref k], []⟩) (fun _ R s => s.heap.get? l = some (sq c dd sl items n) ∧ s.heap.IsList k ys ∧ R (.ok (.ret .none)) { s with heap := s.heap.update l (Obj.mapSeq (· ++ ys)) }) := by
  rintro prog w A R s ⟨hl, hk, h⟩
  show wpAny _ _ (Builtin.List.listExtendWith (.ref l) (.ref k) .none) _ _ s
  exact ext_with hl hk hz h

theorem extend_by {Q : Value → Shared → Prop} (hi : Looks (model prog w) s.heap (isInstance (.ref l) (.type "list")) true) (F : Fr h₀ L s.heap m) (N : News h₀ L s.heap news) (U : UpdF l (sq c dd sl xs.toArray n) news g)
    (hk : s.heap.IsList k ys.toArray) (hI : IntsAre xs ds) (hJ : IntsAre ys es) (hz : ds.length + es.length ≤ 1000)
    (h : ∀ h' xs' n', IntsAre xs' (ds ++ es) → Fr h₀ L h' m → News h₀ L h' (g (sq c dd sl xs'.toArray n')) → Q .none { s with heap := h' }) :
    wpAny (model prog w) A (call (.builtin "list.extend") [.ref l, .ref k]) Q E s := by
  have h1 := hI.length
  have h2 := hJ.length
  refine call_lm ex_kind ex_split ex_plain ex_entry (ex_args _ _) hi (meets_extend (l := l) (k := k) (c := c) (dd := dd) (sl := sl) (n := n) (ys := ys.toArray) (items := xs.toArray) (by rw [List.size_toArray, List.size_toArray, sizeLine_eq]; omega)) ⟨upd_get N U, hk, ?_⟩
  obtain ⟨n', F', N'⟩ := upd_seq (ys := xs ++ ys) F N U (· ++ ys.toArray) (by simp)
  exact h _ _ n' (hI.append hJ) F' N'

/-- list.__init__ called with an object of a class over list and a plain list -/
theorem li_kind : builtinKind "list.__init__" = some .slot := by decide +kernel
theorem li_split : splitId "list.__init__" = some ("list", "__init__") := by decide +kernel
theorem init_by {Q : Value → Shared → Prop} (hi : Looks (model prog w) s.heap (isInstance (.ref l) (.type "list")) true) (F : Fr h₀ L s.heap m) (N : News h₀ L s.heap news) (U : UpdF l (sq c dd sl #[] n) news g)
    (hk : s.heap.IsList k ys.toArray) (hne : k ≠ l) (hz : ys.length ≤ 1000)
    (h : ∀ h' n', Fr h₀ L h' m → News h₀ L h' (g (sq c dd sl ys.toArray n')) → Q .none { s with heap := h' }) :
    wpAny (model prog w) A (call (.builtin "list.__init__") [.ref l, .ref k]) Q E s := by
  refine wpAny_call (codeAny_call_builtin PySem.F.slot_list_init.plain PySem.F.entry_list_init ?_)
  refine @check_slot (model prog w) _ _ s "list.__init__" "list" "__init__" (.ref l) [.ref k] [] _ li_kind li_split hi (PySem.F.args_list_init_2 _ _) ?_
  refine init_with (c := c) (dd := dd) (sl := sl) (upd_get N U) hk hne (by rw [List.size_toArray, sizeLine_eq]; omega) fun h' hs ⟨n', ho⟩ => ?_
  obtain ⟨F', N'⟩ := upd_at F N U hs ho
  exact h h' n' F' N'
end
end Mine
end
section
open PySem PySem.W PyProof.Rows PySem.Calls
namespace Mine
section
variable {prog : Program} {w : World} {A : Around} {E : Value → Shared → Prop} {K : Frag} {C x dx L l k : Addr} {s : Shared} {h₀ h : Heap} {m : Str → Option Value} {news : List (Addr × Obj)} {g : Obj → List (Addr × Obj)}
  {xs ys vs : List Value} {ds es ns : List Int} {n : Nat} {o od : Obj}

theorem inst_dom {a : Array Value} (N : News h₀ L h news) (h1 : (x, domObj C dx a n) ∈ news) (h2 : (dx, od) ∈ news) : InstAt h x (domObj C dx a n) C (some od) :=
  ⟨(N _ h1).1, rfl, rfl, (N _ h2).1⟩
theorem isl_dom {M : Model} {a : Array Value} (F : Fr h₀ L h m) (X₀ : K.In h₀) (N : News h₀ L h news) (h1 : (x, domObj C dx a n) ∈ news) (h2 : (dx, od) ∈ news) (ho : overL K C = true) : Looks M h (isInstance (.ref x) (.type "list")) true :=
  (inst_dom N h1 h2).type.andThen (looks_mroIn (X₀.keeps F.keep) (overL_mro ho (contains3 (.inl rfl))))

theorem dom_init {Q : Value → Shared → Prop} (F : Fr h₀ L s.heap m) (X₀ : K.In h₀) (N : News h₀ L s.heap news) (h1 : (x, domObj C dx #[] n) ∈ news) (h2 : (dx, od) ∈ news) (ho : overL K C = true) (U : UpdF x (domObj C dx #[] n) news g)
    (hk : (k, listOf ys.toArray l) ∈ news) (hne : k ≠ x) (hz : ys.length ≤ 1000)
    (h : ∀ h' n', Fr h₀ L h' m → News h₀ L h' (g (domObj C dx ys.toArray n')) → Q .none { s with heap := h' }) :
    wpAny (model prog w) A (call (.builtin "list.__init__") [.ref x, .ref k]) Q E s :=
  init_by (isl_dom F X₀ N h1 h2 ho) F N U ⟨_, (N _ hk).1, rfl, _, rfl⟩ hne hz h
end
end Mine
end
section
open PySem PySem.W PyProof.Rows PySem.Calls
namespace Mine

/-- the items of a sequence object, of whatever class -/
def IsSeq (h : Heap) (a : Addr) (items : Array Value) : Prop := ∃ o, h.get? a = some o ∧ ∃ n, o.data = .seq items n
theorem IsSeq.keeps {h h' : Heap} {a : Addr} {items : Array Value} (x : IsSeq h a items) (k : ∀ o, h.get? a = some o → h'.get? a = some o) : IsSeq h' a items :=
  let ⟨o, ho, r⟩ := x; ⟨o, k o ho, r⟩

section
variable {prog : Program} {w : World} {A : Around} {E : Value → Shared → Prop} {s : Shared}

/-- the front of a turn of a list's iterator, over any sequence object -/
theorem next_front {it l : Addr} {i : Nat} {items : Array Value} {o : Obj} {Q : Fin → Shared → Prop} (ho : s.heap.get? it = some o) (hd : o.data = .fields #[.ref l, .int i 0]) (hl : IsSeq s.heap l items)
    (h : wpAny (model prog w) A (match items[i]? with
      | some x => do setField (.ref it) 1 (rawInt (i + 1)); ret x
      | none => do rule "list_iterator.__next__.end"; setField (.ref it) 0 .none; (do raiseNew (← newExc (.type "StopIteration") []))) Q E s) :
    wpAny (model prog w) A (Builtin.«list_iterator.__next__» ⟨[.ref it], []⟩) Q E s := by
  obtain ⟨ol, hol, n, hdl⟩ := hl
  show wpAny _ _ (field (.ref it) 0 >>= _) _ _ s
  refine wpAny_bind (wpAny_field ho hd (x := .ref l) rfl ?_)
  show wpAny _ _ (if (Value.ref l == Value.none) = true then _ else _) _ _ s
  rw [if_neg (show ¬ ((Value.ref l == Value.none) = true) from Bool.false_ne_true)]
  show wpAny _ _ (field (.ref it) 1 >>= _) _ _ s
  refine wpAny_bind (wpAny_field ho hd (x := .int i 0) rfl ?_)
  show wpAny _ _ (seqItems? (.ref l) >>= _) _ _ s
  refine wpAny_bind (wpAny_seqItems hol hdl ?_)
  simp only [Int.toNat_natCast]
  cases hx : items[i]? with
  | some x => rw [hx] at h; exact h
  | none => rw [hx] at h; exact h

theorem next_some {it l : Addr} {i : Nat} {items : Array Value} {x : Value} {Q : Option Value → Shared → Prop} (hit : s.heap.IsListIter it l i) (hl : IsSeq s.heap l items) (hx : items[i]? = some x)
    (hQ : ∀ h', h'.IsListIter it l (i + 1) → Heap.SameBut it s.heap h' → Q (some x) { s with heap := h' }) :
    wpAny (model prog w) A (pyNext (.ref it)) Q E s := by
  obtain ⟨o, ho, hc, hd⟩ := id hit
  unfold pyNext
  refine wpAny_bind (wpAny_attempt (wpAny_callSpecial?_slot (name := Str.ofString "__next__") hit.typeIs slot_listiter_next
    (wpAny_call_entry slot_listiter_next hit.typeIs entry_listiter_next (next_front ho hd hl ?_) (args_listiter_next _))))
  rw [hx]
  refine wpAny_bind (wpAny_setField ho hd (by simp) (wpAny_pure ⟨x, rfl, wpAny_pure (hQ _ ?_ (Heap.SameBut.update ..))⟩))
  exact ⟨_, Heap.get?_update_self _ ho (Obj.isFreed_of_fields (Obj.data_mapFields hd _)), (Obj.cls_mapFields ..).trans hc, by
    rw [Obj.data_mapFields hd]; simp [rawInt]⟩

theorem next_none {it l : Addr} {i : Nat} {items : Array Value} {Q : Option Value → Shared → Prop} (hh : A.handled = none) (hit : s.heap.IsListIter it l i) (hl : IsSeq s.heap l items) (hx : items[i]? = none)
    (hQ : ∀ h', Heap.ExtBut it s.heap h' → Q none { s with heap := h' }) : wpAny (model prog w) A (pyNext (.ref it)) Q E s := by
  obtain ⟨o, ho, hc, hd⟩ := id hit
  unfold pyNext
  refine wpAny_bind (wpAny_attempt (wpAny_callSpecial?_slot (name := Str.ofString "__next__") hit.typeIs slot_listiter_next
    (wpAny_call_entry slot_listiter_next hit.typeIs entry_listiter_next (next_front ho hd hl ?_) (args_listiter_next _))))
  rw [hx]
  refine wpAny_bind (wpAny_rule (wpAny_bind (wpAny_setField ho hd (by simp) ?_)))
  show wpAny _ _ (newExc (.type "StopIteration") [] >>= _) _ _ _
  refine wpAny_bind ?_
  simp only [newExc, newTuple]
  refine wpAny_bind (wpAny_newObj_type ?_ (by size_fits))
  refine wpAny_bind (m := firstArgMember _ _) (wpAny_of_eq (a := Value.none) (by first | rfl | (simp only [firstArgMember]; rfl)) ?_)
  refine wpAny_newObj_type ?_ (by size_fits)
  simp only [raiseNew]
  refine wpAny_bind (wpAny_handled ?_)
  rw [show A.in1.handled = none from hh]
  refine wpAny_bind (wpAny_pure (wpAny_throw ?_))
  refine wpAny_bind (wpAny_isInstance (T := "StopIteration") (b := true) ⟨_, Heap.get?_push_size _ rfl, rfl⟩ isSubtype_stop ?_)
  exact wpAny_pure (hQ _ (((Heap.SameBut.update ..).extBut.push _).push _))

theorem walks_seq (hh : A.handled = none) (I ax : Addr) (hne : ax ≠ I) (items : Array Value) :
    Walks prog w A I [I, ax] [I] items.size (fun i v => items[i]? = some v) (fun i h => h.IsListIter I ax i ∧ IsSeq h ax items) where
  sub := fun b hb => by simp at hb; simp [hb]
  frame := fun _ _ _ st hk => ⟨st.1.at fun o e => hk I (by simp) o e, st.2.keeps fun o e => hk ax (by simp) o e⟩
  item := fun i s Q E hi st hQ => by
    refine next_some st.1 st.2 (x := items[i]) (by simp [hi]) fun h' hit' hs' => ?_
    exact hQ _ h' s.toks (by simp [hi]) ⟨hit', st.2.keeps fun o e => (hs'.2 _ hne).trans e⟩ fun b o hb e => hs'.extBut b o (fun h => hb (by simp [h])) e
  done := fun s Q E st hQ => next_none hh st.1 st.2 (by simp) fun h' he' => hQ h' s.toks fun b o hb e => he' b o (fun h => hb (by simp [h])) e
  self := fun _ _ _ _ st hQ => wpAny_pyIter_listiter st.1 hQ
end

/-- what the written part says of list's own specials upon the class -/
def seqL (K : Frag) (C : Addr) : Bool := findIn K (.ref C) "__iter__" == some (some (.builtin "list.__iter__")) && findIn K (.ref C) "__len__" == some (some (.builtin "list.__len__"))
theorem seqL_of {K : Frag} {C : Addr} (e : seqL K C = true) : findIn K (.ref C) "__iter__" = some (some (.builtin "list.__iter__")) ∧ findIn K (.ref C) "__len__" = some (some (.builtin "list.__len__")) := by
  simp only [seqL, Bool.and_eq_true, beq_iff_eq] at e
  exact e

theorem len_args (a : Value) : argsOk "list.__len__" ⟨[a], []⟩ := by unfold argsOk; kernel_rfl
theorem len_entry : entryFor table "list.__len__" = some Builtin.«list.__len__» := entryFor_of_fast (by kernel_rfl)
theorem len_kind : builtinKind "list.__len__" = some .slot := by decide +kernel
theorem len_split : splitId "list.__len__" = some ("list", "__len__") := by decide +kernel
theorem iter_kind : builtinKind "list.__iter__" = some .slot := by decide +kernel
theorem iter_split : splitId "list.__iter__" = some ("list", "__iter__") := by decide +kernel
theorem slot_len : Slot "list" "__len__" "list.__len__" :=
  .of (owner := "list") (n := "__len__") (by rw [typeLookup_type, builtinLookup_eq_fast]; kernel_rfl) (by decide +kernel) (by decide +kernel) (by decide +kernel)
    (by first | exact .inl (by decide +kernel) | exact .inr (by decide +kernel)) (by rw [isSubtype_type]; kernel_rfl)

section
variable {prog : Program} {w : World} {A : Around} {E : Value → Shared → Prop} {K : Frag} {C x dx L : Addr} {s : Shared} {xs : Array Value} {n : Nat}

structure DomAt (K : Frag) (C : Addr) (h : Heap) (x : Addr) (xs : Array Value) : Prop where
  here : ∃ dx n, h.get? x = some (domObj C dx xs n)
  inK : K.In h
  over : overL K C = true
  seq : seqL K C = true
theorem DomAt.type {M : Model} {h : Heap} (D : DomAt K C h x xs) : Looks M h (typeOf (.ref x)) (.ref C) := by
  obtain ⟨dx, n, ho⟩ := D.here
  exact (Looks.ld ho).andThen .now
theorem DomAt.isl {M : Model} {h : Heap} (D : DomAt K C h x xs) : Looks M h (isInstance (.ref x) (.type "list")) true :=
  D.type.andThen (looks_mroIn D.inK (overL_mro D.over (contains3 (.inl rfl))))
theorem DomAt.isSeq {h : Heap} (D : DomAt K C h x xs) : IsSeq h x xs := by
  obtain ⟨dx, n, ho⟩ := D.here
  exact ⟨_, ho, n, rfl⟩
theorem DomAt.keeps {h h' : Heap} (D : DomAt K C h x xs) (k : ∀ b o, h.get? b = some o → h'.get? b = some o) : DomAt K C h' x xs := by
  obtain ⟨dx, n, ho⟩ := D.here
  exact ⟨⟨dx, n, k _ _ ho⟩, D.inK.keeps k, D.over, D.seq⟩

theorem dom_iter {Q : Value → Shared → Prop} (D : DomAt K C s.heap x xs)
    (hQ : Q (.ref s.heap.objs.size) { s with heap := s.heap.push { cls := .type "list_iterator", data := .fields #[.ref x, .int 0 0] } }) :
    wpAny (model prog w) A (pyIter (.ref x)) Q E s := by
  have hs : Looks (model prog w) s.heap (specialOf (.ref x) "__iter__") (some (.builtin "list.__iter__")) := D.type.andThen (looks_findIn D.inK (seqL_of D.seq).1)
  unfold pyIter
  refine wpAny_bind (hs.here ?_)
  show wpAny _ _ (callSpecialIfBoundUnlessNone? (.ref x) "__iter__" _ >>= _) _ _ s
  refine wpAny_bind ?_
  simp only [callSpecialIfBoundUnlessNone?, bindSpecialIfBound?]
  refine wpAny_holding (wpAny_bind (wpAny_bind (hs.here ?_)))
  simp only [slot_list_iter.bind]
  have fin : wpAny (model prog w) A (call (.builtin "list.__iter__") [.ref x]) (fun it s' => wpAny (model prog w) A (specialOf it "__next__" >>= fun r => match r with
      | none => do rule "iter.non-iterator"; raiseError "TypeError" s!"iter() returned non-iterator of type '{← typeNameOf it}'"
      | some _ => pure it) Q E s') E s := by
    refine wpAny_call (codeAny_call_builtin slot_list_iter.plain entry_list_iter ?_)
    refine @check_slot (model prog w) _ _ s "list.__iter__" "list" "__iter__" (.ref x) [] [] _ iter_kind iter_split D.isl (args_list_iter _) ?_
    show wpAny _ _ (do ret (← newFields "list_iterator" [.ref x, rawInt 0])) _ _ s
    refine wpAny_bind (wpAny_newObj_type (wpAny_pure ?_))
    exact wpAny_bind (wpAny_specialOf (T := "list_iterator") ⟨_, Heap.get?_push_size _ rfl, rfl⟩ slot_listiter_next.lookup (wpAny_pure hQ))
  refine wpAny_bind (wpAny_askSetting (wpAny_ite ?_))
  have fin2 : wpAny (model prog w) A (if (Value.builtin "list.__iter__" == Value.none) = true then ((do
      rule "iter.none"; raiseError "TypeError" s!"'{← typeNameOf (Value.ref x)}' object is not iterable" : Sem Value) >>= fun v => pure (some v)) else (call (.builtin "list.__iter__") [.ref x] >>= fun v => pure (some v)))
      (fun r s' => wpAny (model prog w) A (match r with
        | some it => (specialOf it "__next__" >>= fun r => match r with
          | none => do rule "iter.non-iterator"; raiseError "TypeError" s!"iter() returned non-iterator of type '{← typeNameOf it}'"
          | some _ => pure it)
        | none => (do
          match ← bindSpecialIfBound? (.ref x) "__getitem__" with
          | none => rule "iter.not-iterable"; raiseError "TypeError" s!"'{← typeNameOf (.ref x)}' object is not iterable"
          | some _ => rule "iter.getitem-fallback"; newFields "iterator" [(.ref x), ← mkInt 0])) Q E s') E s := by
    rw [if_neg (by decide)]
    exact wpAny_bind (wpAny_mono fin (fun v s' h' => wpAny_pure h') fun _ _ h' => h')
  split
  · exact wpAny_bind (wpAny_pure (wpAny_pure fin2))
  · exact wpAny_tryCatch (wpAny_bind (wpAny_pure (wpAny_pure fin2)))

theorem dom_len {Q : Value → Shared → Prop} (D : DomAt K C s.heap x xs) (hz : xs.size ≤ 1000)
    (hQ : ∀ t, Q (.int xs.size t) { s with toks := t + 1 }) : wpAny (model prog w) A (call (.builtin "len") [.ref x]) Q E s := by
  have hs : Looks (model prog w) s.heap (specialOf (.ref x) "__len__") (some (.builtin "list.__len__")) := D.type.andThen (looks_findIn D.inK (seqL_of D.seq).2)
  refine Calls.call_function_entry kind_len plain_len entry_len (args_len1 _) ?_
  unfold Builtin.«len»
  refine wpAny_bind (m := oneArg "len" _) (wpAny_pure ?_)
  refine wpAny_bind (m := callSpecial? (.ref x) (Str.ofString "__len__")) ?_
  unfold callSpecial?
  refine wpAny_bind (hs.here (wpAny_holding ?_))
  rw [slot_len.bind]
  refine wpAny_bind (wpAny_pure (wpAny_bind (wpAny_call (codeAny_call_builtin slot_len.plain len_entry ?_))))
  refine @check_slot (model prog w) _ _ s "list.__len__" "list" "__len__" (.ref x) [] [] _ len_kind len_split D.isl (len_args _) ?_
  unfold Builtin.«list.__len__»
  refine wpAny_bind (m := slotArgs "__len__" 0 _) (wpAny_pure ?_)
  obtain ⟨o, ho, n, hd⟩ := D.isSeq
  show wpAny _ _ (seqSize x >>= fun k => retInt k) _ _ s
  unfold seqSize
  refine wpAny_bind (wpAny_bind (wpAny_loadPart ho ?_))
  rw [hd]
  refine wpAny_pure ?_
  refine wpAny_bind (wpAny_mkInt (wpAny_pure ?_))
  refine wpAny_pure ?_
  refine wpAny_bind (wpAny_holding (wpAny_pure ?_))
  refine wpAny_bind (wpAny_letGo ?_)
  show wpAny _ _ (if (xs.size : Int) < 0 then _ else _) _ _ _
  rw [if_neg (by omega)]
  show wpAny _ _ (if (xs.size : Int) ≥ 2 ^ 63 then _ else _) _ _ _
  rw [if_neg (by omega)]
  exact wpAny_bind (wpAny_mkInt (wpAny_pure ⟨_, rfl, hQ _⟩))

theorem dom_hint {Q : Bool → Shared → Prop} (D : DomAt K C s.heap x xs) (hz : xs.size ≤ 1000) (hQ : ∀ b t, Q b { s with toks := t }) : wpAny (model prog w) A (Builtin.List.listLengthHint (.ref x)) Q E s := by
  have hs : Looks (model prog w) s.heap (specialOf (.ref x) "__len__") (some (.builtin "list.__len__")) := D.type.andThen (looks_findIn D.inK (seqL_of D.seq).2)
  unfold Builtin.List.listLengthHint
  refine wpAny_bind (hs.here ?_)
  dsimp only
  simp only [len_split]
  refine wpAny_bind (D.isl.here ?_)
  simp only [Bool.not_true, Bool.false_eq_true, if_false]
  rw [if_pos (by decide +kernel)]
  refine wpAny_bind (D.type.here ?_)
  refine wpAny_bind (dom_len D hz fun t => ?_)
  exact wpAny_bind (wpAny_pure (wpAny_pure (hQ _ _)))

/-- the items of an object are drawn onto the end of an empty list -/
theorem dom_extend {R : Result → Shared → Prop} (D : DomAt K C s.heap x xs) (hz : xs.size ≤ 1000) (hh : A.handled = none) (S : Addr) (hSx : S ≠ x) (res : Value) (c₀ : Nat) (hS : s.heap.get? S = some { cls := .type "list", data := .seq #[] c₀ })
    (hR : ∀ h' tk acc' c', (∀ b o, b ≠ S → s.heap.get? b = some o → h'.get? b = some o) → h'.get? S = some { cls := .type "list", dict := none, data := .seq acc' c', slots := #[] } → ItemsOf (fun i v => xs[i]? = some v) acc' xs.size → R (.ok (.ret res)) { s with heap := h', toks := tk }) :
    wpAny (model prog w) A.in1 (Builtin.List.listExtendWith (.ref S) (.ref x) res)
      (fun fin s' => match fin with | .done f => R (.ok f) s' | .again c' => c'.quiet = true ∧ codeAny (model prog w) A c' R s') (fun e s' => R (.error e) s') s := by
  have hx : x < s.heap.objs.size := by obtain ⟨dx, n, ho⟩ := D.here; exact Heap.lt_size ho
  have hSI : S ≠ s.heap.objs.size := Nat.ne_of_lt (Heap.lt_size hS)
  have hSf : S ∉ [s.heap.objs.size, x] := by simp only [List.mem_cons, List.not_mem_nil, or_false, not_or]; exact ⟨hSI, hSx⟩
  have W := walks_seq (prog := prog) (w := w) (A := A.in1) hh s.heap.objs.size x (Nat.ne_of_lt hx) xs
  have key : ∀ (h : Heap) (c₁ tk : Nat), h.IsListIter s.heap.objs.size x 0 ∧ IsSeq h x xs → (∀ b o, b ≠ S → s.heap.get? b = some o → h.get? b = some o) →
      h.get? S = some { cls := .type "list", data := .seq #[] c₁ } → codeAny (model prog w) A (.builtin "list.extend.loop" ⟨[.ref S, .ref s.heap.objs.size, res], []⟩) R { s with heap := h, toks := tk } := by
    intro h c₁ tk hst hk hS₁
    refine codeAny_extend_loopS W.toS (by rw [sizeLine_eq]; omega) S hSf res xs.size 0 _ #[] c₁ rfl (Nat.zero_le _) hst hS₁ (ItemsOf.nil _) fun s' acc' c' hm hS' hacc => ?_
    rw [Moved.eq_with hm]
    refine hR s'.heap s'.toks acc' c' (fun b o hb e => hm.heap b o (fun hmem => ?_) (hk b o hb e)) hS' hacc
    rcases List.mem_cons.mp hmem with e' | hmem
    · exact hb e'
    · exact absurd (Heap.lt_size e) (by rw [List.mem_singleton.mp hmem]; exact Nat.lt_irrefl _)
  unfold Builtin.List.listExtendWith
  refine wpAny_bind (D.type.here ?_)
  have h1 : Builtin.List.listSameRef (.ref S) (.ref x) = false := by simp [Builtin.List.listSameRef, hSx]
  have h2 : (Value.ref C == Value.type "list") = false := rfl
  have h3 : (Value.ref C == Value.type "tuple") = false := rfl
  simp only [h1, h2, h3, Bool.or_false, Bool.false_eq_true, if_false]
  refine wpAny_bind (dom_iter D ?_)
  have hS₁ := Heap.get?_push_of_some ({ cls := .type "list_iterator", data := .fields #[.ref x, .int 0 0] } : Obj) hS
  have D' := D.keeps (h' := s.heap.push { cls := .type "list_iterator", data := .fields #[.ref x, .int 0 0] }) fun b o e => Heap.get?_push_of_some _ e
  have st : (s.heap.push { cls := .type "list_iterator", data := .fields #[.ref x, .int 0 0] }).IsListIter s.heap.objs.size x 0 ∧ IsSeq (s.heap.push { cls := .type "list_iterator", data := .fields #[.ref x, .int 0 0] }) x xs :=
    ⟨⟨_, Heap.get?_push_size _ rfl, rfl, rfl⟩, D'.isSeq⟩
  refine wpAny_bind (wpAny_holding (dom_hint (s := { s with heap := s.heap.push { cls := .type "list_iterator", data := .fields #[.ref x, .int 0 0] } }) D' hz fun b t => ?_))
  refine wpAny_ite_split (fun _ => ?_) (fun _ => wpAny_pure ⟨plainId_quiet PySem.F.plain_extend_loop _, key _ c₀ _ st (fun b o _ e => Heap.get?_push_of_some _ e) hS₁⟩)
  refine wpAny_bind (wpAny_rule ?_)
  refine wpAny_bind ?_
  show wpAny _ _ (updateSeq S (·.push .none) >>= fun _ => updateSeq S (·.pop)) _ _ _
  refine wpAny_bind (wpAny_updateSeq hS₁ rfl ?_)
  have hS₂ := Heap.get?_update_self (Obj.mapSeq (·.push Value.none)) hS₁ rfl
  refine wpAny_updateSeq (hz := by seq_fits) hS₂ rfl ?_
  have hS₃ := Heap.get?_update_self (Obj.mapSeq (·.pop)) hS₂ rfl
  refine wpAny_pure ⟨plainId_quiet PySem.F.plain_extend_loop _, key _ _ _ ?_ (fun b o hb e => ?_) hS₃⟩
  · refine W.frame 0 _ _ st fun b hb o e => ?_
    have hbS : b ≠ S := fun h => hSf (h ▸ hb)
    exact (Heap.get?_update_other _ _ (Ne.symm hbS)).trans ((Heap.get?_update_other _ _ (Ne.symm hbS)).trans e)
  · exact (Heap.get?_update_other _ _ (Ne.symm hb)).trans ((Heap.get?_update_other _ _ (Ne.symm hb)).trans (Heap.get?_push_of_some _ e))

theorem items_eq {acc : Array Value} (h : ItemsOf (fun i v => xs[i]? = some v) acc xs.size) : acc = xs := by
  apply Array.ext h.1
  intro i h1 h2
  have := h.2 i acc[i] (by simp [h1])
  simp [h2] at this
  exact this.symm

theorem dom_collect {Q : List Value → Shared → Prop} (D : DomAt K C s.heap x xs) (hz : xs.size ≤ 1000) (hh : A.handled = none)
    (h : ∀ (h' : Heap) (tk : Nat), (∀ b o, s.heap.get? b = some o → h'.get? b = some o) → Q xs.toList { s with heap := h', toks := tk }) :
    wpAny (model prog w) A (collect (.ref x)) Q E s := by
  have hx : x < s.heap.objs.size := by obtain ⟨dx, n, ho⟩ := D.here; exact Heap.lt_size ho
  unfold collect
  refine wpAny_bind (wpAny_runValue (codeAny_builtin entry_proto_collect' ?_))
  rw [Around.under_plainId PySem.F.plain_proto_collect _]
  show wpAny _ A.in1 (newList [] >>= fun l => again (.builtin "list.__iadd__" ⟨[l, .ref x], []⟩)) _ _ s
  refine wpAny_bind (wpAny_newObj_type ?_)
  refine wpAny_pure ⟨plainId_quiet PySem.F.plain_list_iadd _, codeAny_builtin entry_list_iadd' ?_⟩
  rw [Around.under_plainId PySem.F.plain_list_iadd _]
  have hS₁ : (s.heap.push { cls := .type "list", data := .seq ([] : List Value).toArray }).get? s.heap.objs.size = some { cls := .type "list", data := .seq #[] } := Heap.get?_push_size _ rfl
  show wpAny _ A.in1 (Builtin.List.listExtendWith (.ref s.heap.objs.size) (.ref x) (.ref s.heap.objs.size)) _ _ _
  have key := dom_extend (prog := prog) (w := w) (A := A) (s := { s with heap := s.heap.push { cls := .type "list", data := .seq ([] : List Value).toArray } })
    (R := fun (q : Result) (s' : Shared) => ∃ (h' : Heap) (tk : Nat) (c' : Nat), q = .ok (.ret (.ref s.heap.objs.size)) ∧ s' = { s with heap := h', toks := tk } ∧
      (∀ b o, s.heap.get? b = some o → h'.get? b = some o) ∧ h'.get? s.heap.objs.size = some { cls := .type "list", dict := none, data := .seq xs c', slots := #[] })
    (D.keeps fun b o e => Heap.get?_push_of_some _ e) hz hh s.heap.objs.size (Nat.ne_of_gt hx) (.ref s.heap.objs.size) 0 hS₁
    (fun h' tk acc' c' hk hS' hacc => by
      obtain rfl := items_eq hacc
      exact ⟨h', tk, c', rfl, rfl, fun b o e => hk b o (Nat.ne_of_lt (Heap.lt_size e)) (Heap.get?_push_of_some _ e), hS'⟩)
  refine wpAny_mono key (fun fin s' y => ?_) fun e s' y => ?_
  · cases fin with
    | done f =>
      obtain ⟨h', tk, c', e, rfl, hk, hS'⟩ := y
      cases e
      show wpAny _ A (load s.heap.objs.size >>= _) _ _ _
      refine wpAny_bind (wpAny_load hS' ?_)
      exact wpAny_pure (h h' tk hk)
    | again c₁ =>
      refine ⟨y.1, codeAny_mono y.2 fun q s₂ z => ?_⟩
      obtain ⟨h', tk, c', rfl, rfl, hk, hS'⟩ := z
      show wpAny _ A (load s.heap.objs.size >>= _) _ _ _
      refine wpAny_bind (wpAny_load hS' ?_)
      exact wpAny_pure (h h' tk hk)
  · obtain ⟨_, _, _, e', _⟩ := y
    cases e'
end
end Mine
end
section
open PySem PySem.W PyProof.Rows PySem.Calls
namespace Mine
section
variable {prog : Program} {w : World} {A : Around} {E : Value → Shared → Prop} {K : Frag} {C x dx L : Addr} {s : Shared} {xs : Array Value} {n : Nat} {h₀ : Heap} {m : Str → Option Value} {news : List (Addr × Obj)} {ds : List Int}

theorem dom_sorted {Q : Value → Shared → Prop} (D : DomAt K C s.heap x xs) (hh : A.handled = none) (F : Fr h₀ L s.heap m) (N : News h₀ L s.heap news) (hI : IntsAre xs.toList ds) (hz : ds.length < 64)
    (h : ∀ B h' tk vs' ns' c, Fr h₀ L h' m → News h₀ L h' ((B, PySem.W.listOf (List.toArray vs') c) :: news) → (∀ q ∈ news, q.1 < B) → IntsAre vs' ns' → ns'.Perm ds → ns'.Pairwise (· ≤ ·) → Q (.ref B) { s with heap := h', toks := tk }) :
    wpAny (model prog w) A (call (.builtin "sorted") [.ref x]) Q E s := by
  have hl := hI.length
  rw [Array.length_toList] at hl
  refine Calls.call_function_entry kind_sorted plain_sorted entry_sorted (args_sorted1 _) ?_
  unfold Builtin.«sorted»
  refine wpAny_bind (m := checkCount "sorted" 1 1 _) (wpAny_pure ?_)
  refine wpAny_bind (dom_collect D (by omega) hh fun h₁ tk hk => ?_)
  refine wpAny_bind (wpAny_newList ?_ (by rw [Array.length_toList, sizeLine_eq]; omega))
  have hoL : (h₁.push { cls := .type "list", data := .seq xs.toList.toArray }).get? h₁.objs.size = some (seqObj "list" xs.toList.toArray 0) := Heap.get?_push_size _ rfl
  have k2 : ∀ b o, s.heap.get? b = some o → (h₁.push { cls := .type "list", data := .seq xs.toList.toArray }).get? b = some o := fun b o e => Heap.get?_push_of_some _ (hk b o e)
  refine wpAny_bind (wpAny_holding (wpAny_call_entry (s := { s with heap := h₁.push { cls := .type "list", data := .seq xs.toList.toArray }, toks := tk }) slot_list_sort ⟨_, hoL, rfl⟩ entry_list_sort
    (list_sort_tree (s := { s with heap := h₁.push { cls := .type "list", data := .seq xs.toList.toArray }, toks := tk }) (a := h₁.objs.size) hoL hI (by rw [Array.length_toList]; omega) fun out ns' a1 a2 a3 => ⟨_, rfl, ?_⟩) (args_list_sort _)))
  have k3 : ∀ b o, s.heap.get? b = some o → (sortedHeap (h₁.push { cls := .type "list", data := .seq xs.toList.toArray }) h₁.objs.size xs.toList out).get? b = some o := fun b o e => by
    have hb : b < h₁.objs.size := Heap.lt_size (hk b o e)
    rw [sortedHeap_old (Nat.ne_of_lt hb) (by rw [size_push']; exact Nat.lt_succ_of_lt hb)]
    exact k2 b o e
  obtain ⟨c, hc⟩ := sortedHeap_at (out := out) hoL
  have N₁ : News h₀ L h₁ news := fun p hp => ⟨hk _ _ (N p hp).1, (N p hp).2⟩
  have N₂ := News.push (F.kept hk) N₁ (seqObj "list" xs.toList.toArray 0)
  refine wpAny_pure ⟨_, rfl, h _ _ tk out.toList ns' c (F.kept k3) (fun p hp => ?_) (fun q hq => Heap.lt_size (hk _ _ (N q hq).1)) a1 a2 a3⟩
  rcases List.mem_cons.mp hp with rfl | hp
  · exact ⟨by simpa using hc, (N₂ _ (.head _)).2⟩
  · exact ⟨k3 _ _ (N p hp).1, (N p hp).2⟩

theorem dom_sortedL {xs : List Value} {Q : Value → Shared → Prop} (D : DomAt K C s.heap x xs.toArray) (hh : A.handled = none) (F : Fr h₀ L s.heap m) (N : News h₀ L s.heap news) (hI : IntsAre xs ds) (hz : ds.length < 64)
    (h : ∀ B h' tk vs' ns' c, Fr h₀ L h' m → News h₀ L h' ((B, PySem.W.listOf (List.toArray vs') c) :: news) → (∀ q ∈ news, q.1 < B) → IntsAre vs' ns' → ns'.Perm ds → ns'.Pairwise (· ≤ ·) → Q (.ref B) { s with heap := h', toks := tk }) :
    wpAny (model prog w) A (call (.builtin "sorted") [.ref x]) Q E s := dom_sorted D hh F N (by simpa using hI) hz h

theorem dom_list {Q : Value → Shared → Prop} (D : DomAt K C s.heap x xs) (hz : xs.size ≤ 1000) (hh : A.handled = none) (F : Fr h₀ L s.heap m) (N : News h₀ L s.heap news)
    (h : ∀ B h' tk c, Fr h₀ L h' m → News h₀ L h' ((B, PySem.W.listOf xs c) :: news) → (∀ q ∈ news, q.1 < B) → Q (.ref B) { s with heap := h', toks := tk }) :
    wpAny (model prog w) A (call (.type "list") [.ref x]) Q E s := by
  have hx : x < s.heap.objs.size := by obtain ⟨dx, n, ho⟩ := D.here; exact Heap.lt_size ho
  refine callType_codes (Q₁ := fun obj s₁ => obj = .ref s.heap.objs.size ∧ s₁ = { s with heap := s.heap.push { cls := .type "list", data := .seq #[] } }) PySem.F.called_list (PySem.F.typeCall_list_1 _) PySem.F.entry_list_init
    (code_list_new _ ⟨rfl, rfl⟩) fun obj s₁ h₁ => ?_
  obtain ⟨rfl, rfl⟩ := h₁
  have hS : (s.heap.push { cls := .type "list", data := .seq #[] }).get? s.heap.objs.size = some { cls := .type "list", data := .seq #[] } := Heap.get?_push_size _ rfl
  refine ⟨⟨_, hS, rfl⟩, PySem.F.args_list_init_2 _ _, ?_⟩
  have e : Builtin.«list.__init__» ⟨[.ref s.heap.objs.size, .ref x], []⟩ = (do
      let old ← Builtin.List.listItems (.ref s.heap.objs.size)
      Builtin.List.listUpdate (.ref s.heap.objs.size) (fun _ => #[])
      letGo old.toList.reverse
      Builtin.List.listExtendWith (.ref s.heap.objs.size) (.ref x) .none) := rfl
  rw [e]
  refine wpAny_bind (listItems_at hS rfl ?_)
  refine wpAny_bind (listUpdate_at hS rfl ?_ (Nat.zero_le _) (Nat.zero_le _))
  refine wpAny_bind (wpAny_letGo ?_)
  have hS₂ := Heap.get?_update_self (Obj.mapSeq (fun _ => (#[] : Array Value))) hS rfl
  have oth : ∀ b o, s.heap.get? b = some o → ((s.heap.push { cls := .type "list", data := .seq #[] }).update s.heap.objs.size (Obj.mapSeq (fun _ => (#[] : Array Value)))).get? b = some o :=
    fun b o e => (Heap.get?_update_other _ _ (Nat.ne_of_gt (Heap.lt_size e))).trans (Heap.get?_push_of_some _ e)
  refine dom_extend (prog := prog) (w := w) (A := A.in1) (R := wants (fun r s₂ => r = Value.none ∧ Q (Value.ref s.heap.objs.size) s₂) E) (s := { s with heap := (s.heap.push { cls := .type "list", data := .seq #[] }).update s.heap.objs.size (Obj.mapSeq (fun _ => (#[] : Array Value))) }) (D.keeps oth) hz hh s.heap.objs.size (Nat.ne_of_gt hx) .none _ hS₂ fun h' tk acc' c' hk hS' hacc => ?_
  obtain rfl := items_eq hacc
  have k : ∀ b o, s.heap.get? b = some o → h'.get? b = some o := fun b o e => hk b o (Nat.ne_of_lt (Heap.lt_size e)) (oth b o e)
  exact ⟨rfl, h s.heap.objs.size h' tk c' (F.keeps k) (news_pushed F N k hS' rfl) fun q hq => Heap.lt_size (N q hq).1⟩
end
end Mine
end
section
open PySem PySem.W PyProof.Rows PySem.Calls
namespace Mine

def sel (start stop step : Int) (i : Nat) : Bool :=
  if step > 0 then start ≤ i && i < stop && (i - start) % step == 0
  else stop < i && i ≤ start && (start - i) % (-step) == 0

theorem delitem_eq (l : Addr) (i : Value) : Builtin.«list.__delitem__» ⟨[.ref l, i], []⟩ = (do
    if let some k ← Builtin.List.listSubscript? i then
      match seqIndex? k (← Builtin.List.listItems (.ref l)).size with
      | some k => Builtin.List.listUpdate (.ref l) (·.eraseIdxIfInBounds k); return ← ret .none
      | none => rule "list.__delitem__.out-of-range"; raiseError "IndexError" "list assignment index out of range"
    if (← typeOf i) != .type "slice" then Builtin.List.listBadSubscript i
    let (lo, hi, st) ← Builtin.List.listSliceParts i
    let old ← Builtin.List.listItems (.ref l)
    let (start, stop, step) ← sliceIndices lo hi st old.size
    rule "list.__delitem__.slice"
    Builtin.List.listUpdate (.ref l) fun xs => (xs.toList.zipIdx.filterMap fun (x, k) => if sel start stop step k then none else some x).toArray
    let gone := old.toList.zipIdx.filterMap fun (x, k) => if sel start stop step k then some x else none
    letGo (if step == 1 then gone.reverse else gone)
    ret .none) := rfl

theorem sel_one (a : Nat) (n : Int) (k : Nat) : sel a n 1 k = (decide (a ≤ k) && decide ((k : Int) < n)) := by
  unfold sel
  rw [if_pos (by decide)]
  have : ((k : Int) - a) % 1 = 0 := Int.emod_one _
  simp [this]
theorem keep_take (a : Nat) : ∀ (xs : List Value) (k : Nat) (n : Int), n = k + xs.length →
    ((xs.zipIdx k).filterMap fun p => if sel a n 1 p.2 then none else some p.1) = xs.take (a - k)
  | [], k, n, _ => by simp
  | x :: r, k, n, h => by
    have ih := keep_take a r (k + 1) n (by rw [h, List.length_cons]; omega)
    rw [List.zipIdx_cons, List.filterMap_cons]
    dsimp only
    rw [ih, sel_one]
    rw [List.length_cons] at h
    by_cases hk : a ≤ k
    · rw [if_pos (by simp [hk]; omega)]
      have e1 : a - k = 0 := by omega
      have e2 : a - (k + 1) = 0 := by omega
      rw [e1, e2]
      simp
    · rw [if_neg (by simp [hk])]
      have e1 : a - k = (a - (k + 1)) + 1 := by omega
      rw [e1, List.take_succ_cons]

section
variable {prog : Program} {w : World} {A : Around} {E : Value → Shared → Prop} {K : Frag} {C x dx L l : Addr} {s : Shared} {n c : Nat} {h₀ : Heap} {m : Str → Option Value} {news : List (Addr × Obj)} {g : Obj → List (Addr × Obj)} {vs : List Value} {ns as bs : List Int}

theorem del_slice {sl : Addr} {vl : Value} {lo : Option Int} {a : Nat} {Q : Unit → Shared → Prop} (hl : s.heap.get? l = some (listOf vs.toArray c)) (hs : s.heap.IsSliceOf sl vl .none .none) (pl : IsPart vl lo)
    (hb : sliceBounds lo none none vs.length = ((a : Int), (vs.length : Int), 1)) (hz : vs.length ≤ 1000)
    (h : Q () { s with heap := s.heap.update l (Obj.mapSeq fun xs => (xs.toList.zipIdx.filterMap fun (x, k) => if sel a vs.length 1 k then none else some x).toArray) }) :
    wpAny (model prog w) A (delItem (.ref l) (.ref sl)) Q E s := by
  obtain ⟨os, hos, hcs, hds⟩ := id hs
  have hTs : s.TypeIs (.ref sl) "slice" := ⟨os, hos, hcs⟩
  have hT : s.TypeIs (.ref l) "list" := ⟨_, hl, rfl⟩
  refine wpAny_delItem_slot hT (by decide) PySem.F.slot_list_delitem (wpAny_call_entry PySem.F.slot_list_delitem hT PySem.F.entry_list_delitem ?_ (PySem.F.args_list_delitem_2 _ _))
  rw [delitem_eq]
  refine wpAny_bind ?_
  unfold Builtin.List.listSubscript?
  refine wpAny_bind (wpAny_specialOf hTs slice_no_index ?_)
  simp only [Option.isNone_none, if_true]
  refine wpAny_pure ?_
  show wpAny _ _ (typeOf (.ref sl) >>= _) _ _ s
  refine wpAny_bind (wpAny_typeOf hTs ?_)
  rw [if_neg (by decide)]
  rw [listSliceParts_eq]
  refine wpAny_bind (wpAny_bind (wpAny_field hos hds (x := .none) rfl (wpAny_bind (wpAny_listPart .none ?_))))
  rw [if_neg (show ¬ ((rawPart none == rawInt 0) = true) from Bool.false_ne_true)]
  refine wpAny_bind (wpAny_field hos hds (x := vl) rfl (wpAny_bind (wpAny_listPart pl ?_)))
  refine wpAny_bind (wpAny_field hos hds (x := .none) rfl (wpAny_bind (wpAny_listPart .none (wpAny_pure ?_))))
  refine wpAny_bind (listItems_at hl rfl ?_)
  refine wpAny_bind (wpAny_of_eq (sliceIndices_raw lo none none vs.toArray.size (by simp)) ?_)
  rw [List.size_toArray, hb]
  refine wpAny_bind (wpAny_rule ?_)
  have hsz : ((vs.toArray.toList.zipIdx.filterMap fun (x, k) => if sel a vs.length 1 k then none else some x).toArray).size ≤ sizeLine + 1 := by
    rw [List.size_toArray, sizeLine_eq]
    refine Nat.le_trans (List.length_filterMap_le _ _) ?_
    rw [List.length_zipIdx]
    simp
    omega
  refine wpAny_bind (listUpdate_at hl rfl ?_ (by rw [List.size_toArray, sizeLine_eq]; omega) hsz)
  refine wpAny_bind (wpAny_letGo ?_)
  exact wpAny_pure ⟨_, rfl, h⟩

theorem slice_keeps (F : Fr h₀ L s.heap m) (N : News h₀ L s.heap news) (o : Obj) : Fr h₀ L (s.heap.push o) m ∧ News h₀ L (s.heap.push o) news :=
  ⟨F.push o, fun p hp => ⟨Heap.get?_push_of_some _ (N p hp).1, (N p hp).2⟩⟩

/-- del xs[lo:], what is left are the first a items -/
theorem del_from {vl : Value} {lo : Option Int} {a : Nat} {Q : Unit → Shared → Prop} (F : Fr h₀ L s.heap m) (N : News h₀ L s.heap news) (U : UpdF l (listOf vs.toArray c) news g) (pl : IsPart vl lo)
    (hb : sliceBounds lo none none vs.length = ((a : Int), (vs.length : Int), 1)) (hz : vs.length ≤ 1000)
    (h : ∀ h' c', Fr h₀ L h' m → News h₀ L h' (g (listOf (vs.take a).toArray c')) → Q () { s with heap := h' }) :
    wpAny (model prog w) A (delItem (.ref l) (.ref s.heap.objs.size)) Q E { s with heap := s.heap.push { cls := .type "slice", data := .fields #[vl, .none, .none] } } := by
  obtain ⟨F₁, N₁⟩ := slice_keeps F N { cls := .type "slice", data := .fields #[vl, .none, .none] }
  have hl := upd_get (s := { s with heap := s.heap.push { cls := .type "slice", data := .fields #[vl, .none, .none] } }) N₁ U
  refine del_slice hl (Heap.IsSliceOf.new ..) pl hb hz ?_
  have ht : (vs.zipIdx.filterMap fun (x, k) => if sel a vs.length 1 k then none else some x) = vs.take a := keep_take a vs 0 (vs.length : Int) (by simp)
  obtain ⟨n', F', N'⟩ := upd_seq (s := { s with heap := s.heap.push { cls := .type "slice", data := .fields #[vl, .none, .none] } }) (ys := vs.take a) F₁ N₁ U (fun xs => (xs.toList.zipIdx.filterMap fun (x, k) => if sel a vs.length 1 k then none else some x).toArray) (congrArg List.toArray ht)
  exact h _ n' F' N'

theorem del_all {Q : Unit → Shared → Prop} (F : Fr h₀ L s.heap m) (N : News h₀ L s.heap news) (U : UpdF l (listOf vs.toArray c) news g) (hz : vs.length ≤ 1000)
    (h : ∀ h' c', Fr h₀ L h' m → News h₀ L h' (g (listOf ([] : List Value).toArray c')) → Q () { s with heap := h' }) :
    wpAny (model prog w) A (delItem (.ref l) (.ref s.heap.objs.size)) Q E { s with heap := s.heap.push { cls := .type "slice", data := .fields #[.none, .none, .none] } } :=
  del_from (a := 0) F N U .none (by simp [sliceBounds]) hz fun h' c' F' N' => h h' c' F' (by simpa using N')

theorem del_tail {i : Int} {t : Tok} {Q : Unit → Shared → Prop} (F : Fr h₀ L s.heap m) (N : News h₀ L s.heap news) (U : UpdF l (listOf vs.toArray c) news g) (hI : IntsAre vs (as ++ bs)) (hi : i = -(bs.length : Int)) (hp : 0 < bs.length) (hz : (as ++ bs).length ≤ 1000)
    (h : ∀ h' c' ws, IntsAre ws as → Fr h₀ L h' m → News h₀ L h' (g (listOf (List.toArray ws) c')) → Q () { s with heap := h' }) :
    wpAny (model prog w) A (delItem (.ref l) (.ref s.heap.objs.size)) Q E { s with heap := s.heap.push { cls := .type "slice", data := .fields #[.int i t, .none, .none] } } := by
  have hl := hI.length
  rw [List.length_append] at hl hz
  refine del_from (a := as.length) F N U (.int i t) ?_ (by omega) fun h' c' F' N' => h h' c' _ ?_ F' N'
  · simp only [sliceBounds]
    subst hi
    simp
    omega
  · have := hI.take as.length
    simpa using this

/-- xs[i:] with i = -len(bs) -/
theorem slice_tail {value slice : PySem.Expr} {i : Int} {t : Tok} {Q : Value → Shared → Prop} (F : Fr h₀ L s.heap m) (N : News h₀ L s.heap news) (hm : (l, listOf vs.toArray c) ∈ news) (hI : IntsAre vs (as ++ bs)) (hi : i = -(bs.length : Int)) (hp : 0 < bs.length) (hz : (as ++ bs).length ≤ 1000)
    (h : ∀ D ws h', Fr h₀ L h' m → News h₀ L h' ((D, listOf (List.toArray ws) 0) :: news) → (∀ p ∈ news, p.1 < D) → IntsAre ws bs → Q (.ref D) { s with heap := h' })
    (hs : subscripted slice false (.ref l) (.ref s.heap.objs.size) = operate [.ref s.heap.objs.size, .ref l] (getItem (.ref l) (.ref s.heap.objs.size))) (ht : ∀ r, letTemporaryGo value (.ref l) r = pure ()) :
    wpAny (model prog w) A (subscriptTail value slice (.ref l) (.ref s.heap.objs.size)) Q E { s with heap := s.heap.push { cls := .type "slice", data := .fields #[.int i t, .none, .none] } } := by
  have hl := hI.length
  have hk : IntsAre (slicePick vs.toArray (some i) none none).toList bs := by
    have := kmk_from_neg (x := i) hI (by omega)
    have e : (as ++ bs).length - (-i).toNat = as.length := by rw [List.length_append]; omega
    rw [e, List.drop_left] at this
    exact this
  exact kmk_slice_ints F N ⟨_, (N _ hm).1, rfl, _, rfl⟩ (.int i t) .none hI hk rfl (fun D ws h' F' N' l1 h1 _ _ => h D ws h' F' N' l1 h1) hs ht (by rw [List.size_toArray, sizeLine_eq]; omega)
end
end Mine
end
section
open PySem PySem.W PyProof.Rows PySem.Calls
open PySem.AutoSeq1 (wpAny_loadPart')
namespace Mine

theorem pop_none (l : Addr) (n : Nat) : Meets (Builtin.«list.pop» ⟨[.ref l], []⟩)
      (fun A R s => s.heap.get? l = some (listOf ([] : List Value).toArray n) ∧ raisesNew "IndexError" A R s) :=
  .of_wp fun prog w A R s h => by
    obtain ⟨hp, g, d, tk, os⟩ := s; obtain ⟨hl, h⟩ := h
    wp_walk using wpAny_loadPart' hl
    exact_raiseError plainExc_IndexError h.1 h.2

section
variable {prog : Program} {w : World} {A : Around} {E : Value → Shared → Prop} {K : Frag} {C x dx L l k : Addr} {s : Shared} {n c c' : Nat} {h₀ : Heap} {m : Str → Option Value} {news : List (Addr × Obj)} {g : Obj → List (Addr × Obj)} {vs us : List Value} {ns ms as bs : List Int}

theorem at_list (N : News h₀ L s.heap news) (hm : (l, listOf vs.toArray c) ∈ news) : s.heap.IsList l vs.toArray := ⟨_, (N _ hm).1, rfl, _, rfl⟩

/-- is a list of the ledger empty? -/
theorem truthy_split {Q : Bool → Shared → Prop} (N : News h₀ L s.heap news) (hm : (l, listOf vs.toArray c) ∈ news) (hz : vs.length ≤ 1000) (h0 : ∀ t, vs = [] → Q false { s with toks := t }) (h1 : ∀ t, vs ≠ [] → Q true { s with toks := t }) :
    wpAny (model prog w) A (truthy (.ref l)) Q E s := by
  refine wpAny_truthy_list (at_list N hm) (by rw [List.size_toArray]; omega) ?_
  cases vs with
  | nil => exact h0 _ rfl
  | cons a r => exact h1 _ (by simp)

theorem any_isV {v : Int} : ∀ {xs : List Value} {ds : List Int}, IntsAre xs ds → xs.any (isV v) = decide (v ∈ ds)
  | _, _, .nil => by simp
  | _, _, .cons a t h => by
    rw [List.any_cons, any_isV h]
    have e : isV v (.int a t) = decide (v = a) := by
      show (a == v) = decide (v = a)
      rw [Bool.eq_iff_iff, beq_iff_eq, decide_eq_true_eq]
      exact eq_comm
    rw [e]
    simp

/-- v in xs, two ways -/
theorem in_split {v : Int} {t : Tok} {Q : Value → Shared → Prop} (N : News h₀ L s.heap news) (hm : (l, listOf vs.toArray c) ∈ news) (hI : IntsAre vs ns) (h1 : v ∈ ns → Q (.bool true) s) (h0 : v ∉ ns → Q (.bool false) s) :
    wpAny (model prog w) A (compareOp .In (.int v t) (.ref l)) Q E s := by
  refine SeqInW.in_listW (isV v) (isV_gives hI) (at_list N hm) ?_
  rw [List.any_toArray, any_isV hI]
  by_cases e : v ∈ ns
  · rw [decide_eq_true e]; exact h1 e
  · rw [decide_eq_false e]; exact h0 e

theorem append_one {v : Value} {Q : Value → Shared → Prop} (F : Fr h₀ L s.heap m) (N : News h₀ L s.heap news) (U : UpdF l (listOf vs.toArray c) news g) (hz : vs.length ≤ 1000)
    (h : ∀ h' c', Fr h₀ L h' m → News h₀ L h' (g (listOf (vs ++ [v]).toArray c')) → Q .none { s with heap := h' }) :
    wpAny (model prog w) A (call (.builtin "list.append") [.ref l, v]) Q E s := by
  refine append_at (upd_get N U) (fun h' hs ho => ?_) (by rw [List.size_toArray, sizeLine_eq]; omega)
  rw [show vs.toArray.push v = (vs ++ [v]).toArray by simp] at ho
  obtain ⟨F', N'⟩ := upd_at F N U hs ho
  exact h h' _ F' N'
theorem append_int {v : Int} {t : Tok} {Q : Value → Shared → Prop} (F : Fr h₀ L s.heap m) (N : News h₀ L s.heap news) (U : UpdF l (listOf vs.toArray c) news g) (hI : IntsAre vs ns) (hz : ns.length ≤ 1000)
    (h : ∀ h' c' ws, IntsAre ws (ns ++ [v]) → Fr h₀ L h' m → News h₀ L h' (g (listOf (List.toArray ws) c')) → Q .none { s with heap := h' }) :
    wpAny (model prog w) A (call (.builtin "list.append") [.ref l, .int v t]) Q E s :=
  append_one F N U (by rw [hI.length]; exact hz) fun h' c' F' N' => h h' c' _ (hI.append (.cons v t .nil)) F' N'

theorem pop_one {v : Value} {Q : Value → Shared → Prop} (F : Fr h₀ L s.heap m) (N : News h₀ L s.heap news) (U : UpdF l (listOf (vs ++ [v]).toArray c) news g) (hz : vs.length ≤ 999)
    (h : ∀ h' c', Fr h₀ L h' m → News h₀ L h' (g (listOf vs.toArray c')) → Q v { s with heap := h' }) :
    wpAny (model prog w) A (call (.builtin "list.pop") [.ref l]) Q E s := by
  have hl := upd_get N U
  have hk : (vs ++ [v]).toArray.size - 1 = vs.length := by simp
  have hy : (vs ++ [v]).toArray[(vs ++ [v]).toArray.size - 1]? = some v := by rw [hk]; simp
  obtain ⟨n', F', N'⟩ := upd_seq F N U (fun xs => xs.eraseIdxIfInBounds ((vs ++ [v]).toArray.size - 1)) (ys := vs) (by rw [hk]; have := kl_erase vs [] v; simpa using this)
  exact call_meets PySem.F.slot_list_pop ⟨_, hl, rfl⟩ PySem.F.entry_list_pop (PySem.F.args_list_pop_1 _) (PySem.MeetsSeq.list_pop_last l _ c v hy (by rw [List.size_toArray, List.length_append, sizeLine_eq]; simp; omega)) ⟨hl, h _ n' F' N'⟩

theorem pop_empty {Q : Value → Shared → Prop} (N : News h₀ L s.heap news) (hm : (l, listOf ([] : List Value).toArray c) ∈ news) (hh : A.handled = none)
    (h : ∀ h' tk e, Heap.NewExc s.heap h' e "IndexError" → E (.ref e) { s with heap := h', toks := tk }) :
    wpAny (model prog w) A (call (.builtin "list.pop") [.ref l]) Q E s :=
  call_meets PySem.F.slot_list_pop ⟨_, (N _ hm).1, rfl⟩ PySem.F.entry_list_pop (PySem.F.args_list_pop_1 _) (pop_none l c) ⟨(N _ hm).1, hh, h⟩

/-- two lists of ints whose ints are the same -/
theorem ne_same {Q : Value → Shared → Prop} (N : News h₀ L s.heap news) (hm : (l, listOf vs.toArray c) ∈ news) (hI : IntsAre vs ns) (hm' : (k, listOf us.toArray c') ∈ news) (hI' : IntsAre us ms) (hu : A.units + 64 < cLine) (e : ns = ms)
    (h : Q (.bool false) s) : wpAny (model prog w) A (compareOp .NotEq (.ref l) (.ref k)) Q E s := by
  refine ne_intsK (at_list N hm) hI (at_list N hm') hI' hu ?_
  subst e
  simpa using h

/-- the item of a list of ints at a place within -/
theorem item_at {value slice : PySem.Expr} {i : Int} {u : Tok} {Q : Value → Shared → Prop} (N : News h₀ L s.heap news) (hm : (l, listOf vs.toArray c) ∈ news) (hI : IntsAre vs ns) (hz : ns.length ≤ 1000) (h0 : 0 ≤ i) (h1 : i < ns.length)
    (h : ∀ v t, v ∈ ns → Q (.int v t) s)
    (hs : subscripted slice false (.ref l) (.int i u) = operate [.ref l, .int i u] (getItem (.ref l) (.int i u)) := by with_unfolding_all rfl) :
    wpAny (model prog w) A (subscriptTail value slice (.ref l) (.int i u)) Q E s := by
  have hi : i.toNat < ns.length := by omega
  obtain ⟨t, ht⟩ := hI.get i.toNat ns[i.toNat] (by simp [hi])
  exact tail_any (at_list N hm).typeIs slot_list_getitem.lookup (wpAny_getItem_list (at_list N hm) h0 (by omega) (by simpa using ht) (h _ t (List.getElem_mem hi))) hs

theorem add_two {Q : Value → Shared → Prop} (F : Fr h₀ L s.heap m) (N : News h₀ L s.heap news) (hm : (l, listOf vs.toArray c) ∈ news) (hm' : (k, listOf us.toArray c') ∈ news) (hI : IntsAre vs ns) (hI' : IntsAre us ms) (hz : ns.length + ms.length ≤ 1000)
    (h : ∀ B ws h', IntsAre ws (ns ++ ms) → Fr h₀ L h' m → News h₀ L h' ((B, listOf (List.toArray ws) 0) :: news) → (∀ q ∈ news, q.1 < B) → Q (.ref B) { s with heap := h' }) :
    wpAny (model prog w) A (binaryOp .Add (.ref l) (.ref k)) Q E s :=
  add_lists F N (at_list N hm) (at_list N hm') (fun h' F' N' => h _ _ h' (hI.append hI') F' N' fun q hq => Heap.lt_size (N q hq).1) (by rw [hI.length, hI'.length, sizeLine_eq]; omega)
end
end Mine
end
section
namespace Mine
/-- the open states: what each frozen list is, from the top down -/
def St : List Int → List Int → List Int → List (List Int) → Prop
  | _, _, [], [] => True
  | d, h, n :: r, sh :: t => ∃ a b, h = a ++ b ∧ n = ((d.length + b.length : Nat) : Int) ∧ sh.Pairwise (· ≤ ·) ∧ sh.Perm (d ++ b) ∧ St (d ++ b) a r t
  | _, _, _, _ => False

theorem St.perm : ∀ {tn : List Int} {stk : List (List Int)} {d d' h : List Int}, d.Perm d' → St d h tn stk → St d' h tn stk
  | [], [], _, _, _, _, _ => trivial
  | n :: r, sh :: t, d, d', h, p, ⟨a, b, e, l, o, q, z⟩ =>
    ⟨a, b, e, by rw [l, p.length_eq], o, q.trans (p.append_right b), St.perm (p.append_right b) z⟩
  | [], _ :: _, _, _, _, _, z => z.elim
  | _ :: _, [], _, _, _, _, z => z.elim

theorem St.length : ∀ {tn : List Int} {stk : List (List Int)} {d h : List Int}, St d h tn stk → tn.length = stk.length
  | [], [], _, _, _ => rfl
  | n :: r, sh :: t, d, h, ⟨a, b, e, l, o, q, z⟩ => by rw [List.length_cons, List.length_cons, St.length z]
  | [], _ :: _, _, _, z => z.elim
  | _ :: _, [], _, _, z => z.elim

structure Good (wh d h tn sh : List Int) (stk : List (List Int)) : Prop where
  sorted : sh.Pairwise (· ≤ ·)
  perm : sh.Perm d
  all : (d ++ h).Perm wh
  st : St d h tn stk

theorem Good.len {wh d h tn sh : List Int} {stk : List (List Int)} (G : Good wh d h tn sh stk) : d.length + h.length = wh.length ∧ sh.length = d.length := by
  have := G.all.length_eq
  rw [List.length_append] at this
  exact ⟨this, G.perm.length_eq⟩

theorem eq_of_sorted {a b d : List Int} (p : a.Perm d) (o : a.Pairwise (· ≤ ·)) (q : b.Perm d) (r : b.Pairwise (· ≤ ·)) : a = b :=
  (p.trans q.symm).eq_of_pairwise (fun _ _ _ _ h1 h2 => Int.le_antisymm h1 h2) o r

theorem Good.push {wh d h tn sh : List Int} {stk : List (List Int)} (G : Good wh d h tn sh stk) : Good wh d h ((d.length : Int) :: tn) sh (sh :: stk) :=
  ⟨G.sorted, G.perm, G.all, h, [], by simp, by simp, G.sorted, by simpa using G.perm, by simpa using G.st⟩

theorem Good.mem {wh d h tn sh : List Int} {stk : List (List Int)} (G : Good wh d h tn sh stk) {v : Int} : v ∈ sh ↔ v ∈ d := G.perm.mem_iff

theorem Good.hide {wh d h tn sh : List Int} {stk : List (List Int)} (G : Good wh d h tn sh stk) {v : Int} (hv : v ∈ sh) : Good wh (d.erase v) (h ++ [v]) tn (sh.erase v) stk := by
  have hd : v ∈ d := G.mem.mp hv
  have p : d.Perm (d.erase v ++ [v]) := (List.perm_cons_erase hd).trans (List.perm_append_singleton _ _).symm
  refine ⟨G.sorted.sublist List.erase_sublist, G.perm.erase v, ?_, ?_⟩
  · refine List.Perm.trans ?_ G.all
    refine List.Perm.trans ?_ (p.symm.append_right h)
    rw [List.append_assoc]
    exact (List.perm_append_comm).append_left _
  · have z := G.st
    match tn, stk, z with
    | [], [], _ => trivial
    | n :: r, s :: t, ⟨a, b, e, l, o, q, z⟩ =>
      have pb : (d ++ b).Perm (d.erase v ++ (b ++ [v])) := by
        refine (p.append_right b).trans ?_
        rw [List.append_assoc]
        exact (List.perm_append_comm).append_left _
      refine ⟨a, b ++ [v], by rw [e, List.append_assoc], ?_, o, q.trans pb, St.perm pb z⟩
      have := p.length_eq
      simp only [List.length_append, List.length_singleton] at this ⊢
      rw [l]
      omega

theorem Good.pop {wh d h tn sh s : List Int} {stk : List (List Int)} {n : Int} (G : Good wh d h (n :: tn) sh (s :: stk)) :
    ∃ a b, h = a ++ b ∧ n = ((d.length + b.length : Nat) : Int) ∧ Good wh (d ++ b) a tn s stk := by
  obtain ⟨a, b, e, l, o, q, z⟩ := G.st
  refine ⟨a, b, e, l, o, q, ?_, z⟩
  refine List.Perm.trans ?_ G.all
  rw [e, List.append_assoc]
  exact (List.perm_append_comm).append_left _

theorem Good.reset {wh d h tn sh : List Int} {stk : List (List Int)} (G : Good wh d h tn sh stk) (o : wh.Pairwise (· ≤ ·)) : Good wh (d ++ h) [] [] wh [] :=
  ⟨o, G.all.symm, by simpa using G.all, trivial⟩
end Mine
end
section
open PySem PySem.W PyProof.Rows PySem.Calls PySem.Spec
namespace Mine
section
variable {prog : Program} {w : World} {A A₀ : Around} {E : Value → Shared → Prop} {s : Shared} {K : Frag} {L f : Addr} {h₀ base : Heap} {m mg mb : Str → Option Value} {news : List (Addr × Obj)} {p : Program} {loose : List Str} {mean : ExcName → Option Value}
  {env : Env} {R : Result → Shared → Prop} {name qual : Str} {params : Arguments} {body : List Stmt} {scope : Scope} {dV kV doc pm cdv ct oc : Value} {an od : Option Addr} {osl : Array (Option Value)} {args : Args} {binds : List (Str × Value)}

/-- a def with a try inside, called from a frame whose variables may be cells -/
theorem code_defSC (B : Below A₀ base [] h₀) (F : Fr h₀ L s.heap m) (X₀ : K.In h₀) (N : News h₀ L s.heap news) (T : Top p loose mean mg mb h₀) (hA : A.frames = some [env]) (hf : env.frame = some L) (hke : env.scope.kind = .function)
    (ho : K.lookup f = some ⟨oc, od, .func (fnOf name qual params body scope dV kV doc pm an cdv ct), osl⟩) (hcd : codeIn K cdv qual = true) (hroom : A.depth < recursionLimit)
    (hbind : BindsTo s (fnOf name qual params body scope dV kV doc pm an cdv ct) args binds) (hloc : ∀ y ∈ binds, scope.names.lookup y.1 = some .local)
    (h : ∀ g L' h₁, Fr h₀ L g m → Fr g L' h₁ (fun y => binds.reverse.lookup y) → News g L' h₁ news → Below A base [env] g → K.In g → Top p loose mean mg mb g → KtsDicts ([env].filterMap (·.frame)) g →
      wpAny (model prog w) (A.deeper (envOf qual scope L' f cdv)) (execs body (envOf qual scope L' f cdv))
        (fun fl s' => LeaveS0 ([env].filterMap (·.frame)) h₀ L m g R (match fl with | .ret v => v | _ => .none) s')
        (fun e s' => wpAny (model prog w) (A.deeper (envOf qual scope L' f cdv)) (leaving (envOf qual scope L' f cdv) e) (fun _ s'' => R (.error e) s'') (fun e' s'' => R (.error e') s'') s')
        { s with heap := h₁, toks := s.toks + binds.length })
    (hco : scope.isCoroutine = false) (hgen : scope.isGenerator = false) (hk : scope.kind = .function)
    (hcell : ∀ x ∈ scope.names, x.2 ≠ .cell) : codeAny (model prog w) A (.call (.ref f) args) R s := by
  have X := X₀.keeps F.keep
  obtain ⟨FG, BG, st, -⟩ := groundX (R := R) B F N hA hf hke
  have hfs : [env].filterMap (·.frame) = [L] := by simp [hf]
  refine codeAny_call_def (fd := fnOf name qual params body scope dV kV doc pm an cdv ct) (body := body) (binds := binds) hroom (X _ _ ho) rfl (T.nolimit.keeps F.keep) (codeRec_of X hcd) rfl hbind hcell hloc (fun h₁ hns hk₁ => ?_) hco hgen hk
  obtain ⟨oL, es, ep, hL, hLd, hLk, hLf⟩ := id F.ns
  have nL : L ∉ news.map (·.1) := fun q => by
    obtain ⟨p, hp, e⟩ := List.mem_map.mp q
    exact (N p hp).2.1 e
  have hLg := hideAll_get (news.map (·.1)) hL nL
  refine wpAny_mono (h _ s.heap.objs.size h₁ FG ⟨hns, fun b o e => hk₁ b o (of_hideAll _ e), Nat.le_of_eq (hideAll_size _ _)⟩
    (fun p hp => ⟨hk₁ _ _ (N p hp).1, Nat.ne_of_lt (Heap.lt_size (N p hp).1), hideAll_none _ (List.mem_map_of_mem hp)⟩) BG (X₀.keeps st) (T.keeps st) (fun b hb => by
      rw [hfs, List.mem_singleton] at hb
      subst hb
      exact ⟨oL, es, ep, hLg, hLd⟩)) (fun fl s' hl => ?_) fun _ _ y => y
  obtain ⟨g', L', m', news', T', F', N', k⟩ := hl
  have nL₀ : h₀.get? L = none := kts_self F
  obtain ⟨sl, hs⟩ := T'.up hLg
  refine k ⟨⟨_, es, ep, F'.keep _ _ hs, hLd, hLk, hLf⟩, fun b o e => F'.keep b o (T'.other b o (st b o e) (fun q => by
    rw [hfs, List.mem_singleton] at q
    rw [q, nL₀] at e
    cases e)), F.above⟩ fun p hp => ⟨(N' p hp).1, fun q => ?_, ?_⟩
  · have := (N' p hp).2.2; rw [q, hs] at this; cases this
  · cases q : h₀.get? p.1 with
    | none => rfl
    | some o =>
      obtain ⟨sl', hs'⟩ := T'.up (st _ _ q)
      have := (N' p hp).2.2
      rw [hs'] at this
      cases this
end
end Mine
end
section
open PySem PySem.W PyProof.Rows Mine
namespace Mine
def defBody : Stmt → List Stmt
  | .FunctionDef _ _ body _ _ _ _ _ _ _ => body
  | _ => []
def defScope : Stmt → Option Scope
  | .FunctionDef _ _ _ _ _ _ sc _ _ _ => some sc
  | _ => none
def forBody : Stmt → List Stmt
  | .For _ _ body _ _ => body
  | .While _ body _ _ => body
  | _ => []
def lawDef : Stmt := (PySem.Challenge.pw_fb0031_01.main.body.drop 5).headD default
def lawBody : List Stmt := defBody lawDef
def lawScope : Scope := (defScope lawDef).getD default
abbrev lawEnv (L fa : Addr) (cd : Value) : Env := envOfC (Str.ofString "law") lawScope L fa cd
end Mine
end
section
open PySem PySem.W PyProof.Rows PySem.Calls
namespace Mine

/-- frozen lists: the objects and their ints, from the top of the stack down -/
inductive SavedAre : List (Addr × Obj) → List (List Int) → Prop
  | nil : SavedAre [] []
  | cons {a : Addr} {vs : List Value} {c : Nat} {ns : List Int} {r : List (Addr × Obj)} {t : List (List Int)} : IntsAre vs ns → SavedAre r t → SavedAre ((a, listOf vs.toArray c) :: r) (ns :: t)
theorem SavedAre.length {r : List (Addr × Obj)} {t : List (List Int)} (h : SavedAre r t) : r.length = t.length := by
  induction h with
  | nil => rfl
  | cons _ _ ih => rw [List.length_cons, List.length_cons, ih]

/-- where the frozen lists lie -/
def SvOk (W I st sh : Addr) (saved : List (Addr × Obj)) : Prop := ∀ p ∈ saved, @LT.lt Nat _ W p.1 ∧ @Ne Nat p.1 I ∧ @Ne Nat p.1 st ∧ @Ne Nat p.1 sh
theorem SvOk.head {W I st sh : Addr} {p : Addr × Obj} {r : List (Addr × Obj)} (h : SvOk W I st sh (p :: r)) : @LT.lt Nat _ W p.1 ∧ @Ne Nat p.1 I ∧ @Ne Nat p.1 st ∧ @Ne Nat p.1 sh := h p (.head _)
theorem SvOk.tail {W I st sh : Addr} {p : Addr × Obj} {r : List (Addr × Obj)} (h : SvOk W I st sh (p :: r)) : SvOk W I st sh r := fun q hq => h q (.tail _ hq)
theorem off_tail {adr : List Addr} {p : Addr × Obj} {r : List (Addr × Obj)} (h : OwnOff (p :: r) adr) : OwnOff r adr := fun q hq => h q (.tail _ hq)

structure Fx where
  (I W T TD SL HL D DD H V R C : Addr)
  (oI oc : Obj)
  (wv vv rv tv : List Value)
  (wc vc rc tc hhc : Nat)
  (t1 t2 : Tok)
structure LS where
  (st sh : Addr)
  (stv shv sv hv dv : List Value)
  (stc shc sc hc dc : Nat)
  (saved : List (Addr × Obj))
  (shn tn hn dn : List Int)
  (stk : List (List Int))

abbrev domDict (w : World) (HL SL : Addr) (t1 t2 : Tok) : Obj := dictOf [⟨PyData.keyHash w.params (Str.ofString "_hidden"), .str (Str.ofString "_hidden") t1, .ref HL⟩, ⟨PyData.keyHash w.params (Str.ofString "_states"), .str (Str.ofString "_states") t2, .ref SL⟩] 2

def Led (w : World) (x : Fx) (c : LS) : List (Addr × Obj) :=
  (c.st, listOf c.stv.toArray c.stc) :: (c.sh, listOf c.shv.toArray c.shc) :: (x.I, x.oI) :: (x.W, listOf x.wv.toArray x.wc) :: (x.T, domObj 59 x.TD x.tv.toArray x.tc) :: (x.SL, listOf c.sv.toArray c.sc) :: (x.HL, listOf c.hv.toArray c.hc) ::
  (x.D, domObj 59 x.DD c.dv.toArray c.dc) :: (x.DD, domDict w x.HL x.SL x.t1 x.t2) :: (x.H, listOf x.vv.toArray x.hhc) :: (x.V, listOf x.vv.toArray x.vc) :: (x.R, listOf x.rv.toArray x.rc) :: (x.C, x.oc) :: c.saved

structure Ord (x : Fx) : Prop where
  o1 : @LT.lt Nat _ x.C x.R
  o2 : @Ne Nat x.R x.V
  o2b : @Ne Nat x.C x.V
  o2c : @LT.lt Nat _ x.R x.H
  o3 : @LT.lt Nat _ x.V x.H
  o4 : @LT.lt Nat _ x.H x.DD
  o5 : @LT.lt Nat _ x.DD x.D
  o6 : @LT.lt Nat _ x.D x.HL
  o7 : @LT.lt Nat _ x.HL x.SL
  o8 : @LT.lt Nat _ x.SL x.T
  o9 : @LT.lt Nat _ x.T x.W
  o10 : @LT.lt Nat _ x.W x.I

structure Ok (x : Fx) (wh : List Int) (k : Nat) (c : LS) : Prop where
  a1 : @LT.lt Nat _ x.W c.st
  a2 : @LT.lt Nat _ x.W c.sh
  a3 : @Ne Nat c.st c.sh
  a4 : @Ne Nat c.st x.I
  a5 : @Ne Nat c.sh x.I
  sv : SvOk x.W x.I c.st c.sh c.saved
  nd : (c.saved.map (·.1)).Nodup
  i1 : IntsAre c.shv c.shn
  i2 : IntsAre c.sv c.tn.reverse
  i3 : IntsAre c.hv c.hn
  i4 : IntsAre c.dv c.dn
  s1 : SavedAre c.saved c.stk
  s2 : c.stv = (c.saved.map fun p => Value.ref p.1).reverse
  good : Good wh c.dn c.hn c.tn c.shn c.stk
  len : c.stk.length ≤ k

structure Names (x : Fx) (c : LS) (m : Str → Option Value) : Prop where
  n1 : m (Str.ofString "stack") = some (.ref c.st)
  n2 : m (Str.ofString "shown") = some (.ref c.sh)
  n3 : m (Str.ofString "domain") = some (.ref x.D)
  n4 : m (Str.ofString "values") = some (.ref x.V)
  n5 : m (Str.ofString "whole") = some (.ref x.W)
  n6 : m (Str.ofString "twin") = some (.ref x.T)
  n7 : m (Str.ofString "handed") = some (.ref x.H)

def PostT (w : World) (x : Fx) (wh : List Int) (h₀ : Heap) (L : Addr) (k : Nat) (s₁ : Shared) (f : Flow) (s₂ : Shared) : Prop :=
  f = .next ∧ ∃ h' tk m' c', s₂ = { s₁ with heap := h', toks := tk } ∧ Fr h₀ L h' m' ∧ News h₀ L h' (Led w x c') ∧ Ok x wh k c' ∧ Names x c' m'

theorem fr_names {h₀ h : Heap} {L : Addr} {m : Str → Option Value} {x : Fx} {c : LS} {v : Value} (n : Names x c m) (F : Fr h₀ L h (fun y => if y = Str.ofString "place" then some v else m y)) :
    Fr h₀ L h (fun y => if y = Str.ofString "place" then some v else if y = Str.ofString "stack" then some (.ref c.st) else if y = Str.ofString "shown" then some (.ref c.sh) else if y = Str.ofString "domain" then some (.ref x.D)
      else if y = Str.ofString "values" then some (.ref x.V) else if y = Str.ofString "whole" then some (.ref x.W) else m y) := by
  have e : (fun y => if y = Str.ofString "place" then some v else if y = Str.ofString "stack" then some (.ref c.st) else if y = Str.ofString "shown" then some (.ref c.sh) else if y = Str.ofString "domain" then some (.ref x.D)
      else if y = Str.ofString "values" then some (.ref x.V) else if y = Str.ofString "whole" then some (.ref x.W) else m y) = fun y => if y = Str.ofString "place" then some v else m y := by
    funext y
    split
    · rfl
    · split
      · rename_i q; rw [q, n.n1]
      · split
        · rename_i q; rw [q, n.n2]
        · split
          · rename_i q; rw [q, n.n3]
          · split
            · rename_i q; rw [q, n.n4]
            · split
              · rename_i q; rw [q, n.n5]
              · rfl
  rw [e]
  exact F

theorem stack_nil {saved : List (Addr × Obj)} {stk : List (List Int)} {stv sv : List Value} {wh dn hn tn shn : List Int} (h : stv = []) (s2 : stv = (saved.map fun p => Value.ref p.1).reverse) (s1 : SavedAre saved stk) (G : Good wh dn hn tn shn stk) (i2 : IntsAre sv tn.reverse) :
    saved = [] ∧ stk = [] ∧ tn = [] ∧ sv = [] := by
  have e : saved = [] := by
    rw [h] at s2
    have := congrArg List.length s2
    simp at this
    exact List.eq_nil_of_length_eq_zero (by first | exact this | exact this.symm | (rw [← this]) | simp [this])
  subst e
  cases s1
  have e : tn = [] := List.eq_nil_of_length_eq_zero (St.length G.st)
  subst e
  exact ⟨rfl, rfl, rfl, IntsAre.nil_inv i2⟩

theorem stack_cons {saved : List (Addr × Obj)} {stk : List (List Int)} {stv sv : List Value} {wh dn hn tn shn : List Int} {k : Nat} (h : stv ≠ []) (s2 : stv = (saved.map fun p => Value.ref p.1).reverse) (s1 : SavedAre saved stk) (G : Good wh dn hn tn shn stk) (i2 : IntsAre sv tn.reverse) (ln : stk.length ≤ k) :
    ∃ a vs c ns r t n tn' rv q tk ha hb, saved = (a, listOf (List.toArray vs) c) :: r ∧ stk = ns :: t ∧ tn = n :: tn' ∧ stv = rv ++ [.ref a] ∧ sv = q ++ [.int n tk] ∧ hn = ha ++ hb ∧ n = ((dn.length + hb.length : Nat) : Int) ∧
      rv = (r.map fun p => Value.ref p.1).reverse ∧ IntsAre q tn'.reverse ∧ IntsAre vs ns ∧ SavedAre r t ∧ Good wh (dn ++ hb) ha tn' ns t ∧
      t.length + 1 ≤ k ∧ rv.length = t.length ∧ q.length = t.length ∧ dn.length + hb.length + ha.length = wh.length ∧ vs.length = dn.length + hb.length := by
  cases s1 with
  | nil => exact absurd s2 (by simpa using h)
  | @cons a vs c ns r t hI s1 =>
    cases tn with
    | nil => exact absurd (St.length G.st) (by simp)
    | cons n tn' =>
      obtain ⟨ha, hb, e, l, G'⟩ := G.pop
      rw [List.reverse_cons] at i2
      obtain ⟨q, tk, eq, iq⟩ := ints_split i2
      have e1 := G'.len
      have e2 := s1.length
      have e3 := St.length G'.st
      have e4 := iq.length
      have e5 := hI.length
      rw [List.length_append] at e1
      rw [List.length_reverse] at e4
      rw [List.length_cons] at ln
      refine ⟨a, vs, c, ns, r, t, n, tn', (r.map fun p => Value.ref p.1).reverse, q, tk, ha, hb, rfl, rfl, rfl, by rw [s2]; simp, eq, e, l, rfl, iq, hI, s1, G', ln, by simp [e2], by omega, by omega, by omega⟩

theorem perm_nil_right {a d b : List Int} (p : a.Perm (d ++ b)) (h : b.length = 0) : a.Perm d := by
  obtain rfl := List.eq_nil_of_length_eq_zero h
  simpa using p

theorem news_cons {h₀ h : Heap} {L : Addr} {l l' : List (Addr × Obj)} {p : Addr × Obj} (N : News h₀ L h l) (hp : p ∈ l) (N' : News h₀ L h l') : News h₀ L h (p :: l') := fun q hq => by
  rcases List.mem_cons.mp hq with rfl | hq
  · exact N _ hp
  · exact N' q hq
theorem news_sub {h₀ h : Heap} {L : Addr} {l l' : List (Addr × Obj)} (N : News h₀ L h l) (hs : ∀ p ∈ l', p ∈ l) : News h₀ L h l' := fun q hq => N q (hs q hq)

section
variable {K : Frag} {C x dx L : Addr} {h₀ h : Heap} {m : Str → Option Value} {news : List (Addr × Obj)} {n : Nat} {a : Array Value}
theorem at_listH {vs : List Value} {c : Nat} (N : News h₀ L h news) (hm : (x, listOf vs.toArray c) ∈ news) : h.IsList x vs.toArray := ⟨_, (N _ hm).1, rfl, _, rfl⟩
theorem domAt_of (F : Fr h₀ L h m) (X₀ : K.In h₀) (N : News h₀ L h news) (h1 : (x, domObj C dx a n) ∈ news) (ho : overL K C = true) (hs : seqL K C = true) : DomAt K C h x a :=
  ⟨⟨dx, n, (N _ h1).1⟩, X₀.keeps F.keep, ho, hs⟩
end
end Mine
end
section
open PySem PySem.W PyProof.Rows PySem.Calls
namespace Mine
theorem meta_list' : typeOf (.type "list") = pure (.type "type") := by kernel_rfl
theorem allLt_ne {d : Addr} : ∀ {l : List (Addr × Obj)}, AllLt d l → d ∉ l.map (·.1)
  | [], _ => by simp
  | p :: r, ⟨h1, h2⟩ => by
    intro hm
    rw [List.map_cons] at hm
    rcases List.mem_cons.mp hm with e | hm
    · exact Nat.lt_irrefl p.1 (by rw [e] at h1; exact h1)
    · exact allLt_ne h2 hm

theorem ok_push {x : Fx} {wh : List Int} {k : Nat} {st sh D' : Addr} {stv shv sv' hv dv : List Value} {stc shc sc hc dc cc : Nat} {saved : List (Addr × Obj)} {shn tn hn dn : List Int} {stk : List (List Int)}
    (a1 : @LT.lt Nat _ x.W st) (a2 : @LT.lt Nat _ x.W sh) (a3 : @Ne Nat st sh) (a4 : @Ne Nat st x.I) (a5 : @Ne Nat sh x.I) (sv : SvOk x.W x.I st sh saved) (nd : (saved.map (·.1)).Nodup)
    (i1 : IntsAre shv shn) (i2 : IntsAre sv' (tn.reverse ++ [(dn.length : Int)])) (i3 : IntsAre hv hn) (i4 : IntsAre dv dn) (s1 : SavedAre saved stk) (s2 : stv = (saved.map fun p => Value.ref p.1).reverse) (G : Good wh dn hn tn shn stk) (ln : stk.length ≤ k)
    (d1 : @LT.lt Nat _ x.W D') (d2 : @LT.lt Nat _ x.I D') (d3 : @LT.lt Nat _ st D') (d4 : @LT.lt Nat _ sh D') (d5 : AllLt D' saved) :
    Ok x wh (k + 1) ⟨st, sh, stv ++ [.ref D'], shv, sv', hv, dv, stc, shc, sc, hc, dc, (D', listOf shv.toArray cc) :: saved, shn, (dn.length : Int) :: tn, hn, dn, shn :: stk⟩ where
  a1 := a1
  a2 := a2
  a3 := a3
  a4 := a4
  a5 := a5
  sv := fun q hq => by
    rcases List.mem_cons.mp hq with rfl | hq
    · exact ⟨d1, Nat.ne_of_gt d2, Nat.ne_of_gt d3, Nat.ne_of_gt d4⟩
    · exact sv q hq
  nd := by
    show List.Nodup (D' :: saved.map (·.1))
    exact List.nodup_cons.mpr ⟨allLt_ne d5, nd⟩
  i1 := i1
  i2 := by show IntsAre sv' ((dn.length : Int) :: tn).reverse; rw [List.reverse_cons]; exact i2
  i3 := i3
  i4 := i4
  s1 := .cons i1 s1
  s2 := by show stv ++ _ = _; rw [s2]; simp
  good := G.push
  len := by show (shn :: stk).length ≤ _; rw [List.length_cons]; omega

theorem ok_same {x : Fx} {wh : List Int} {k : Nat} {st sh : Addr} {stv shv sv hv dv : List Value} {stc shc sc hc dc : Nat} {saved : List (Addr × Obj)} {shn tn hn dn : List Int} {stk : List (List Int)}
    (a1 : @LT.lt Nat _ x.W st) (a2 : @LT.lt Nat _ x.W sh) (a3 : @Ne Nat st sh) (a4 : @Ne Nat st x.I) (a5 : @Ne Nat sh x.I) (sv0 : SvOk x.W x.I st sh saved) (nd : (saved.map (·.1)).Nodup)
    (i1 : IntsAre shv shn) (i2 : IntsAre sv tn.reverse) (i3 : IntsAre hv hn) (i4 : IntsAre dv dn) (s1 : SavedAre saved stk) (s2 : stv = (saved.map fun p => Value.ref p.1).reverse) (G : Good wh dn hn tn shn stk) (ln : stk.length ≤ k) :
    Ok x wh (k + 1) ⟨st, sh, stv, shv, sv, hv, dv, stc, shc, sc, hc, dc, saved, shn, tn, hn, dn, stk⟩ :=
  ⟨a1, a2, a3, a4, a5, sv0, nd, i1, i2, i3, i4, s1, s2, G, Nat.le_succ_of_le ln⟩

theorem ok_pop {x : Fx} {wh : List Int} {k : Nat} {st a : Addr} {rv vs sv' hv' dv' : List Value} {stc c sc hc dc : Nat} {r : List (Addr × Obj)} {ns tn ha dn : List Int} {t : List (List Int)} {sh : Addr}
    (a1 : @LT.lt Nat _ x.W st) (sv0 : SvOk x.W x.I st sh ((a, listOf vs.toArray c) :: r)) (nd : (((a, listOf vs.toArray c) :: r).map (·.1)).Nodup) (a4 : @Ne Nat st x.I)
    (i1 : IntsAre vs ns) (i2 : IntsAre sv' tn.reverse) (i3 : IntsAre hv' ha) (i4 : IntsAre dv' dn) (s1 : SavedAre r t) (s2 : rv = (r.map fun p => Value.ref p.1).reverse) (G : Good wh dn ha tn ns t) (ln : t.length + 1 ≤ k) :
    Ok x wh (k + 1) ⟨st, a, rv, vs, sv', hv', dv', stc, c, sc, hc, dc, r, ns, tn, ha, dn, t⟩ where
  a1 := a1
  a2 := (sv0.head).1
  a3 := Ne.symm (sv0.head).2.2.1
  a4 := a4
  a5 := (sv0.head).2.1
  sv := fun q hq => by
    have hq' : q ∈ r := hq
    refine ⟨(sv0.tail q hq').1, (sv0.tail q hq').2.1, (sv0.tail q hq').2.2.1, ?_⟩
    intro e
    have n := (List.nodup_cons.mp nd).1
    exact n (List.mem_map.mpr ⟨q, hq', e⟩)
  nd := (List.nodup_cons.mp nd).2
  i1 := i1
  i2 := i2
  i3 := i3
  i4 := i4
  s1 := s1
  s2 := s2
  good := G
  len := by show t.length ≤ _; omega

theorem ok_pop0 {x : Fx} {wh : List Int} {k : Nat} {st a : Addr} {rv vs sv' hv' dv' : List Value} {stc c sc hc dc : Nat} {r : List (Addr × Obj)} {ns tn ha hb dn : List Int} {t : List (List Int)} {sh : Addr}
    (a1 : @LT.lt Nat _ x.W st) (sv0 : SvOk x.W x.I st sh ((a, listOf vs.toArray c) :: r)) (nd : (((a, listOf vs.toArray c) :: r).map (·.1)).Nodup) (a4 : @Ne Nat st x.I)
    (i1 : IntsAre vs ns) (i2 : IntsAre sv' tn.reverse) (i3 : IntsAre hv' (ha ++ hb)) (i4 : IntsAre dv' dn) (s1 : SavedAre r t) (s2 : rv = (r.map fun p => Value.ref p.1).reverse) (G : Good wh (dn ++ hb) ha tn ns t) (ln : t.length + 1 ≤ k) (z : hb.length = 0) :
    Ok x wh (k + 1) ⟨st, a, rv, vs, sv', hv', dv', stc, c, sc, hc, dc, r, ns, tn, ha, dn, t⟩ := by
  obtain rfl := List.eq_nil_of_length_eq_zero z
  rw [List.append_nil] at i3 G
  exact ok_pop a1 sv0 nd a4 i1 i2 i3 i4 s1 s2 G ln

theorem lt15 {p1 p2 p3 p4 p5 p6 p7 p8 p9 p10 p11 p12 p13 p14 p15 q : Prop} (h : p1 ∧ p2 ∧ p3 ∧ p4 ∧ p5 ∧ p6 ∧ p7 ∧ p8 ∧ p9 ∧ p10 ∧ p11 ∧ p12 ∧ p13 ∧ p14 ∧ p15 ∧ q) : q := h.2.2.2.2.2.2.2.2.2.2.2.2.2.2.2

theorem ok_reset {x : Fx} {wh : List Int} {k : Nat} {st sh : Addr} {shv dv' : List Value} {stc shc sc hc dc : Nat} {dn hn tn shn : List Int} {stk : List (List Int)}
    (a1 : @LT.lt Nat _ x.W st) (a2 : @LT.lt Nat _ x.W sh) (a3 : @LT.lt Nat _ sh st) (a4 : @LT.lt Nat _ x.I st) (a5 : @LT.lt Nat _ x.I sh)
    (i1 : IntsAre shv wh) (i4 : IntsAre dv' (dn ++ hn)) (G : Good wh dn hn tn shn stk) (o : wh.Pairwise (· ≤ ·)) :
    Ok x wh (k + 1) ⟨st, sh, [], shv, [], [], dv', stc, shc, sc, hc, dc, [], wh, [], [], dn ++ hn, []⟩ where
  a1 := a1
  a2 := a2
  a3 := Nat.ne_of_gt a3
  a4 := Nat.ne_of_gt a4
  a5 := Nat.ne_of_gt a5
  sv := fun q hq => absurd hq (by simp)
  nd := by simp
  i1 := i1
  i2 := IntsAre.nil
  i3 := IntsAre.nil
  i4 := i4
  s1 := .nil
  s2 := rfl
  good := G.reset o
  len := Nat.zero_le _

theorem fin {w : World} {x : Fx} {c' : LS} {wh : List Int} {h₀ h' : Heap} {L : Addr} {k tk : Nat} {s : Shared} {m' : Str → Option Value} {news : List (Addr × Obj)} (F : Fr h₀ L h' m') (N : News h₀ L h' news)
    (O : Ok x wh k c') (hl : ∀ p ∈ Led w x c', p ∈ news) (NM : Names x c' m') :
    PostT w x wh h₀ L k s Flow.next { heap := h', gens := s.gens, drawn := s.drawn, toks := tk, os := s.os } :=
  ⟨rfl, h', tk, m', c', rfl, F, news_sub N hl, O, NM⟩
theorem ok_at {x : Fx} {wh : List Int} {k : Nat} {c c' : LS} (O : Ok x wh k c) (e : c = c') : Ok x wh k c' := e ▸ O
end Mine
end
section
open PySem PySem.W PyProof.Rows PySem.Calls
namespace Mine
theorem iter_own {prog : Program} {w : World} {A : Around} {E : Value → Shared → Prop} {Q : Flow → Shared → Prop} {s : Shared} {env : Env} {h₀ : Heap} {x : Str} {body : List Stmt} {r : Addr} {a₀ b₀ c₀ : Int} {t₀ u₀ v₀ : Tok} {n : Nat}
    {m₀ : Str → Option Value} {news : List (Addr × Obj)} (hh : A.handled = none) (hr : IsRange s.heap r a₀ b₀ c₀ t₀ u₀ v₀) (hsmall : Builtin.Range.small a₀ b₀ c₀ = true) (hn : Builtin.Range.rangeSize a₀ b₀ c₀ = (n : Int))
    (F : Fr h₀ env.locals s.heap m₀) (N : News h₀ env.locals s.heap news) (J : Nat → (Str → Option Value) → List (Addr × Obj) → Prop) (h0 : J 0 m₀ news)
    (turn : ∀ (i : Nat) t m₁ news₁ s₁ oI, (∃ h tk, s₁ = { s with heap := h, toks := tk }) → i < n → J i m₁ news₁ → (∀ p ∈ news₁, @Ne Nat p.1 s.heap.objs.size) →
      Fr h₀ env.locals s₁.heap (fun y => if y = x then some (.int (a₀ + i * c₀) t) else m₁ y) → News h₀ env.locals s₁.heap ((s.heap.objs.size, oI) :: news₁) →
      wpAny (model prog w) A (execs body env) (fun f s₂ => f = .next ∧ ∃ h' tk m₂ news₂, s₂ = { s₁ with heap := h', toks := tk } ∧ Fr h₀ env.locals h' m₂ ∧ News h₀ env.locals h' ((s.heap.objs.size, oI) :: news₂) ∧
        (∀ p ∈ news₂, @Ne Nat p.1 s.heap.objs.size) ∧ J (i + 1) m₂ news₂) E s₁)
    (done : ∀ h' tk m' news', Fr h₀ env.locals h' m' → News h₀ env.locals h' news' → J n m' news' → Q .next { s with heap := h', toks := tk }) :
    wpAny (model prog w) A (pyIter (.ref r)) (fun it s₂ => LoopAtV prog w A h₀ env x body Q E it s₂) E s := by
  refine wpAny_pyIter_range hr hsmall ?_
  have hnone : h₀.get? s.heap.objs.size = none := by
    cases e : h₀.get? s.heap.objs.size with
    | none => rfl
    | some o => exact absurd (Heap.lt_size (F.keep _ o e)) (Nat.lt_irrefl _)
  refine ⟨_, [s.heap.objs.size], [s.heap.objs.size], n, _, _, m₀, news, J, rfl, Walks.range hh s.heap.objs.size a₀ c₀ n, ?_, ?_, ?_, ?_, F.push _, fun p hp => ⟨Heap.get?_push_of_some _ (N p hp).1, (N p hp).2⟩, h0, ?_, ?_⟩
  · intro hm
    exact absurd F.ns.lt ((List.mem_singleton.mp hm) ▸ Nat.lt_irrefl _)
  · intro b hb
    rw [List.mem_singleton.mp hb]
    exact hnone
  · intro p hp hm
    have := Heap.lt_size (N p hp).1
    rw [List.mem_singleton.mp hm] at this
    exact Nat.lt_irrefl _ this
  · show IsRangeIter _ _ _ _ _
    rw [hn]
    simpa using Heap.get?_push_size _ rfl
  · rintro i v m₁ news₁ s₁ own ⟨h, tk, rfl⟩ hi ⟨t, rfl⟩ hJ hne hsub hget hall hst F₁ N₁
    have hm := hall _ (List.mem_singleton.mpr rfl) hnone _ hst
    refine wpAny_mono (turn i t m₁ news₁ _ _ ⟨_, _, rfl⟩ hi hJ (fun p hp e => hne p hp (List.mem_singleton.mpr e)) F₁ (news_cons N₁ (List.mem_append_left _ hm) (news_sub N₁ fun p hp => List.mem_append_right _ hp))) (fun f s₂ h => ?_) fun _ _ e => e
    obtain ⟨rfl, h', tk', m₂, news₂, rfl, F₂, N₂, hne₂, hJ₂⟩ := h
    refine LoopStepV.next (LoopStepU.intro F₂ (fun p hp => ?_) (fun p hp hm' => hne₂ p hp (List.mem_singleton.mp hm')) hJ₂)
    rcases List.mem_append.mp hp with hp | hp
    · have e1 := List.mem_singleton.mp (hsub p hp)
      have e2 := hget p hp
      rw [e1] at e2
      have e3 := Option.some.inj (e2.symm.trans hst)
      obtain ⟨p1, p2⟩ := p
      dsimp only at e1 e3
      subst e1
      subst e3
      exact N₂ _ (.head _)
    · exact N₂ _ (.tail _ hp)
  · exact fun h' tk m' news' F' N' _ hJ => done h' tk m' news' F' N' hJ

def Led0 (w : World) (x : Fx) (c : LS) : List (Addr × Obj) :=
  (c.st, listOf c.stv.toArray c.stc) :: (c.sh, listOf c.shv.toArray c.shc) :: (x.W, listOf x.wv.toArray x.wc) :: (x.T, domObj 59 x.TD x.tv.toArray x.tc) :: (x.SL, listOf c.sv.toArray c.sc) :: (x.HL, listOf c.hv.toArray c.hc) ::
  (x.D, domObj 59 x.DD c.dv.toArray c.dc) :: (x.DD, domDict w x.HL x.SL x.t1 x.t2) :: (x.H, listOf x.vv.toArray x.hhc) :: (x.V, listOf x.vv.toArray x.vc) :: (x.R, listOf x.rv.toArray x.rc) :: (x.C, x.oc) :: c.saved

theorem led_of {w : World} {x : Fx} {c : LS} {p : Addr × Obj} (h : p ∈ Led w x c) : p ∈ (x.I, x.oI) :: Led0 w x c := by
  simp only [Led, Led0, List.mem_cons] at h ⊢
  rcases h with h | h | h | h
  · exact .inr (.inl h)
  · exact .inr (.inr (.inl h))
  · exact .inl h
  · exact .inr (.inr (.inr h))
theorem led_to {w : World} {x : Fx} {c : LS} {p : Addr × Obj} (h : p ∈ (x.I, x.oI) :: Led0 w x c) : p ∈ Led w x c := by
  simp only [Led, Led0, List.mem_cons] at h ⊢
  rcases h with h | h | h | h
  · exact .inr (.inr (.inl h))
  · exact .inl h
  · exact .inr (.inl h)
  · exact .inr (.inr (.inr h))
theorem led0_ne {w : World} {x : Fx} {c : LS} {wh : List Int} {k : Nat} (O : Ord x) (K : Ok x wh k c) : ∀ p ∈ Led0 w x c, @Ne Nat p.1 x.I := by
  intro p hp
  simp only [Led0, List.mem_cons] at hp
  obtain ⟨o1, o2, o2b, o2c, o3, o4, o5, o6, o7, o8, o9, o10⟩ := O
  rcases hp with rfl | rfl | rfl | rfl | rfl | rfl | rfl | rfl | rfl | rfl | rfl | rfl | hp
  · exact K.a4
  · exact K.a5
  · dsimp only; omega
  · dsimp only; omega
  · dsimp only; omega
  · dsimp only; omega
  · dsimp only; omega
  · dsimp only; omega
  · dsimp only; omega
  · dsimp only; omega
  · dsimp only; omega
  · dsimp only; omega
  · exact (K.sv p hp).2.1
end Mine
end
section
open PySem PySem.W PyProof.Rows PySem.Calls
namespace Mine
theorem eq_three {prog : Program} {w : World} {A : Around} {E : Value → Shared → Prop} {s : Shared} {h₀ : Heap} {L p q a b c a' b' c' : Addr} {news : List (Addr × Obj)} {Q : Value → Shared → Prop} {va vb vc va' vb' vc' : List Value} {na nb nc na' nb' nc' : List Int} {n1 n2 x1 x2 x3 x4 x5 x6 : Nat}
    (N : News h₀ L s.heap news) (h1 : (p, listOf #[.ref a, .ref b, .ref c] n1) ∈ news) (h2 : (q, listOf #[.ref a', .ref b', .ref c'] n2) ∈ news)
    (ma : (a, listOf va.toArray x1) ∈ news) (mb : (b, listOf vb.toArray x2) ∈ news) (mc : (c, listOf vc.toArray x3) ∈ news) (ma' : (a', listOf va'.toArray x4) ∈ news) (mb' : (b', listOf vb'.toArray x5) ∈ news) (mc' : (c', listOf vc'.toArray x6) ∈ news)
    (ia : IntsAre va na) (ib : IntsAre vb nb) (ic : IntsAre vc nc) (ia' : IntsAre va' na') (ib' : IntsAre vb' nb') (ic' : IntsAre vc' nc') (ea : na = na') (eb : nb = nb') (ec : nc = nc') (hu : A.units + 64 < cLine) (h : Q (.bool true) s) :
    wpAny (model prog w) A (compareOp .Eq (.ref p) (.ref q)) Q E s := by
  subst ea eb ec
  refine eq_dataH (reads_list_at (N.get h1) rfl rfl (.cons (reads_newData (at_list N ma) (ke_carried ia)) (.cons (reads_newData (at_list N mb) (ke_carried ib)) (.cons (reads_newData (at_list N mc) (ke_carried ic)) .nil))))
    (reads_list_at (N.get h2) rfl rfl (.cons (reads_newData (at_list N ma') (ke_carried ia')) (.cons (reads_newData (at_list N mb') (ke_carried ib')) (.cons (reads_newData (at_list N mc') (ke_carried ic')) .nil)))) ?_ ?_ hu ?_
  · simp [SeqAt.shaped, PyData.canLay0, PyData.canLayAll0, PyData.depth, PyData.depthAll, ke_canLayAll0, ke_depthAll]
  · simp [SeqAt.shaped, PyData.canLay0, PyData.canLayAll0, PyData.depth, PyData.depthAll, ke_canLayAll0, ke_depthAll]
  · simp only [PyData.eqv, PyData.eqvAll, ked_eqvAll, decide_true, Bool.and_true]
    exact h
end Mine
end
section
open PySem PySem.W PyProof.Rows Mine
namespace Mine
local macro_rules | `(tactic| walk_at "mine z") => `(tactic| first | omega | (simp only [List.length_append]; omega) | exact Nat.lt_of_le_of_lt List.length_erase_le (by omega))
local macro_rules | `(tactic| walk_at "call ref") => `(tactic| (k_here; k_dflt (refine' call_clsL ?k1 ?k2 ?k3 ?k4 ?k5 ?k6 ?_; (case k1 => k_asm); (case k2 => k_asm); (case k3 => k_asm); (case k5 => k_is); (case k6 => k_is); (case k4 => kernel_rfl); k_whole; intro x' d' h' F' N' l1 l2; (try k_lt l1); (try k_lt2 l2); (try k_sweep); k_enter)))
local macro_rules | `(tactic| walk_at "call ref") => `(tactic| (k_here; (with_reducible show wpAny _ _ (call (Value.ref 77) _) _ _ _); k_dflt (refine wpAny_call ?_; refine' code_defSC ?k1 ?k2 ?k3 ?k4 ?k5 ?kA ?kF ?kE ?k6 ?k7 ?k8 ?k9 ?kB ?_ ?c2 ?c3 ?c4 ?c5; (case kA => exact rfl); (case kF => exact rfl); (case kE => exact rfl); (case k2 => k_asm); (case k1 => k_asm); (case k3 => k_asm); (case k4 => k_asm); (case k5 => k_asm); (case k6 => k_is); (case k7 => k_is); (case k8 => k_room); (case k9 => first | exact BindsTo.of_eq rfl | exact binds_K (by k_in) rfl (by k_is) rfl rfl rfl); (case kB => exact locs rfl); (case c2 => exact rfl); (case c3 => exact rfl); (case c4 => exact rfl); (case c5 => decide); k_whole; intro g' L' h' FG' F' N' B' X' T' D'; (try dsimp only); (try k_lift B'); (try k_fold))))
local macro_rules | `(tactic| walk_at "setAttr ref") => `(tactic| (k_here; k_dflt (refine' set_L ?k1 ?k2 ?k3 ?k4 ?k5 ?k6 ?k7 ?k10 ?k11 ?k12 ?k13 ?_; (case k1 => k_asm); (case k2 => k_asm); (case k3 => k_asm); (case k4 => (refine' inst_dom ?N2 ?h12 ?h22; (case N2 => k_asm); (case h12 => k_mem); (case h22 => k_mem))); (case k5 => exact rfl); (case k6 => kernel_rfl); (case k7 => k_is); (case k10 => k_get); (case k11 => k_put); (case k12 => k_upd); (case k13 => exact Nat.le_of_ble_eq_true rfl); k_whole; intro h' F' N'; (try k_sweep))))
local macro_rules | `(tactic| walk_at "getMethod type:list") => `(tactic| (k_here; refine' method_type ?F ?X ?m (by decide +kernel) ?e ?h ?_; (case F => k_asm); (case X => k_asm); (case m => exact meta_list'); (case e => k_dflt k_is); (case h => k_handed)))
local macro_rules | `(tactic| walk_at "call builtin:list.__init__") => `(tactic| (k_here; k_dflt (refine' dom_init ?F ?X ?N ?h1 ?h2 ?o ?U ?hk ?ne ?hz ?_; (case F => k_asm); (case X => k_asm); (case N => k_asm); (case h1 => k_mem); (case h2 => k_mem); (case o => kernel_rfl); (case U => k_updF); (case hk => k_mem); (case ne => k_ne); (case hz => omega)); intro h' n' F' N'; (try dsimp only at N')))
-- attributes and methods of an object of the class over list
local macro_rules | `(tactic| walk_at "getAttr ref") => `(tactic| (k_here; k_dflt (refine' getown_L ?F ?X ?I ?o ?a ?l ?v ?_; (case F => k_asm); (case X => k_asm); (case I => (refine' inst_dom ?N2 ?h12 ?h22; (case N2 => k_asm); (case h12 => k_mem); (case h22 => k_mem))); (case o => kernel_rfl); (case a => k_is); (case l => k_get); (case v => k_handed); k_whole)))
local macro_rules | `(tactic| walk_at "getMethod ref") => `(tactic| (k_here; k_dflt (refine' meth_L ?F ?X ?I ?o ?f ?t ?k ?l ?_; (case F => k_asm); (case X => k_asm); (case I => (refine' inst_dom ?N2 ?h12 ?h22; (case N2 => k_asm); (case h12 => k_mem); (case h22 => k_mem))); (case o => kernel_rfl); (case f => k_is); (case t => k_is); (case k => decide +kernel); (case l => k_get); k_whole)))
-- list's own methods
local macro_rules | `(tactic| walk_at "mine member") => `(tactic| first | assumption | exact (Good.mem (by assumption)).mp (by assumption))
local macro_rules | `(tactic| walk_at "mine absent") => `(tactic| first | assumption | exact fun hh' => absurd ((Good.mem (by assumption)).mpr hh') (by assumption))
local macro_rules | `(tactic| walk_at "call builtin:list.remove") => `(tactic| (k_here; k_dflt (show wpAny _ _ (call (Value.builtin _) [Value.ref _, Value.int _ _]) _ _ _); k_dflt (first
  | (refine' remove_in ?i ?F ?N ?U ?I ?z ?v ?_; (case F => k_asm); (case N => k_asm); (case U => k_updF); (case i => (first | (refine' isl_dom ?F2 ?X2 ?N2 ?h12 ?h22 ?o2; (case F2 => k_asm); (case X2 => k_asm); (case N2 => k_asm); (case h12 => k_mem); (case h22 => k_mem); (case o2 => kernel_rfl)) | exact isl_plain (News.get (by k_asm) (by k_mem)))); (case I => assumption); (case z => omega); (case v => walk_at "mine member"); (intro h' w' n' hI' F' N'; (try dsimp only at N'); (try k_sweep)))
  | (refine' remove_out ?i ?o ?hh ?I ?v ?_; (case o => exact News.get (by k_asm) (by k_mem)); (case i => (refine' isl_dom ?F2 ?X2 ?N2 ?h12 ?h22 ?o2; (case F2 => k_asm); (case X2 => k_asm); (case N2 => k_asm); (case h12 => k_mem); (case h22 => k_mem); (case o2 => kernel_rfl))); (case hh => with_unfolding_all rfl); (case I => assumption); (case v => walk_at "mine absent"); (intro h' tk' e' hx')))))
local macro_rules | `(tactic| walk_at "call builtin:list.extend") => `(tactic| (k_here; k_dflt (show wpAny _ _ (call (Value.builtin _) [Value.ref _, Value.ref _]) _ _ _); k_dflt (refine' extend_by ?i ?F ?N ?U ?k ?I ?J ?z ?_; (case F => k_asm); (case N => k_asm); (case U => k_updF); (case i => (refine' isl_dom ?F2 ?X2 ?N2 ?h12 ?h22 ?o2; (case F2 => k_asm); (case X2 => k_asm); (case N2 => k_asm); (case h12 => k_mem); (case h22 => k_mem); (case o2 => kernel_rfl))); (case k => exact at_listH (by k_asm) (by k_mem)); (case I => assumption); (case J => assumption); (case z => walk_at "mine z")); intro h' w' n' hI' F' N'; (try dsimp only at N'); (try k_sweep)))
local macro_rules | `(tactic| walk_at "call builtin:len") => `(tactic| (k_here; k_dflt (show wpAny _ _ (call (Value.builtin "len") [Value.ref _]) _ _ _); k_dflt (refine' dom_len ?D ?z ?_; (case D => (refine' domAt_of ?F2 ?X2 ?N2 ?h12 ?o2 ?s2; (case F2 => k_asm); (case X2 => k_asm); (case N2 => k_asm); (case h12 => k_mem); (case o2 => kernel_rfl); (case s2 => kernel_rfl))); (case z => (rw [List.size_toArray]; omega))); intro t'; (try simp only [List.size_toArray])))
local macro_rules | `(tactic| walk_at "call builtin:sorted") => `(tactic| (k_here; k_dflt (show wpAny _ _ (call (Value.builtin _) [Value.ref _]) _ _ _); k_dflt (refine' dom_sortedL ?D ?hh ?F ?N ?I ?z ?_; (case D => (refine' domAt_of ?F2 ?X2 ?N2 ?h12 ?o2 ?s2; (case F2 => k_asm); (case X2 => k_asm); (case N2 => k_asm); (case h12 => k_mem); (case o2 => kernel_rfl); (case s2 => kernel_rfl))); (case hh => with_unfolding_all rfl); (case F => k_asm); (case N => k_asm); (case I => assumption); (case z => walk_at "mine z")); intro B' h' tk' v' n' c' F' N' l1 i' p' o'; (try k_lt l1); (try k_sweep)))
local macro_rules | `(tactic| walk_at "compareOp In int ref") => `(tactic| (k_here; k_dflt (refine' in_split ?N ?m ?I ?_ ?_; (case N => k_asm); (case m => k_mem); (case I => assumption)); all_goals intro hv'))
local macro_rules | `(tactic| walk_at "call builtin:list.append") => `(tactic| (k_here; k_dflt (first
  | (k_dflt (show wpAny _ _ (call (Value.builtin _) [Value.ref _, Value.int _ _]) _ _ _); refine' append_int ?F ?N ?U ?I ?z ?_; (case F => k_asm); (case N => k_asm); (case U => k_updF); (case I => assumption); (case z => ((try simp only [List.length_reverse]); omega)); (intro h' c' w' hI' F' N'; (try dsimp only at N'); (try k_sweep)))
  | (k_dflt (show wpAny _ _ (call (Value.builtin _) [Value.ref _, _]) _ _ _); refine' append_one ?F ?N ?U ?z ?_; (case F => k_asm); (case N => k_asm); (case U => k_updF); (case z => omega); (intro h' c' F' N'; (try dsimp only at N'); (try k_sweep))))))
local macro_rules | `(tactic| walk_at "call builtin:list.pop") => `(tactic| (k_here; k_dflt (show wpAny _ _ (call (Value.builtin _) [Value.ref _]) _ _ _); k_dflt (first
  | (refine' pop_one ?F ?N ?U ?z ?_; (case F => k_asm); (case N => k_asm); (case U => k_updF); (case z => ((try simp only [List.length_reverse, List.length_map]); omega)); (intro h' c' F' N'; (try dsimp only at N'); (try k_sweep)))
  | (refine' pop_empty ?N ?m ?hh ?_; (case N => k_asm); (case m => k_mem); (case hh => with_unfolding_all rfl); (intro h' tk' e' hx')))))
local macro_rules | `(tactic| walk_at "delItem ref ref") => `(tactic| (k_here; k_dflt (first
  | (refine' del_tail ?F ?N ?U ?I ?i ?p ?z ?_; (case F => k_asm); (case N => k_asm); (case U => k_updF); (case I => assumption); (case i => omega); (case p => omega); (case z => walk_at "mine z"); (intro h' c' w' hI' F' N'; (try dsimp only at N'); (try k_sweep)))
  | (refine' del_all ?F ?N ?U ?z ?_; (case F => k_asm); (case N => k_asm); (case U => k_updF); (case z => omega); (intro h' c' F' N'; (try dsimp only at N'); (try k_sweep))))))
local macro_rules | `(tactic| walk_at "subscriptTail Name Slice ref ref") => `(tactic| (k_here; k_dflt (refine' slice_tail ?F ?N ?m ?I ?i ?p ?z ?_ ?s ?t; (case F => k_asm); (case N => k_asm); (case m => k_mem); (case I => assumption); (case i => omega); (case p => omega); (case z => walk_at "mine z"); (case s => with_unfolding_all rfl); (case t => (intro _; rfl))); intro D' w' h' F' N' l1 hI'; (try k_lt l1); (try k_sweep)))
local macro_rules | `(tactic| walk_at "binaryOp Add ref ref") => `(tactic| (k_here; k_dflt (refine' add_two ?F ?N ?m ?m2 ?I ?J ?z ?_; (case F => k_asm); (case N => k_asm); (case m => k_mem); (case m2 => k_mem); (case I => assumption); (case J => exact IntsAre.cons _ _ IntsAre.nil); (case z => (simp only [List.length_cons, List.length_nil]; omega))); intro D' w' h' hI' F' N' l1; (try k_lt l1); (try k_sweep)))
local macro_rules | `(tactic| walk_at "subscriptTail BinOp Call ref int") => `(tactic| (k_here; k_dflt (refine' item_at ?N ?m ?I ?z ?a ?b ?_ ?s; (case N => k_asm); (case m => k_mem); (case I => assumption); (case z => (simp only [List.length_append, List.length_cons, List.length_nil]; omega)); (case a => l_idx); (case b => (simp only [List.length_append, List.length_cons, List.length_nil]; l_idx)); (case s => with_unfolding_all rfl)); intro v' t' hv'))
local macro_rules | `(tactic| walk_at "truthy ref") => `(tactic| (k_here; k_dflt (refine' truthy_split ?N ?m ?z ?a ?b; (case N => k_asm); (case m => k_mem); (case z => omega)); (case' a => (intro t' hs'; obtain ⟨e1, e2, e3, e4⟩ := stack_nil hs' (by assumption) (by assumption) (by assumption) (by assumption); subst e1 e2 e3 e4; subst hs')); (case' b => (intro t' hs'; obtain ⟨a, vs, c, ns, r, t, n, tn', rv, q, tk, ha, hb, e1, e2, e3, e4, e5, e6, e7, f1, f2, f3, f4, f5, f6, f7, f8, f9, f10⟩ := stack_cons hs' (by assumption) (by assumption) (by assumption) (by assumption) (by assumption); subst e1 e2 e3 e4 e5 e6 e7; (have g1 := off_tail (by assumption)); (have g2 := SvOk.head (by assumption)); (have g3 := SvOk.tail (by assumption))))))
local macro_rules | `(tactic| walk_at "mine eq") => `(tactic| first
  | exact eq_of_sorted (by assumption) (by assumption) (Good.perm (by assumption)) (Good.sorted (by assumption))
  | exact eq_of_sorted (by assumption) (by assumption) (Good.perm (Good.hide (by assumption) (by assumption))) (Good.sorted (Good.hide (by assumption) (by assumption)))
  | exact eq_of_sorted (by assumption) (by assumption) (Good.perm (Good.reset (by assumption) (by assumption))) (by assumption)
  | exact eq_of_sorted (by assumption) (by assumption) (perm_nil_right (Good.perm (by assumption)) (by omega)) (Good.sorted (by assumption)))
local macro_rules | `(tactic| walk_at "compareOp NotEq ref ref") => `(tactic| (k_here; k_dflt (refine' ne_same ?N ?m ?I ?m2 ?J ?u ?e ?_; (case N => k_asm); (case m => k_mem); (case m2 => k_mem); (case I => assumption); (case J => assumption); (case u => exact Nat.le_of_ble_eq_true rfl); (case e => walk_at "mine eq"))))
local macro_rules | `(tactic| walk_at "mine led") => `(tactic| (dsimp only [Led]; (iterate 13 (refine List.forall_mem_cons.mpr ⟨by k_mem, ?_⟩)); intro p hp; first | exact absurd hp List.not_mem_nil | k_ownIn))
local macro_rules | `(tactic| walk_at "mine led push") => `(tactic| (dsimp only [Led]; (iterate 14 (refine List.forall_mem_cons.mpr ⟨by k_mem, ?_⟩)); intro p hp; first | exact absurd hp List.not_mem_nil | k_ownIn))
local macro_rules | `(tactic| walk_at "mine names") => `(tactic| (refine ⟨?_, ?_, ?_, ?_, ?_, ?_, ?_⟩ <;> first | rfl | (with_unfolding_all rfl) | exact And.left (by assumption) | exact And.right (by assumption)))
local macro_rules | `(tactic| walk_at "mine gt") => `(tactic| ((try dsimp only); omega))
def turnBody : List Stmt := forBody ((lawBody.drop 8).headD default)
theorem turn (w : World) (h₀ : Heap) (L fa : Addr) (cd : Value) (s : Shared) (x : Fx) (c : LS) (k : Nat) (p : Int) (pt : Tok) (wh vn rn : List Int) (u mg mb : Str → Option Value) (mean : ExcName → Option Value) :
  (hd.heap_39 w.params).In h₀ → Below callerA h₀ [] h₀ → Top hd.view_39 (looseW hd.view_39 []) mean mg mb h₀ →
  Fr h₀ L s.heap (fun y => if y = Str.ofString "place" then some (.int p pt) else if y = Str.ofString "stack" then some (.ref c.st) else if y = Str.ofString "shown" then some (.ref c.sh) else if y = Str.ofString "domain" then some (.ref x.D)
      else if y = Str.ofString "values" then some (.ref x.V) else if y = Str.ofString "whole" then some (.ref x.W) else u y) →
  News h₀ L s.heap (Led w x c) → Ord x → x.C = L + 1 → x.oc.data = .cell (some (.ref x.R)) → IntsAre x.vv vn → IntsAre x.rv rn → IntsAre x.wv wh →
  wh.Pairwise (· ≤ ·) → wh.length = vn.length → vn.length ≤ 12 → 0 < rn.length → rn.length ≤ 61 → 0 ≤ p → p < 24 → k < 24 → Names x c u → Ok x wh k c →
  wpAny (model PySem.Challenge.rw_fb0031_01.row.prog w) (callerA.deeper (lawEnv L fa cd)) (execs turnBody (lawEnv L fa cd)) (PostT w x wh h₀ L (k + 1) s) (fun _ _ => False) s := by
  k_fill
  dsimp only [lawEnv, turnBody, forBody, lawBody, lawScope, lawDef, defBody, defScope, PySem.Challenge.pw_fb0031_01, List.drop, List.headD, Option.getD]
  intro KX K0 T F N O hC hc hV hR hW sW lW zV zR0 zR p0 p1 k1 NM OK
  obtain ⟨I, W, Tw, TD, SL, HL, D, DD, H, V, R, C, oI, oc, wv, vv, rv, tv, wc, vc, rc, tc, hhc, t1, t2⟩ := x
  obtain ⟨st, sh, stv, shv, sv, hv, dv, stc, shc, sc, hc1, dc, saved, shn, tn, hn, dn, stk⟩ := c
  obtain ⟨o1, o2, o2b, o2c, o3, o4, o5, o6, o7, o8, o9, o10⟩ := O
  obtain ⟨a1, a2, a3, a4, a5, sv0, nd, i1, i2, i3, i4, s1, s2, G, ln⟩ := OK
  dsimp only at *
  subst hC
  have z1 := G.len
  have z2 := St.length G.st
  have z3 := s1.length
  have y1 := hV.length
  have y2 := hR.length
  have y3 := hW.length
  have y4 := i1.length
  have y5 := i2.length
  have y6 := i3.length
  have y7 := i4.length
  rw [List.length_reverse] at y5
  have y8 : stv.length = saved.length := by rw [s2]; simp
  have off : OwnOff saved [st, sh, SL, HL, D] := by
    intro q hq b hb
    have := sv0 q hq
    simp only [List.mem_cons, List.not_mem_nil, or_false] at hb
    rcases hb with rfl | rfl | rfl | rfl | rfl <;> (refine neN ?_; omega)
  dsimp only [Led] at N
  have NU := And.intro NM.n6 NM.n7
  clear NM
  dsimp only at NU
  show wpAny _ _ _ _ _ _
  k_fold
  k_steps
  · (refine' fin ?F ?N (ok_push a1 a2 a3 a4 a5 sv0 nd i1 ?iS i3 i4 s1 s2 G ln ?d1 ?d2 ?d3 ?d4 ?d5) ?hl ?NM; (case F => assumption); (case N => assumption); (case hl => walk_at "mine led push"); (case iS => (rw [← y7]; assumption)); (case d1 => walk_at "mine gt"); (case d2 => walk_at "mine gt"); (case d3 => walk_at "mine gt"); (case d4 => walk_at "mine gt"); (case d5 => exact lt15 (by assumption)); (case NM => exact ⟨by with_unfolding_all rfl, by with_unfolding_all rfl, by with_unfolding_all rfl, by with_unfolding_all rfl, by with_unfolding_all rfl, NU.1, NU.2⟩))
  · (refine' fin ?F ?N (ok_same a1 a2 a3 a4 a5 sv0 nd ?i1 i2 ?i3 ?i4 s1 s2 (G.hide ?v) ln) ?hl ?NM; (case v => assumption); (case F => assumption); (case N => assumption); (case hl => walk_at "mine led"); (case i1 => assumption); (case i3 => assumption); (case i4 => assumption); (case NM => exact ⟨by with_unfolding_all rfl, by with_unfolding_all rfl, by with_unfolding_all rfl, by with_unfolding_all rfl, by with_unfolding_all rfl, NU.1, NU.2⟩))
  · (refine' fin ?F ?N (ok_same a1 a2 a3 a4 a5 sv0 nd i1 i2 i3 i4 s1 s2 G ln) ?hl ?NM; (case F => assumption); (case N => assumption); (case hl => walk_at "mine led"); (case NM => exact ⟨by with_unfolding_all rfl, by with_unfolding_all rfl, by with_unfolding_all rfl, by with_unfolding_all rfl, by with_unfolding_all rfl, NU.1, NU.2⟩))
  · (refine' fin ?F ?N (ok_pop a1 sv0 nd a4 ?i1 ?i2 ?i3 ?i4 ?s1 ?s2 ?G ?ln) ?hl ?NM; (case s2 => assumption); (case F => assumption); (case N => assumption); (case hl => walk_at "mine led"); (case s1 => assumption); (case G => assumption); (case i1 => assumption); (case i2 => assumption); (case i3 => assumption); (case i4 => assumption); (case ln => assumption); (case NM => exact ⟨by with_unfolding_all rfl, by with_unfolding_all rfl, by with_unfolding_all rfl, by with_unfolding_all rfl, by with_unfolding_all rfl, NU.1, NU.2⟩))
  · (refine' fin ?F ?N (ok_pop0 a1 sv0 nd a4 ?i1 ?i2 i3 i4 ?s1 ?s2 ?G ?ln ?z) ?hl ?NM; (case s2 => assumption); (case F => assumption); (case N => assumption); (case hl => walk_at "mine led"); (case s1 => assumption); (case G => assumption); (case i1 => assumption); (case i2 => assumption); (case ln => assumption); (case z => omega); (case NM => exact ⟨by with_unfolding_all rfl, by with_unfolding_all rfl, by with_unfolding_all rfl, by with_unfolding_all rfl, by with_unfolding_all rfl, NU.1, NU.2⟩))
  · (refine' fin ?F ?N (ok_same a1 a2 a3 a4 a5 sv0 nd i1 i2 i3 i4 s1 s2 G ln) ?hl ?NM; (case F => assumption); (case N => assumption); (case hl => walk_at "mine led"); (case NM => exact ⟨by with_unfolding_all rfl, by with_unfolding_all rfl, by with_unfolding_all rfl, by with_unfolding_all rfl, by with_unfolding_all rfl, NU.1, NU.2⟩))
  · (refine' fin ?F ?N (ok_reset ?d1 ?d2 ?d3 ?d4 ?d5 hW ?i4 G sW) ?hl ?NM; (case F => assumption); (case N => assumption); (case hl => walk_at "mine led"); (case i4 => assumption); (case d1 => walk_at "mine gt"); (case d2 => walk_at "mine gt"); (case d3 => walk_at "mine gt"); (case d4 => walk_at "mine gt"); (case d5 => walk_at "mine gt"); (case NM => exact ⟨by with_unfolding_all rfl, by with_unfolding_all rfl, by with_unfolding_all rfl, by with_unfolding_all rfl, by with_unfolding_all rfl, NU.1, NU.2⟩))
end Mine
end
section
open PySem PySem.W PyProof.Rows Mine
namespace Mine
theorem fr_place {h₀ h : Heap} {L : Addr} {m : Str → Option Value} {x : Fx} {c : LS} {v : Value} (n : Names x c m) : Names x c (fun y => if y = Str.ofString "place" then some v else m y) :=
  ⟨n.n1, n.n2, n.n3, n.n4, n.n5, n.n6, n.n7⟩
theorem Names.re {x : Fx} {c : LS} {m : Str → Option Value} (n : Names x c m) (o : Obj) : Names { x with oI := o } c m := ⟨n.n1, n.n2, n.n3, n.n4, n.n5, n.n6, n.n7⟩
theorem Names.un {x : Fx} {c : LS} {m : Str → Option Value} {o : Obj} (n : Names { x with oI := o } c m) : Names x c m := ⟨n.n1, n.n2, n.n3, n.n4, n.n5, n.n6, n.n7⟩
theorem Ok.re {x : Fx} {c : LS} {wh : List Int} {k : Nat} (n : Ok x wh k c) (o : Obj) : Ok { x with oI := o } wh k c := ⟨n.a1, n.a2, n.a3, n.a4, n.a5, n.sv, n.nd, n.i1, n.i2, n.i3, n.i4, n.s1, n.s2, n.good, n.len⟩
theorem Ok.un {x : Fx} {c : LS} {wh : List Int} {k : Nat} {o : Obj} (n : Ok { x with oI := o } wh k c) : Ok x wh k c := ⟨n.a1, n.a2, n.a3, n.a4, n.a5, n.sv, n.nd, n.i1, n.i2, n.i3, n.i4, n.s1, n.s2, n.good, n.len⟩
theorem Ord.re {x : Fx} (n : Ord x) (o : Obj) : Ord { x with oI := o } := ⟨n.o1, n.o2, n.o2b, n.o2c, n.o3, n.o4, n.o5, n.o6, n.o7, n.o8, n.o9, n.o10⟩

theorem law_iter {w : World} {h₀ : Heap} {L fa : Addr} {cd : Value} {s : Shared} {x : Fx} {c : LS} {wh vn rn : List Int} {m mg mb : Str → Option Value} {mean : ExcName → Option Value} {r : Addr} {t₀ u₀ v₀ : Tok} {Q : Flow → Shared → Prop} {E : Value → Shared → Prop}
    (KX : (hd.heap_39 w.params).In h₀) (K0 : Below callerA h₀ [] h₀) (T : Top hd.view_39 (looseW hd.view_39 []) mean mg mb h₀) (hr : IsRange s.heap r 0 24 1 t₀ u₀ v₀) (F : Fr h₀ L s.heap m) (N : News h₀ L s.heap (Led0 w x c))
    (hC : x.C = L + 1) (hc : x.oc.data = .cell (some (.ref x.R))) (hV : IntsAre x.vv vn) (hR : IntsAre x.rv rn) (hW : IntsAre x.wv wh) (sW : wh.Pairwise (· ≤ ·)) (lW : wh.length = vn.length) (zV : vn.length ≤ 12) (zR0 : 0 < rn.length) (zR : rn.length ≤ 61)
    (NM : Names x c m) (hI : x.I = s.heap.objs.size) (O : Ord x) (K : Ok x wh 0 c)
    (done : ∀ h' tk m' c', Fr h₀ L h' m' → News h₀ L h' (Led0 w x c') → Names x c' m' → Ok x wh 24 c' → Q .next { s with heap := h', toks := tk }) :
    wpAny (model PySem.Challenge.rw_fb0031_01.row.prog w) (callerA.deeper (lawEnv L fa cd)) (pyIter (.ref r))
      (fun it s₂ => LoopAtV PySem.Challenge.rw_fb0031_01.row.prog w (callerA.deeper (lawEnv L fa cd)) h₀ (lawEnv L fa cd) (Str.ofString "place") turnBody Q E it s₂) E s := by
  refine iter_own (n := 24) rfl hr (by decide) (by decide) F N (fun i m' news' => ∃ c', news' = Led0 w x c' ∧ Ok x wh i c' ∧ Names x c' m') ⟨c, rfl, K, NM⟩ ?_ ?_
  · rintro i t m₁ news₁ s₁ oI ⟨h, tk, rfl⟩ hi ⟨c₁, rfl, K₁, NM₁⟩ hne F₁ N₁
    rw [← hI] at N₁ ⊢
    have N₂ : News h₀ L h (Led w { x with oI := oI } c₁) := news_sub N₁ fun p hp => led_of (x := { x with oI := oI }) hp
    have e : (0 : Int) + (i : Int) * 1 = (i : Int) := by omega
    rw [e] at F₁
    have F₂ := fr_names (x := x) NM₁ F₁
    refine wpAny_mono (turn w h₀ L fa cd _ { x with oI := oI } c₁ i (i : Int) t wh vn rn m₁ mg mb mean KX K0 T F₂ N₂ (O.re oI) hC hc hV hR hW sW lW zV zR0 zR (by omega) (by omega) hi (NM₁.re oI) (K₁.re oI)) (fun f s₂ h₂ => ?_) fun _ _ e => e.elim
    obtain ⟨rfl, h', tk', m₂, c₂, rfl, F₃, N₃, K₃, NM₃⟩ := h₂
    exact ⟨rfl, h', tk', m₂, Led0 w x c₂, rfl, F₃, news_sub N₃ fun p hp => led_to (x := { x with oI := oI }) hp, led0_ne O K₃.un, c₂, rfl, K₃.un, NM₃.un⟩
  · rintro h' tk m' news' F' N' ⟨c', rfl, K', NM'⟩
    exact done h' tk m' c' F' N' NM' K'
end Mine
end
section
open PySem PySem.W PyProof.Rows Mine
namespace Mine
local macro_rules | `(tactic| walk_at "mine z") => `(tactic| first | omega | (simp only [List.length_append]; omega) | exact Nat.lt_of_le_of_lt List.length_erase_le (by omega))
local macro_rules | `(tactic| walk_at "call ref") => `(tactic| (k_here; k_dflt (refine' call_clsL ?k1 ?k2 ?k3 ?k4 ?k5 ?k6 ?_; (case k1 => k_asm); (case k2 => k_asm); (case k3 => k_asm); (case k5 => k_is); (case k6 => k_is); (case k4 => kernel_rfl); k_whole; intro x' d' h' F' N' l1 l2; (try k_lt l1); (try k_lt2 l2); (try k_sweep); k_enter)))
local macro_rules | `(tactic| walk_at "call ref") => `(tactic| (k_here; (with_reducible show wpAny _ _ (call (Value.ref 77) _) _ _ _); k_dflt (refine wpAny_call ?_; refine' code_defSC ?k1 ?k2 ?k3 ?k4 ?k5 ?kA ?kF ?kE ?k6 ?k7 ?k8 ?k9 ?kB ?_ ?c2 ?c3 ?c4 ?c5; (case kA => exact rfl); (case kF => exact rfl); (case kE => exact rfl); (case k2 => k_asm); (case k1 => k_asm); (case k3 => k_asm); (case k4 => k_asm); (case k5 => k_asm); (case k6 => k_is); (case k7 => k_is); (case k8 => k_room); (case k9 => first | exact BindsTo.of_eq rfl | exact binds_K (by k_in) rfl (by k_is) rfl rfl rfl); (case kB => exact locs rfl); (case c2 => exact rfl); (case c3 => exact rfl); (case c4 => exact rfl); (case c5 => decide); k_whole; intro g' L' h' FG' F' N' B' X' T' D'; (try dsimp only); (try k_lift B'); (try k_fold))))
local macro_rules | `(tactic| walk_at "setAttr ref") => `(tactic| (k_here; k_dflt (refine' set_L ?k1 ?k2 ?k3 ?k4 ?k5 ?k6 ?k7 ?k10 ?k11 ?k12 ?k13 ?_; (case k1 => k_asm); (case k2 => k_asm); (case k3 => k_asm); (case k4 => (refine' inst_dom ?N2 ?h12 ?h22; (case N2 => k_asm); (case h12 => k_mem); (case h22 => k_mem))); (case k5 => exact rfl); (case k6 => kernel_rfl); (case k7 => k_is); (case k10 => k_get); (case k11 => k_put); (case k12 => k_upd); (case k13 => exact Nat.le_of_ble_eq_true rfl); k_whole; intro h' F' N'; (try k_sweep))))
local macro_rules | `(tactic| walk_at "getMethod type:list") => `(tactic| (k_here; refine' method_type ?F ?X ?m (by decide +kernel) ?e ?h ?_; (case F => k_asm); (case X => k_asm); (case m => exact meta_list'); (case e => k_dflt k_is); (case h => k_handed)))
local macro_rules | `(tactic| walk_at "call builtin:list.__init__") => `(tactic| (k_here; k_dflt (refine' dom_init ?F ?X ?N ?h1 ?h2 ?o ?U ?hk ?ne ?hz ?_; (case F => k_asm); (case X => k_asm); (case N => k_asm); (case h1 => k_mem); (case h2 => k_mem); (case o => kernel_rfl); (case U => k_updF); (case hk => k_mem); (case ne => k_ne); (case hz => omega)); intro h' n' F' N'; (try dsimp only at N')))
-- attributes and methods of an object of the class over list
local macro_rules | `(tactic| walk_at "getAttr ref") => `(tactic| (k_here; k_dflt (refine' getown_L ?F ?X ?I ?o ?a ?l ?v ?_; (case F => k_asm); (case X => k_asm); (case I => (refine' inst_dom ?N2 ?h12 ?h22; (case N2 => k_asm); (case h12 => k_mem); (case h22 => k_mem))); (case o => kernel_rfl); (case a => k_is); (case l => k_get); (case v => k_handed); k_whole)))
local macro_rules | `(tactic| walk_at "getMethod ref") => `(tactic| (k_here; k_dflt (refine' meth_L ?F ?X ?I ?o ?f ?t ?k ?l ?_; (case F => k_asm); (case X => k_asm); (case I => (refine' inst_dom ?N2 ?h12 ?h22; (case N2 => k_asm); (case h12 => k_mem); (case h22 => k_mem))); (case o => kernel_rfl); (case f => k_is); (case t => k_is); (case k => decide +kernel); (case l => k_get); k_whole)))
-- list's own methods
local macro_rules | `(tactic| walk_at "mine member") => `(tactic| first | assumption | exact (Good.mem (by assumption)).mp (by assumption))
local macro_rules | `(tactic| walk_at "mine absent") => `(tactic| first | assumption | exact fun hh' => absurd ((Good.mem (by assumption)).mpr hh') (by assumption))
local macro_rules | `(tactic| walk_at "call builtin:list.remove") => `(tactic| (k_here; k_dflt (show wpAny _ _ (call (Value.builtin _) [Value.ref _, Value.int _ _]) _ _ _); k_dflt (first
  | (refine' remove_in ?i ?F ?N ?U ?I ?z ?v ?_; (case F => k_asm); (case N => k_asm); (case U => k_updF); (case i => (first | (refine' isl_dom ?F2 ?X2 ?N2 ?h12 ?h22 ?o2; (case F2 => k_asm); (case X2 => k_asm); (case N2 => k_asm); (case h12 => k_mem); (case h22 => k_mem); (case o2 => kernel_rfl)) | exact isl_plain (News.get (by k_asm) (by k_mem)))); (case I => assumption); (case z => omega); (case v => walk_at "mine member"); (intro h' w' n' hI' F' N'; (try dsimp only at N'); (try k_sweep)))
  | (refine' remove_out ?i ?o ?hh ?I ?v ?_; (case o => exact News.get (by k_asm) (by k_mem)); (case i => (refine' isl_dom ?F2 ?X2 ?N2 ?h12 ?h22 ?o2; (case F2 => k_asm); (case X2 => k_asm); (case N2 => k_asm); (case h12 => k_mem); (case h22 => k_mem); (case o2 => kernel_rfl))); (case hh => with_unfolding_all rfl); (case I => assumption); (case v => walk_at "mine absent"); (intro h' tk' e' hx')))))
local macro_rules | `(tactic| walk_at "call builtin:list.extend") => `(tactic| (k_here; k_dflt (show wpAny _ _ (call (Value.builtin _) [Value.ref _, Value.ref _]) _ _ _); k_dflt (refine' extend_by ?i ?F ?N ?U ?k ?I ?J ?z ?_; (case F => k_asm); (case N => k_asm); (case U => k_updF); (case i => (refine' isl_dom ?F2 ?X2 ?N2 ?h12 ?h22 ?o2; (case F2 => k_asm); (case X2 => k_asm); (case N2 => k_asm); (case h12 => k_mem); (case h22 => k_mem); (case o2 => kernel_rfl))); (case k => exact at_listH (by k_asm) (by k_mem)); (case I => assumption); (case J => assumption); (case z => walk_at "mine z")); intro h' w' n' hI' F' N'; (try dsimp only at N'); (try k_sweep)))
local macro_rules | `(tactic| walk_at "call builtin:len") => `(tactic| (k_here; k_dflt (show wpAny _ _ (call (Value.builtin "len") [Value.ref _]) _ _ _); k_dflt (refine' dom_len ?D ?z ?_; (case D => (refine' domAt_of ?F2 ?X2 ?N2 ?h12 ?o2 ?s2; (case F2 => k_asm); (case X2 => k_asm); (case N2 => k_asm); (case h12 => k_mem); (case o2 => kernel_rfl); (case s2 => kernel_rfl))); (case z => (rw [List.size_toArray]; omega))); intro t'; (try simp only [List.size_toArray])))
local macro_rules | `(tactic| walk_at "call builtin:sorted") => `(tactic| (k_here; k_dflt (show wpAny _ _ (call (Value.builtin _) [Value.ref _]) _ _ _); k_dflt (refine' dom_sortedL ?D ?hh ?F ?N ?I ?z ?_; (case D => (refine' domAt_of ?F2 ?X2 ?N2 ?h12 ?o2 ?s2; (case F2 => k_asm); (case X2 => k_asm); (case N2 => k_asm); (case h12 => k_mem); (case o2 => kernel_rfl); (case s2 => kernel_rfl))); (case hh => with_unfolding_all rfl); (case F => k_asm); (case N => k_asm); (case I => assumption); (case z => walk_at "mine z")); intro B' h' tk' v' n' c' F' N' l1 i' p' o'; (try k_lt l1); (try k_sweep)))
local macro_rules | `(tactic| walk_at "compareOp In int ref") => `(tactic| (k_here; k_dflt (refine' in_split ?N ?m ?I ?_ ?_; (case N => k_asm); (case m => k_mem); (case I => assumption)); all_goals intro hv'))
local macro_rules | `(tactic| walk_at "call builtin:list.append") => `(tactic| (k_here; k_dflt (first
  | (k_dflt (show wpAny _ _ (call (Value.builtin _) [Value.ref _, Value.int _ _]) _ _ _); refine' append_int ?F ?N ?U ?I ?z ?_; (case F => k_asm); (case N => k_asm); (case U => k_updF); (case I => assumption); (case z => ((try simp only [List.length_reverse]); omega)); (intro h' c' w' hI' F' N'; (try dsimp only at N'); (try k_sweep)))
  | (k_dflt (show wpAny _ _ (call (Value.builtin _) [Value.ref _, _]) _ _ _); refine' append_one ?F ?N ?U ?z ?_; (case F => k_asm); (case N => k_asm); (case U => k_updF); (case z => omega); (intro h' c' F' N'; (try dsimp only at N'); (try k_sweep))))))
local macro_rules | `(tactic| walk_at "call builtin:list.pop") => `(tactic| (k_here; k_dflt (show wpAny _ _ (call (Value.builtin _) [Value.ref _]) _ _ _); k_dflt (first
  | (refine' pop_one ?F ?N ?U ?z ?_; (case F => k_asm); (case N => k_asm); (case U => k_updF); (case z => ((try simp only [List.length_reverse, List.length_map]); omega)); (intro h' c' F' N'; (try dsimp only at N'); (try k_sweep)))
  | (refine' pop_empty ?N ?m ?hh ?_; (case N => k_asm); (case m => k_mem); (case hh => with_unfolding_all rfl); (intro h' tk' e' hx')))))
local macro_rules | `(tactic| walk_at "delItem ref ref") => `(tactic| (k_here; k_dflt (first
  | (refine' del_tail ?F ?N ?U ?I ?i ?p ?z ?_; (case F => k_asm); (case N => k_asm); (case U => k_updF); (case I => assumption); (case i => omega); (case p => omega); (case z => walk_at "mine z"); (intro h' c' w' hI' F' N'; (try dsimp only at N'); (try k_sweep)))
  | (refine' del_all ?F ?N ?U ?z ?_; (case F => k_asm); (case N => k_asm); (case U => k_updF); (case z => omega); (intro h' c' F' N'; (try dsimp only at N'); (try k_sweep))))))
local macro_rules | `(tactic| walk_at "subscriptTail Name Slice ref ref") => `(tactic| (k_here; k_dflt (refine' slice_tail ?F ?N ?m ?I ?i ?p ?z ?_ ?s ?t; (case F => k_asm); (case N => k_asm); (case m => k_mem); (case I => assumption); (case i => omega); (case p => omega); (case z => walk_at "mine z"); (case s => with_unfolding_all rfl); (case t => (intro _; rfl))); intro D' w' h' F' N' l1 hI'; (try k_lt l1); (try k_sweep)))
local macro_rules | `(tactic| walk_at "binaryOp Add ref ref") => `(tactic| (k_here; k_dflt (refine' add_two ?F ?N ?m ?m2 ?I ?J ?z ?_; (case F => k_asm); (case N => k_asm); (case m => k_mem); (case m2 => k_mem); (case I => assumption); (case J => exact IntsAre.cons _ _ IntsAre.nil); (case z => (simp only [List.length_cons, List.length_nil]; omega))); intro D' w' h' hI' F' N' l1; (try k_lt l1); (try k_sweep)))
local macro_rules | `(tactic| walk_at "subscriptTail BinOp Call ref int") => `(tactic| (k_here; k_dflt (refine' item_at ?N ?m ?I ?z ?a ?b ?_ ?s; (case N => k_asm); (case m => k_mem); (case I => assumption); (case z => (simp only [List.length_append, List.length_cons, List.length_nil]; omega)); (case a => l_idx); (case b => (simp only [List.length_append, List.length_cons, List.length_nil]; l_idx)); (case s => with_unfolding_all rfl)); intro v' t' hv'))
local macro_rules | `(tactic| walk_at "truthy ref") => `(tactic| (k_here; k_dflt (refine' truthy_split ?N ?m ?z ?a ?b; (case N => k_asm); (case m => k_mem); (case z => omega)); (case' a => (intro t' hs'; obtain ⟨e1, e2, e3, e4⟩ := stack_nil hs' (by assumption) (by assumption) (by assumption) (by assumption); subst e1 e2 e3 e4; subst hs')); (case' b => (intro t' hs'; obtain ⟨a, vs, c, ns, r, t, n, tn', rv, q, tk, ha, hb, e1, e2, e3, e4, e5, e6, e7, f1, f2, f3, f4, f5, f6, f7, f8, f9, f10⟩ := stack_cons hs' (by assumption) (by assumption) (by assumption) (by assumption) (by assumption); subst e1 e2 e3 e4 e5 e6 e7; (have g1 := off_tail (by assumption)); (have g2 := SvOk.head (by assumption)); (have g3 := SvOk.tail (by assumption))))))
local macro_rules | `(tactic| walk_at "mine eq") => `(tactic| first
  | exact eq_of_sorted (by assumption) (by assumption) (Good.perm (by assumption)) (Good.sorted (by assumption))
  | exact eq_of_sorted (by assumption) (by assumption) (Good.perm (Good.hide (by assumption) (by assumption))) (Good.sorted (Good.hide (by assumption) (by assumption)))
  | exact eq_of_sorted (by assumption) (by assumption) (Good.perm (Good.reset (by assumption) (by assumption))) (by assumption)
  | exact eq_of_sorted (by assumption) (by assumption) (perm_nil_right (Good.perm (by assumption)) (by omega)) (Good.sorted (by assumption)))
local macro_rules | `(tactic| walk_at "compareOp NotEq ref ref") => `(tactic| (k_here; k_dflt (refine' ne_same ?N ?m ?I ?m2 ?J ?u ?e ?_; (case N => k_asm); (case m => k_mem); (case m2 => k_mem); (case I => assumption); (case J => assumption); (case u => exact Nat.le_of_ble_eq_true rfl); (case e => walk_at "mine eq"))))
local macro_rules | `(tactic| walk_at "mine led") => `(tactic| (dsimp only [Led]; (iterate 13 (refine List.forall_mem_cons.mpr ⟨by k_mem, ?_⟩)); intro p hp; first | exact absurd hp List.not_mem_nil | k_ownIn))
local macro_rules | `(tactic| walk_at "mine led push") => `(tactic| (dsimp only [Led]; (iterate 14 (refine List.forall_mem_cons.mpr ⟨by k_mem, ?_⟩)); intro p hp; first | exact absurd hp List.not_mem_nil | k_ownIn))
local macro_rules | `(tactic| walk_at "mine names") => `(tactic| (refine ⟨?_, ?_, ?_, ?_, ?_, ?_, ?_⟩ <;> first | rfl | (with_unfolding_all rfl) | exact And.left (by assumption) | exact And.right (by assumption)))
local macro_rules | `(tactic| walk_at "mine gt") => `(tactic| ((try dsimp only); omega))
local macro_rules | `(tactic| walk_at "mine led0") => `(tactic| (dsimp only [Led0]; (iterate 12 (refine List.forall_mem_cons.mpr ⟨by k_mem, ?_⟩)); intro p hp; first | exact absurd hp List.not_mem_nil | k_ownIn))
local macro_rules | `(tactic| walk_at "mine namesW") => `(tactic| (refine ⟨?_, ?_, ?_, ?_, ?_, ?_⟩ <;> first | rfl | (with_unfolding_all rfl)))
def whileStmt : Stmt := (lawBody.drop 9).headD default
structure NamesW (x : Fx) (c : LS) (m : Str → Option Value) : Prop where
  n1 : m (Str.ofString "stack") = some (.ref c.st)
  n3 : m (Str.ofString "domain") = some (.ref x.D)
  n4 : m (Str.ofString "values") = some (.ref x.V)
  n5 : m (Str.ofString "whole") = some (.ref x.W)
  n6 : m (Str.ofString "twin") = some (.ref x.T)
  n7 : m (Str.ofString "handed") = some (.ref x.H)
def JW (w : World) (x : Fx) (wh : List Int) (n : Nat) (m : Str → Option Value) (news : List (Addr × Obj)) : Prop :=
  ∃ c, n = c.stk.length ∧ news = Led0 w x c ∧ Ok x wh 24 c ∧ NamesW x c m
def PostW (w : World) (x : Fx) (wh : List Int) (h₀ : Heap) (L : Addr) (s : Shared) (f : Flow) (s₂ : Shared) : Prop :=
  f = .next ∧ ∃ h' tk m' c', s₂ = { s with heap := h', toks := tk } ∧ Fr h₀ L h' m' ∧ News h₀ L h' (Led0 w x c') ∧ Ok x wh 24 c' ∧ NamesW x c' m'
theorem Ok.relen {x : Fx} {c : LS} {wh : List Int} {k k' : Nat} (n : Ok x wh k c) (h : c.stk.length ≤ k') : Ok x wh k' c := ⟨n.a1, n.a2, n.a3, n.a4, n.a5, n.sv, n.nd, n.i1, n.i2, n.i3, n.i4, n.s1, n.s2, n.good, h⟩
theorem finW {w : World} {x : Fx} {c' : LS} {wh : List Int} {h₀ h' : Heap} {L : Addr} {n tk : Nat} {s : Shared} {m' : Str → Option Value} {news : List (Addr × Obj)} (F : Fr h₀ L h' m') (N : News h₀ L h' news)
    (O : Ok x wh (24 + 1) c') (hl : ∀ p ∈ Led0 w x c', p ∈ news) (NM : NamesW x c' m') (hn : c'.stk.length < n) (h24 : n ≤ 24) :
    WhileStep h₀ L s (JW w x wh) n Flow.next { heap := h', gens := s.gens, drawn := s.drawn, toks := tk, os := s.os } :=
  WhileStep.intro F (news_sub N hl) hn ⟨c', rfl, rfl, O.relen (by omega), NM⟩
theorem finE {w : World} {x : Fx} {c' : LS} {wh : List Int} {h₀ h' : Heap} {L : Addr} {k tk : Nat} {s : Shared} {m' : Str → Option Value} {news : List (Addr × Obj)} (F : Fr h₀ L h' m') (N : News h₀ L h' news)
    (O : Ok x wh k c') (hl : ∀ p ∈ Led0 w x c', p ∈ news) (NM : NamesW x c' m') (h24 : c'.stk.length ≤ 24) :
    PostW w x wh h₀ L s Flow.next { heap := h', gens := s.gens, drawn := s.drawn, toks := tk, os := s.os } :=
  ⟨rfl, h', tk, m', c', rfl, F, news_sub N hl, O.relen h24, NM⟩

theorem fr_chain {h₀ h : Heap} {L : Addr} {m : Str → Option Value} {x : Fx} {c : LS} (n : NamesW x c m) (F : Fr h₀ L h m) :
    Fr h₀ L h (fun y => if y = Str.ofString "stack" then some (.ref c.st) else if y = Str.ofString "domain" then some (.ref x.D)
      else if y = Str.ofString "values" then some (.ref x.V) else if y = Str.ofString "whole" then some (.ref x.W) else if y = Str.ofString "twin" then some (.ref x.T) else if y = Str.ofString "handed" then some (.ref x.H) else m y) := by
  have e : (fun y => if y = Str.ofString "stack" then some (.ref c.st) else if y = Str.ofString "domain" then some (.ref x.D)
      else if y = Str.ofString "values" then some (.ref x.V) else if y = Str.ofString "whole" then some (.ref x.W) else if y = Str.ofString "twin" then some (.ref x.T) else if y = Str.ofString "handed" then some (.ref x.H) else m y) = m := by
    funext y
    split
    · rename_i q; rw [q, n.n1]
    · split
      · rename_i q; rw [q, n.n3]
      · split
        · rename_i q; rw [q, n.n4]
        · split
          · rename_i q; rw [q, n.n5]
          · split
            · rename_i q; rw [q, n.n6]
            · split
              · rename_i q; rw [q, n.n7]
              · rfl
  rw [e]
  exact F

theorem law_while (w : World) (h₀ : Heap) (L fa : Addr) (cd : Value) (s : Shared) (x : Fx) (c : LS) (wh vn : List Int) (m mg mb : Str → Option Value) (mean : ExcName → Option Value) :
  (hd.heap_39 w.params).In h₀ → Below callerA h₀ [] h₀ → Top hd.view_39 (looseW hd.view_39 []) mean mg mb h₀ →
  Fr h₀ L s.heap m → News h₀ L s.heap (Led0 w x c) → Ord x → x.C = L + 1 → IntsAre x.wv wh → wh.Pairwise (· ≤ ·) → wh.length = vn.length → vn.length ≤ 12 → NamesW x c m → Ok x wh 24 c →
  wpAny (model PySem.Challenge.rw_fb0031_01.row.prog w) (callerA.deeper (lawEnv L fa cd)) (exec whileStmt (lawEnv L fa cd)) (PostW w x wh h₀ L s) (fun _ _ => False) s := by
  k_fill
  dsimp only [lawEnv, whileStmt, lawBody, lawScope, lawDef, defBody, defScope, PySem.Challenge.pw_fb0031_01, List.drop, List.headD, Option.getD]
  intro KX K0 T F N O hC hW sW lW zV NM OK
  show wpAny _ _ _ _ _ _
  refine While_inv (JW w x wh) F N ⟨c, rfl, rfl, OK, NM⟩ ?_ PassesOwn.never
  clear F N NM OK c m
  rintro n m₁ news₁ h₁ tk₁ F N ⟨c, en, rfl, OK, NM⟩
  have F := fr_chain NM F
  obtain ⟨I, W, Tw, TD, SL, HL, D, DD, H, V, R, C, oI, oc, wv, vv, rv, tv, wc, vc, rc, tc, hhc, t1, t2⟩ := x
  obtain ⟨st, sh, stv, shv, sv, hv, dv, stc, shc, sc, hc1, dc, saved, shn, tn, hn, dn, stk⟩ := c
  obtain ⟨o1, o2, o2b, o2c, o3, o4, o5, o6, o7, o8, o9, o10⟩ := O
  obtain ⟨a1, a2, a3, a4, a5, sv0, nd, i1, i2, i3, i4, s1, s2, G, ln⟩ := OK
  dsimp only at *
  subst hC
  subst en
  have z1 := G.len
  have z2 := St.length G.st
  have z3 := s1.length
  have y3 := hW.length
  have y4 := i1.length
  have y5 := i2.length
  have y6 := i3.length
  have y7 := i4.length
  rw [List.length_reverse] at y5
  have y8 : stv.length = saved.length := by rw [s2]; simp
  have off : OwnOff saved [st, sh, SL, HL, D] := by
    intro q hq b hb
    have := sv0 q hq
    simp only [List.mem_cons, List.not_mem_nil, or_false] at hb
    rcases hb with rfl | rfl | rfl | rfl | rfl <;> (refine neN ?_; omega)
  dsimp only [Led0] at N
  clear NM
  show wpAny _ _ _ _ _ _
  k_fold
  k_steps
  · (refine' finW ?F ?N (ok_pop a1 sv0 nd a4 ?i1 ?i2 ?i3 ?i4 ?s1 ?s2 ?G ?ln) ?hl ?NM ?hn ln; (case s2 => assumption); (case F => assumption); (case N => assumption); (case hl => walk_at "mine led0"); (case s1 => assumption); (case G => assumption); (case i1 => assumption); (case i2 => assumption); (case i3 => assumption); (case i4 => assumption); (case ln => assumption); (case NM => walk_at "mine namesW"); (case hn => exact Nat.lt_succ_self _))
  · (refine' finW ?F ?N (ok_pop0 a1 sv0 nd a4 ?i1 ?i2 i3 i4 ?s1 ?s2 ?G ?ln ?z) ?hl ?NM ?hn ln; (case s2 => assumption); (case F => assumption); (case N => assumption); (case hl => walk_at "mine led0"); (case s1 => assumption); (case G => assumption); (case i1 => assumption); (case i2 => assumption); (case ln => assumption); (case z => omega); (case NM => walk_at "mine namesW"); (case hn => exact Nat.lt_succ_self _))
  · (refine' finE ?F ?N (ok_same a1 a2 a3 a4 a5 sv0 nd i1 i2 i3 i4 s1 s2 G ln) ?hl ?NM ?hn; (case F => assumption); (case N => assumption); (case hl => walk_at "mine led0"); (case NM => walk_at "mine namesW"); (case hn => exact Nat.zero_le _))
end Mine
end
section
open PySem PySem.W PyProof.Rows Mine
namespace Mine
local macro_rules | `(tactic| walk_at "mine z") => `(tactic| first | omega | (simp only [List.length_append]; omega) | exact Nat.lt_of_le_of_lt List.length_erase_le (by omega))
local macro_rules | `(tactic| walk_at "call ref") => `(tactic| (k_here; k_dflt (refine' call_clsL ?k1 ?k2 ?k3 ?k4 ?k5 ?k6 ?_; (case k1 => k_asm); (case k2 => k_asm); (case k3 => k_asm); (case k5 => k_is); (case k6 => k_is); (case k4 => kernel_rfl); k_whole; intro x' d' h' F' N' l1 l2; (try k_lt l1); (try k_lt2 l2); (try k_sweep); k_enter)))
local macro_rules | `(tactic| walk_at "call ref") => `(tactic| (k_here; (with_reducible show wpAny _ _ (call (Value.ref 77) _) _ _ _); k_dflt (refine wpAny_call ?_; refine' code_defSC ?k1 ?k2 ?k3 ?k4 ?k5 ?kA ?kF ?kE ?k6 ?k7 ?k8 ?k9 ?kB ?_ ?c2 ?c3 ?c4 ?c5; (case kA => exact rfl); (case kF => exact rfl); (case kE => exact rfl); (case k2 => k_asm); (case k1 => k_asm); (case k3 => k_asm); (case k4 => k_asm); (case k5 => k_asm); (case k6 => k_is); (case k7 => k_is); (case k8 => k_room); (case k9 => first | exact BindsTo.of_eq rfl | exact binds_K (by k_in) rfl (by k_is) rfl rfl rfl); (case kB => exact locs rfl); (case c2 => exact rfl); (case c3 => exact rfl); (case c4 => exact rfl); (case c5 => decide); k_whole; intro g' L' h' FG' F' N' B' X' T' D'; (try dsimp only); (try k_lift B'); (try k_fold))))
local macro_rules | `(tactic| walk_at "setAttr ref") => `(tactic| (k_here; k_dflt (refine' set_L ?k1 ?k2 ?k3 ?k4 ?k5 ?k6 ?k7 ?k10 ?k11 ?k12 ?k13 ?_; (case k1 => k_asm); (case k2 => k_asm); (case k3 => k_asm); (case k4 => (refine' inst_dom ?N2 ?h12 ?h22; (case N2 => k_asm); (case h12 => k_mem); (case h22 => k_mem))); (case k5 => exact rfl); (case k6 => kernel_rfl); (case k7 => k_is); (case k10 => k_get); (case k11 => k_put); (case k12 => k_upd); (case k13 => exact Nat.le_of_ble_eq_true rfl); k_whole; intro h' F' N'; (try k_sweep))))
local macro_rules | `(tactic| walk_at "getMethod type:list") => `(tactic| (k_here; refine' method_type ?F ?X ?m (by decide +kernel) ?e ?h ?_; (case F => k_asm); (case X => k_asm); (case m => exact meta_list'); (case e => k_dflt k_is); (case h => k_handed)))
local macro_rules | `(tactic| walk_at "call builtin:list.__init__") => `(tactic| (k_here; k_dflt (refine' dom_init ?F ?X ?N ?h1 ?h2 ?o ?U ?hk ?ne ?hz ?_; (case F => k_asm); (case X => k_asm); (case N => k_asm); (case h1 => k_mem); (case h2 => k_mem); (case o => kernel_rfl); (case U => k_updF); (case hk => k_mem); (case ne => k_ne); (case hz => omega)); intro h' n' F' N'; (try dsimp only at N')))
-- attributes and methods of an object of the class over list
local macro_rules | `(tactic| walk_at "getAttr ref") => `(tactic| (k_here; k_dflt (refine' getown_L ?F ?X ?I ?o ?a ?l ?v ?_; (case F => k_asm); (case X => k_asm); (case I => (refine' inst_dom ?N2 ?h12 ?h22; (case N2 => k_asm); (case h12 => k_mem); (case h22 => k_mem))); (case o => kernel_rfl); (case a => k_is); (case l => k_get); (case v => k_handed); k_whole)))
local macro_rules | `(tactic| walk_at "getMethod ref") => `(tactic| (k_here; k_dflt (refine' meth_L ?F ?X ?I ?o ?f ?t ?k ?l ?_; (case F => k_asm); (case X => k_asm); (case I => (refine' inst_dom ?N2 ?h12 ?h22; (case N2 => k_asm); (case h12 => k_mem); (case h22 => k_mem))); (case o => kernel_rfl); (case f => k_is); (case t => k_is); (case k => decide +kernel); (case l => k_get); k_whole)))
-- list's own methods
local macro_rules | `(tactic| walk_at "mine member") => `(tactic| first | assumption | exact (Good.mem (by assumption)).mp (by assumption))
local macro_rules | `(tactic| walk_at "mine absent") => `(tactic| first | assumption | exact fun hh' => absurd ((Good.mem (by assumption)).mpr hh') (by assumption))
local macro_rules | `(tactic| walk_at "call builtin:list.remove") => `(tactic| (k_here; k_dflt (show wpAny _ _ (call (Value.builtin _) [Value.ref _, Value.int _ _]) _ _ _); k_dflt (first
  | (refine' remove_in ?i ?F ?N ?U ?I ?z ?v ?_; (case F => k_asm); (case N => k_asm); (case U => k_updF); (case i => (first | (refine' isl_dom ?F2 ?X2 ?N2 ?h12 ?h22 ?o2; (case F2 => k_asm); (case X2 => k_asm); (case N2 => k_asm); (case h12 => k_mem); (case h22 => k_mem); (case o2 => kernel_rfl)) | exact isl_plain (News.get (by k_asm) (by k_mem)))); (case I => assumption); (case z => omega); (case v => walk_at "mine member"); (intro h' w' n' hI' F' N'; (try dsimp only at N'); (try k_sweep)))
  | (refine' remove_out ?i ?o ?hh ?I ?v ?_; (case o => exact News.get (by k_asm) (by k_mem)); (case i => (refine' isl_dom ?F2 ?X2 ?N2 ?h12 ?h22 ?o2; (case F2 => k_asm); (case X2 => k_asm); (case N2 => k_asm); (case h12 => k_mem); (case h22 => k_mem); (case o2 => kernel_rfl))); (case hh => with_unfolding_all rfl); (case I => assumption); (case v => walk_at "mine absent"); (intro h' tk' e' hx')))))
local macro_rules | `(tactic| walk_at "call builtin:list.extend") => `(tactic| (k_here; k_dflt (show wpAny _ _ (call (Value.builtin _) [Value.ref _, Value.ref _]) _ _ _); k_dflt (refine' extend_by ?i ?F ?N ?U ?k ?I ?J ?z ?_; (case F => k_asm); (case N => k_asm); (case U => k_updF); (case i => (refine' isl_dom ?F2 ?X2 ?N2 ?h12 ?h22 ?o2; (case F2 => k_asm); (case X2 => k_asm); (case N2 => k_asm); (case h12 => k_mem); (case h22 => k_mem); (case o2 => kernel_rfl))); (case k => exact at_listH (by k_asm) (by k_mem)); (case I => assumption); (case J => assumption); (case z => walk_at "mine z")); intro h' w' n' hI' F' N'; (try dsimp only at N'); (try k_sweep)))
local macro_rules | `(tactic| walk_at "call builtin:len") => `(tactic| (k_here; k_dflt (show wpAny _ _ (call (Value.builtin "len") [Value.ref _]) _ _ _); k_dflt (refine' dom_len ?D ?z ?_; (case D => (refine' domAt_of ?F2 ?X2 ?N2 ?h12 ?o2 ?s2; (case F2 => k_asm); (case X2 => k_asm); (case N2 => k_asm); (case h12 => k_mem); (case o2 => kernel_rfl); (case s2 => kernel_rfl))); (case z => (rw [List.size_toArray]; omega))); intro t'; (try simp only [List.size_toArray])))
local macro_rules | `(tactic| walk_at "call builtin:sorted") => `(tactic| (k_here; k_dflt (show wpAny _ _ (call (Value.builtin _) [Value.ref _]) _ _ _); k_dflt (refine' dom_sortedL ?D ?hh ?F ?N ?I ?z ?_; (case D => (refine' domAt_of ?F2 ?X2 ?N2 ?h12 ?o2 ?s2; (case F2 => k_asm); (case X2 => k_asm); (case N2 => k_asm); (case h12 => k_mem); (case o2 => kernel_rfl); (case s2 => kernel_rfl))); (case hh => with_unfolding_all rfl); (case F => k_asm); (case N => k_asm); (case I => assumption); (case z => walk_at "mine z")); intro B' h' tk' v' n' c' F' N' l1 i' p' o'; (try k_lt l1); (try k_sweep)))
local macro_rules | `(tactic| walk_at "compareOp In int ref") => `(tactic| (k_here; k_dflt (refine' in_split ?N ?m ?I ?_ ?_; (case N => k_asm); (case m => k_mem); (case I => assumption)); all_goals intro hv'))
local macro_rules | `(tactic| walk_at "call builtin:list.append") => `(tactic| (k_here; k_dflt (first
  | (k_dflt (show wpAny _ _ (call (Value.builtin _) [Value.ref _, Value.int _ _]) _ _ _); refine' append_int ?F ?N ?U ?I ?z ?_; (case F => k_asm); (case N => k_asm); (case U => k_updF); (case I => assumption); (case z => ((try simp only [List.length_reverse]); omega)); (intro h' c' w' hI' F' N'; (try dsimp only at N'); (try k_sweep)))
  | (k_dflt (show wpAny _ _ (call (Value.builtin _) [Value.ref _, _]) _ _ _); refine' append_one ?F ?N ?U ?z ?_; (case F => k_asm); (case N => k_asm); (case U => k_updF); (case z => omega); (intro h' c' F' N'; (try dsimp only at N'); (try k_sweep))))))
local macro_rules | `(tactic| walk_at "call builtin:list.pop") => `(tactic| (k_here; k_dflt (show wpAny _ _ (call (Value.builtin _) [Value.ref _]) _ _ _); k_dflt (first
  | (refine' pop_one ?F ?N ?U ?z ?_; (case F => k_asm); (case N => k_asm); (case U => k_updF); (case z => ((try simp only [List.length_reverse, List.length_map]); omega)); (intro h' c' F' N'; (try dsimp only at N'); (try k_sweep)))
  | (refine' pop_empty ?N ?m ?hh ?_; (case N => k_asm); (case m => k_mem); (case hh => with_unfolding_all rfl); (intro h' tk' e' hx')))))
local macro_rules | `(tactic| walk_at "delItem ref ref") => `(tactic| (k_here; k_dflt (first
  | (refine' del_tail ?F ?N ?U ?I ?i ?p ?z ?_; (case F => k_asm); (case N => k_asm); (case U => k_updF); (case I => assumption); (case i => omega); (case p => omega); (case z => walk_at "mine z"); (intro h' c' w' hI' F' N'; (try dsimp only at N'); (try k_sweep)))
  | (refine' del_all ?F ?N ?U ?z ?_; (case F => k_asm); (case N => k_asm); (case U => k_updF); (case z => omega); (intro h' c' F' N'; (try dsimp only at N'); (try k_sweep))))))
local macro_rules | `(tactic| walk_at "subscriptTail Name Slice ref ref") => `(tactic| (k_here; k_dflt (refine' slice_tail ?F ?N ?m ?I ?i ?p ?z ?_ ?s ?t; (case F => k_asm); (case N => k_asm); (case m => k_mem); (case I => assumption); (case i => omega); (case p => omega); (case z => walk_at "mine z"); (case s => with_unfolding_all rfl); (case t => (intro _; rfl))); intro D' w' h' F' N' l1 hI'; (try k_lt l1); (try k_sweep)))
local macro_rules | `(tactic| walk_at "binaryOp Add ref ref") => `(tactic| (k_here; k_dflt (refine' add_two ?F ?N ?m ?m2 ?I ?J ?z ?_; (case F => k_asm); (case N => k_asm); (case m => k_mem); (case m2 => k_mem); (case I => assumption); (case J => exact IntsAre.cons _ _ IntsAre.nil); (case z => (simp only [List.length_cons, List.length_nil]; omega))); intro D' w' h' hI' F' N' l1; (try k_lt l1); (try k_sweep)))
local macro_rules | `(tactic| walk_at "subscriptTail BinOp Call ref int") => `(tactic| (k_here; k_dflt (refine' item_at ?N ?m ?I ?z ?a ?b ?_ ?s; (case N => k_asm); (case m => k_mem); (case I => assumption); (case z => (simp only [List.length_append, List.length_cons, List.length_nil]; omega)); (case a => l_idx); (case b => (simp only [List.length_append, List.length_cons, List.length_nil]; l_idx)); (case s => with_unfolding_all rfl)); intro v' t' hv'))
local macro_rules | `(tactic| walk_at "truthy ref") => `(tactic| (k_here; k_dflt (refine' truthy_split ?N ?m ?z ?a ?b; (case N => k_asm); (case m => k_mem); (case z => omega)); (case' a => (intro t' hs'; obtain ⟨e1, e2, e3, e4⟩ := stack_nil hs' (by assumption) (by assumption) (by assumption) (by assumption); subst e1 e2 e3 e4; subst hs')); (case' b => (intro t' hs'; obtain ⟨a, vs, c, ns, r, t, n, tn', rv, q, tk, ha, hb, e1, e2, e3, e4, e5, e6, e7, f1, f2, f3, f4, f5, f6, f7, f8, f9, f10⟩ := stack_cons hs' (by assumption) (by assumption) (by assumption) (by assumption) (by assumption); subst e1 e2 e3 e4 e5 e6 e7; (have g1 := off_tail (by assumption)); (have g2 := SvOk.head (by assumption)); (have g3 := SvOk.tail (by assumption))))))
local macro_rules | `(tactic| walk_at "mine eq") => `(tactic| first
  | exact eq_of_sorted (by assumption) (by assumption) (Good.perm (by assumption)) (Good.sorted (by assumption))
  | exact eq_of_sorted (by assumption) (by assumption) (Good.perm (Good.hide (by assumption) (by assumption))) (Good.sorted (Good.hide (by assumption) (by assumption)))
  | exact eq_of_sorted (by assumption) (by assumption) (Good.perm (Good.reset (by assumption) (by assumption))) (by assumption)
  | exact eq_of_sorted (by assumption) (by assumption) (perm_nil_right (Good.perm (by assumption)) (by omega)) (Good.sorted (by assumption)))
local macro_rules | `(tactic| walk_at "compareOp NotEq ref ref") => `(tactic| (k_here; k_dflt (refine' ne_same ?N ?m ?I ?m2 ?J ?u ?e ?_; (case N => k_asm); (case m => k_mem); (case m2 => k_mem); (case I => assumption); (case J => assumption); (case u => exact Nat.le_of_ble_eq_true rfl); (case e => walk_at "mine eq"))))
local macro_rules | `(tactic| walk_at "mine led") => `(tactic| (dsimp only [Led]; (iterate 13 (refine List.forall_mem_cons.mpr ⟨by k_mem, ?_⟩)); intro p hp; first | exact absurd hp List.not_mem_nil | k_ownIn))
local macro_rules | `(tactic| walk_at "mine led push") => `(tactic| (dsimp only [Led]; (iterate 14 (refine List.forall_mem_cons.mpr ⟨by k_mem, ?_⟩)); intro p hp; first | exact absurd hp List.not_mem_nil | k_ownIn))
local macro_rules | `(tactic| walk_at "mine names") => `(tactic| (refine ⟨?_, ?_, ?_, ?_, ?_, ?_, ?_⟩ <;> first | rfl | (with_unfolding_all rfl) | exact And.left (by assumption) | exact And.right (by assumption)))
local macro_rules | `(tactic| walk_at "mine gt") => `(tactic| ((try dsimp only); omega))
local macro_rules | `(tactic| walk_at "call type:list") => `(tactic| (k_here; k_dflt (show wpAny _ _ (call (Value.type "list") [Value.ref _]) _ _ _); k_dflt (refine' dom_list ?D ?z ?hh ?F ?N ?_; (case D => (refine' domAt_of ?F2 ?X2 ?N2 ?h12 ?o2 ?s2; (case F2 => k_asm); (case X2 => k_asm); (case N2 => k_asm); (case h12 => k_mem); (case o2 => kernel_rfl); (case s2 => kernel_rfl))); (case z => (rw [List.size_toArray]; omega)); (case hh => with_unfolding_all rfl); (case F => k_asm); (case N => k_asm)); intro B' h' tk' c' F' N' l1; (try k_lt l1); (try k_sweep)))
local macro_rules | `(tactic| walk_at "compareOp Eq ref ref") => `(tactic| (k_here; k_dflt (refine' eq_three ?N ?h1 ?h2 ?ma ?mb ?mc ?ma1 ?mb1 ?mc1 ?ia ?ib ?ic ?ia1 ?ib1 ?ic1 ?ea rfl rfl ?u ?_; (case N => k_asm); (case h1 => k_mem); (case h2 => k_mem); (case ma => k_mem); (case mb => k_mem); (case mc => k_mem); (case ma1 => k_mem); (case mb1 => k_mem); (case mc1 => k_mem); (case ia => assumption); (case ib => assumption); (case ic => assumption); (case ia1 => assumption); (case ib1 => assumption); (case ic1 => assumption); (case ea => walk_at "mine eq"); (case u => exact Nat.le_of_ble_eq_true rfl))))
def PostR (h₀ : Heap) (L : Addr) (s : Shared) (f : Flow) (s₂ : Shared) : Prop :=
  f = .ret (.bool true) ∧ ∃ h' tk m' news', s₂ = { s with heap := h', toks := tk } ∧ Fr h₀ L h' m' ∧ News h₀ L h' news'
theorem fr_end {h₀ h : Heap} {L : Addr} {m : Str → Option Value} {st D V W T H : Addr} (n1 : m (Str.ofString "stack") = some (.ref st)) (n3 : m (Str.ofString "domain") = some (.ref D)) (n4 : m (Str.ofString "values") = some (.ref V)) (n5 : m (Str.ofString "whole") = some (.ref W)) (n6 : m (Str.ofString "twin") = some (.ref T)) (n7 : m (Str.ofString "handed") = some (.ref H)) (F : Fr h₀ L h m) :
    Fr h₀ L h (fun y => if y = Str.ofString "stack" then some (.ref st) else if y = Str.ofString "domain" then some (.ref D)
      else if y = Str.ofString "values" then some (.ref V) else if y = Str.ofString "whole" then some (.ref W) else if y = Str.ofString "twin" then some (.ref T) else if y = Str.ofString "handed" then some (.ref H) else m y) := by
  have e : (fun y => if y = Str.ofString "stack" then some (.ref st) else if y = Str.ofString "domain" then some (.ref D)
      else if y = Str.ofString "values" then some (.ref V) else if y = Str.ofString "whole" then some (.ref W) else if y = Str.ofString "twin" then some (.ref T) else if y = Str.ofString "handed" then some (.ref H) else m y) = m := by
    funext y
    split
    · rename_i q; rw [q, n1]
    · split
      · rename_i q; rw [q, n3]
      · split
        · rename_i q; rw [q, n4]
        · split
          · rename_i q; rw [q, n5]
          · split
            · rename_i q; rw [q, n6]
            · split
              · rename_i q; rw [q, n7]
              · rfl
  rw [e]
  exact F
theorem law_end (w : World) (h₀ : Heap) (L fa : Addr) (cd : Value) (s : Shared) (x : Fx) (c : LS) (wh vn : List Int) (m mg mb : Str → Option Value) (mean : ExcName → Option Value) :
  (hd.heap_39 w.params).In h₀ → Below callerA h₀ [] h₀ → Top hd.view_39 (looseW hd.view_39 []) mean mg mb h₀ →
  Fr h₀ L s.heap m → News h₀ L s.heap (Led0 w x c) → Ord x → x.C = L + 1 → IntsAre x.vv vn → IntsAre x.tv vn → IntsAre x.wv wh → wh.Pairwise (· ≤ ·) → wh.length = vn.length → vn.length ≤ 12 →
  m (Str.ofString "stack") = some (.ref c.st) → m (Str.ofString "domain") = some (.ref x.D) → m (Str.ofString "values") = some (.ref x.V) → m (Str.ofString "whole") = some (.ref x.W) → m (Str.ofString "twin") = some (.ref x.T) → m (Str.ofString "handed") = some (.ref x.H) → Ok x wh 24 c →
  wpAny (model PySem.Challenge.rw_fb0031_01.row.prog w) (callerA.deeper (lawEnv L fa cd)) (execs (lawBody.drop 10) (lawEnv L fa cd)) (PostR h₀ L s) (fun _ _ => False) s := by
  k_fill
  dsimp only [lawEnv, lawBody, lawScope, lawDef, defBody, defScope, PySem.Challenge.pw_fb0031_01, List.drop, List.headD, Option.getD]
  intro KX K0 T F N O hC hV hT hW sW lW zV n1 n3 n4 n5 n6 n7 OK
  have F := fr_end n1 n3 n4 n5 n6 n7 F
  clear n1 n3 n4 n5 n6 n7
  obtain ⟨I, W, Tw, TD, SL, HL, D, DD, H, V, R, C, oI, oc, wv, vv, rv, tv, wc, vc, rc, tc, hhc, t1, t2⟩ := x
  obtain ⟨st, sh, stv, shv, sv, hv, dv, stc, shc, sc, hc1, dc, saved, shn, tn, hn, dn, stk⟩ := c
  obtain ⟨o1, o2, o2b, o2c, o3, o4, o5, o6, o7, o8, o9, o10⟩ := O
  obtain ⟨a1, a2, a3, a4, a5, sv0, nd, i1, i2, i3, i4, s1, s2, G, ln⟩ := OK
  dsimp only at *
  subst hC
  have z1 := G.len
  have z2 := St.length G.st
  have z3 := s1.length
  have y1 := hV.length
  have y2 := hT.length
  have y3 := hW.length
  have y4 := i1.length
  have y5 := i2.length
  have y6 := i3.length
  have y7 := i4.length
  rw [List.length_reverse] at y5
  have y8 : stv.length = saved.length := by rw [s2]; simp
  have off : OwnOff saved [st, sh, SL, HL, D] := by
    intro q hq b hb
    have := sv0 q hq
    simp only [List.mem_cons, List.not_mem_nil, or_false] at hb
    rcases hb with rfl | rfl | rfl | rfl | rfl <;> (refine neN ?_; omega)
  dsimp only [Led0] at N
  show wpAny _ _ _ _ _ _
  k_fold
  k_steps
  refine' ⟨rfl, _, _, ?_, ?_, rfl, ?F, ?N⟩
  case F => assumption
  case N => assumption
end Mine
end
section
open PySem PySem.W PyProof.Rows Mine
namespace Mine
theorem len_small {ys : List Value} {f : Int → Int} {a : Int} {n k : Nat} (h : IntsAre ys ((rangeKs a n).map f)) (hn : n ≤ k) : ys.length ≤ k := by
  rw [h.length, List.length_map, rangeKs, List.length_map, List.length_range]
  exact hn
theorem len_vn {f : Int → Int} {a : Int} {n k : Nat} (hn : n ≤ k) : ((rangeKs a n).map f).length ≤ k := by
  rw [List.length_map, rangeKs, List.length_map, List.length_range]
  exact hn
theorem ok_start {x : Fx} {wh : List Int} {st sh : Addr} {shv dv : List Value} {stc shc sc hc dc : Nat} {dn shn : List Int}
    (a1 : @LT.lt Nat _ x.W st) (a2 : @LT.lt Nat _ x.W sh) (a3 : @LT.lt Nat _ sh st) (a4 : @LT.lt Nat _ st x.I) (a5 : @LT.lt Nat _ sh x.I)
    (i1 : IntsAre shv shn) (i4 : IntsAre dv dn) (o1 : shn.Pairwise (· ≤ ·)) (p1 : shn.Perm dn) (p2 : wh.Perm dn) :
    Ok x wh 0 ⟨st, sh, [], shv, [], [], dv, stc, shc, sc, hc, dc, [], shn, [], [], dn, []⟩ where
  a1 := a1
  a2 := a2
  a3 := Nat.ne_of_gt a3
  a4 := Nat.ne_of_lt a4
  a5 := Nat.ne_of_lt a5
  sv := fun q hq => absurd hq (by simp)
  nd := by simp
  i1 := i1
  i2 := IntsAre.nil
  i3 := IntsAre.nil
  i4 := i4
  s1 := .nil
  s2 := rfl
  good := ⟨o1, p1, by simpa using p2.symm, trivial⟩
  len := Nat.zero_le _
theorem Names.toW {x : Fx} {c : LS} {m : Str → Option Value} (n : Names x c m) : NamesW x c m := ⟨n.n1, n.n3, n.n4, n.n5, n.n6, n.n7⟩

theorem law_rest (w : World) (h₀ : Heap) (L fa : Addr) (cd : Value) (s : Shared) (x : Fx) (c : LS) (wh vn : List Int) (m mg mb : Str → Option Value) (mean : ExcName → Option Value)
    (KX : (hd.heap_39 w.params).In h₀) (K0 : Below callerA h₀ [] h₀) (T : Top hd.view_39 (looseW hd.view_39 []) mean mg mb h₀)
    (F : Fr h₀ L s.heap m) (N : News h₀ L s.heap (Led0 w x c)) (O : Ord x) (hC : x.C = L + 1) (hV : IntsAre x.vv vn) (hT : IntsAre x.tv vn) (hW : IntsAre x.wv wh) (sW : wh.Pairwise (· ≤ ·)) (lW : wh.length = vn.length) (zV : vn.length ≤ 12)
    (NM : NamesW x c m) (K : Ok x wh 24 c) :
    wpAny (model PySem.Challenge.rw_fb0031_01.row.prog w) (callerA.deeper (lawEnv L fa cd)) (execs (lawBody.drop 9) (lawEnv L fa cd)) (PostR h₀ L s) (fun _ _ => False) s := by
  have e : lawBody.drop 9 = whileStmt :: lawBody.drop 10 := rfl
  rw [e]
  refine wpAny_execs_cons (wpAny_mono (law_while w h₀ L fa cd s x c wh vn m mg mb mean KX K0 T F N O hC hW sW lW zV NM K) (fun f s' h => ?_) (fun _ _ e => e))
  obtain ⟨rfl, h', tk, m', c', rfl, F', N', K', NM'⟩ := h
  refine wpAny_mono (law_end w h₀ L fa cd _ x c' wh vn m' mg mb mean KX K0 T F' N' O hC hV hT hW sW lW zV NM'.n1 NM'.n3 NM'.n4 NM'.n5 NM'.n6 NM'.n7 K') (fun f s' h => ?_) (fun _ _ e => e)
  obtain ⟨rfl, h'', tk', m'', news'', rfl, F'', N''⟩ := h
  exact ⟨rfl, h'', tk', m'', news'', rfl, F'', N''⟩

theorem law_all {w : World} {h₀ : Heap} {L fa : Addr} {cd : Value} {s : Shared} {x : Fx} {c : LS} {wh vn rn : List Int} {m mg mb : Str → Option Value} {mean : ExcName → Option Value} {r : Addr} {t₀ u₀ v₀ : Tok} {Q Q' : Flow → Shared → Prop} {E : Value → Shared → Prop}
    (KX : (hd.heap_39 w.params).In h₀) (K0 : Below callerA h₀ [] h₀) (T : Top hd.view_39 (looseW hd.view_39 []) mean mg mb h₀) (hr : IsRange s.heap r 0 24 1 t₀ u₀ v₀) (F : Fr h₀ L s.heap m) (N : News h₀ L s.heap (Led0 w x c))
    (hC : x.C = L + 1) (hc : x.oc.data = .cell (some (.ref x.R))) (hV : IntsAre x.vv vn) (hT : IntsAre x.tv vn) (hR : IntsAre x.rv rn) (hW : IntsAre x.wv wh) (sW : wh.Pairwise (· ≤ ·)) (lW : wh.length = vn.length) (zV : vn.length ≤ 12) (zR0 : 0 < rn.length) (zR : rn.length ≤ 61)
    (NM : Names x c m) (hI : x.I = s.heap.objs.size) (O : Ord x) (K : Ok x wh 0 c)
    (hQ : ∀ s', wpAny (model PySem.Challenge.rw_fb0031_01.row.prog w) (callerA.deeper (lawEnv L fa cd)) (execs (lawBody.drop 9) (lawEnv L fa cd)) Q' E s' → Q .next s')
    (done : ∀ h' tk m' news', Fr h₀ L h' m' → News h₀ L h' news' → Q' (.ret (.bool true)) { s with heap := h', toks := tk }) :
    wpAny (model PySem.Challenge.rw_fb0031_01.row.prog w) (callerA.deeper (lawEnv L fa cd)) (pyIter (.ref r))
      (fun it s₂ => LoopAtV PySem.Challenge.rw_fb0031_01.row.prog w (callerA.deeper (lawEnv L fa cd)) h₀ (lawEnv L fa cd) (Str.ofString "place") turnBody Q E it s₂) E s := by
  refine law_iter KX K0 T hr F N hC hc hV hR hW sW lW zV zR0 zR NM hI O K fun h' tk m' c' F' N' NM' K' => hQ _ ?_
  refine wpAny_mono (law_rest w h₀ L fa cd _ x c' wh vn m' mg mb mean KX K0 T F' N' O hC hV hT hW sW lW zV NM'.toW K') (fun f s' h => ?_) (fun _ _ e => e.elim)
  obtain ⟨rfl, h'', tk', m'', news'', rfl, F'', N''⟩ := h
  exact done h'' tk' m'' news'' F'' N''
theorem law_go {w : World} {h₀ : Heap} {L fa : Addr} {cd : Value} {s : Shared} {news : List (Addr × Obj)} {wh vn rn shn : List Int} {m mg mb : Str → Option Value} {mean : ExcName → Option Value} {r : Addr} {t₀ u₀ v₀ : Tok} {Q Q' : Flow → Shared → Prop} {E : Value → Shared → Prop}
    {st sh W T TD SL HL D DD H V R : Addr} {oc : Obj} {shv wv vv rv tv dv : List Value} {stc shc wc vc rc tc hhc sc hc dc : Nat} {t1 t2 : Tok}
    (KX : (hd.heap_39 w.params).In h₀) (K0 : Below callerA h₀ [] h₀) (Tp : Top hd.view_39 (looseW hd.view_39 []) mean mg mb h₀) (hr : IsRange s.heap r 0 24 1 t₀ u₀ v₀) (F : Fr h₀ L s.heap m) (N : News h₀ L s.heap news)
    (n1 : m (Str.ofString "stack") = some (.ref st)) (n2 : m (Str.ofString "shown") = some (.ref sh)) (n3 : m (Str.ofString "domain") = some (.ref D)) (n4 : m (Str.ofString "values") = some (.ref V)) (n5 : m (Str.ofString "whole") = some (.ref W))
    (n6 : m (Str.ofString "twin") = some (.ref T)) (n7 : m (Str.ofString "handed") = some (.ref H))
    (m1 : (st, listOf ([] : List Value).toArray stc) ∈ news) (m2 : (sh, listOf shv.toArray shc) ∈ news) (m3 : (W, listOf wv.toArray wc) ∈ news) (m4 : (T, domObj 59 TD tv.toArray tc) ∈ news) (m5 : (D, domObj 59 DD dv.toArray dc) ∈ news)
    (m6 : (DD, domDict w HL SL t1 t2) ∈ news) (m7 : (SL, listOf ([] : List Value).toArray sc) ∈ news) (m8 : (HL, listOf ([] : List Value).toArray hc) ∈ news) (m9 : (H, listOf vv.toArray hhc) ∈ news) (m10 : (V, listOf vv.toArray vc) ∈ news)
    (m11 : (L + 1, oc) ∈ news) (hcell : oc.data = .cell (some (.ref R))) (m12 : (R, listOf rv.toArray rc) ∈ news)
    (hV : IntsAre vv vn) (hT : IntsAre tv vn) (hR : IntsAre rv rn) (hW : IntsAre wv wh) (sW : wh.Pairwise (· ≤ ·)) (pW : wh.Perm vn) (hD : IntsAre dv vn) (hS : IntsAre shv shn) (sS : shn.Pairwise (· ≤ ·)) (pS : shn.Perm vn) (zV : vn.length ≤ 12) (zR0 : 0 < rn.length) (zR : rn.length ≤ 61)
    (o1 : @LT.lt Nat _ (L + 1) R) (o2 : @Ne Nat R V) (o2b : @Ne Nat (L + 1) V) (o2c : @LT.lt Nat _ R H) (o3 : @LT.lt Nat _ V H) (o4 : @LT.lt Nat _ H DD) (o5 : @LT.lt Nat _ DD D) (o6 : @LT.lt Nat _ D HL) (o7 : @LT.lt Nat _ HL SL) (o8 : @LT.lt Nat _ SL T) (o9 : @LT.lt Nat _ T W) (a2 : @LT.lt Nat _ W sh) (a3 : @LT.lt Nat _ sh st)
    (hQ : ∀ s', wpAny (model PySem.Challenge.rw_fb0031_01.row.prog w) (callerA.deeper (lawEnv L fa cd)) (execs (lawBody.drop 9) (lawEnv L fa cd)) Q' E s' → Q .next s')
    (done : ∀ h' tk m' news', Fr h₀ L h' m' → News h₀ L h' news' → Q' (.ret (.bool true)) { s with heap := h', toks := tk }) :
    wpAny (model PySem.Challenge.rw_fb0031_01.row.prog w) (callerA.deeper (lawEnv L fa cd)) (pyIter (.ref r))
      (fun it s₂ => LoopAtV PySem.Challenge.rw_fb0031_01.row.prog w (callerA.deeper (lawEnv L fa cd)) h₀ (lawEnv L fa cd) (Str.ofString "place") turnBody Q E it s₂) E s := by
  have l1 := Heap.lt_size (N _ m1).1
  have l2 := Heap.lt_size (N _ m2).1
  have l3 := Heap.lt_size (N _ m3).1
  refine law_all (x := ⟨s.heap.objs.size, W, T, TD, SL, HL, D, DD, H, V, R, L + 1, oc, oc, wv, vv, rv, tv, wc, vc, rc, tc, hhc, t1, t2⟩) (c := ⟨st, sh, [], shv, [], [], dv, stc, shc, sc, hc, dc, [], shn, [], [], vn, []⟩) KX K0 Tp hr F (news_sub N ?_) rfl hcell hV hT hR hW sW pW.length_eq zV zR0 zR ⟨n1, n2, n3, n4, n5, n6, n7⟩ rfl
    ⟨o1, o2, o2b, o2c, o3, o4, o5, o6, o7, o8, o9, l3⟩ (ok_start (Nat.lt_trans a2 a3) a2 a3 l1 l2 hS hD sS pS pW) hQ done
  intro p hp
  simp only [Led0, List.mem_cons, List.not_mem_nil, or_false] at hp
  rcases hp with rfl | rfl | rfl | rfl | rfl | rfl | rfl | rfl | rfl | rfl | rfl | rfl <;> assumption
end Mine
end
open PySem PySem.W PyProof.Rows Mine
local macro_rules | `(tactic| walk_at "mine z") => `(tactic| first | omega | (simp only [List.length_append]; omega) | exact Nat.lt_of_le_of_lt List.length_erase_le (by omega))
local macro_rules | `(tactic| walk_at "call ref") => `(tactic| (k_here; k_dflt (refine' call_clsL ?k1 ?k2 ?k3 ?k4 ?k5 ?k6 ?_; (case k1 => k_asm); (case k2 => k_asm); (case k3 => k_asm); (case k5 => k_is); (case k6 => k_is); (case k4 => kernel_rfl); k_whole; intro x' d' h' F' N' l1 l2; (try k_lt l1); (try k_lt2 l2); (try k_sweep); k_enter)))
local macro_rules | `(tactic| walk_at "call ref") => `(tactic| (k_here; (with_reducible show wpAny _ _ (call (Value.ref 77) _) _ _ _); k_dflt (refine wpAny_call ?_; refine' code_defSC ?k1 ?k2 ?k3 ?k4 ?k5 ?kA ?kF ?kE ?k6 ?k7 ?k8 ?k9 ?kB ?_ ?c2 ?c3 ?c4 ?c5; (case kA => exact rfl); (case kF => exact rfl); (case kE => exact rfl); (case k2 => k_asm); (case k1 => k_asm); (case k3 => k_asm); (case k4 => k_asm); (case k5 => k_asm); (case k6 => k_is); (case k7 => k_is); (case k8 => k_room); (case k9 => first | exact BindsTo.of_eq rfl | exact binds_K (by k_in) rfl (by k_is) rfl rfl rfl); (case kB => exact locs rfl); (case c2 => exact rfl); (case c3 => exact rfl); (case c4 => exact rfl); (case c5 => decide); k_whole; intro g' L' h' FG' F' N' B' X' T' D'; (try dsimp only); (try k_lift B'); (try k_fold))))
local macro_rules | `(tactic| walk_at "setAttr ref") => `(tactic| (k_here; k_dflt (refine' set_L ?k1 ?k2 ?k3 ?k4 ?k5 ?k6 ?k7 ?k10 ?k11 ?k12 ?k13 ?_; (case k1 => k_asm); (case k2 => k_asm); (case k3 => k_asm); (case k4 => (refine' inst_dom ?N2 ?h12 ?h22; (case N2 => k_asm); (case h12 => k_mem); (case h22 => k_mem))); (case k5 => exact rfl); (case k6 => kernel_rfl); (case k7 => k_is); (case k10 => k_get); (case k11 => k_put); (case k12 => k_upd); (case k13 => exact Nat.le_of_ble_eq_true rfl); k_whole; intro h' F' N'; (try k_sweep))))
local macro_rules | `(tactic| walk_at "getMethod type:list") => `(tactic| (k_here; refine' method_type ?F ?X ?m (by decide +kernel) ?e ?h ?_; (case F => k_asm); (case X => k_asm); (case m => exact meta_list'); (case e => k_dflt k_is); (case h => k_handed)))
local macro_rules | `(tactic| walk_at "call builtin:list.__init__") => `(tactic| (k_here; k_dflt (refine' dom_init ?F ?X ?N ?h1 ?h2 ?o ?U ?hk ?ne ?hz ?_; (case F => k_asm); (case X => k_asm); (case N => k_asm); (case h1 => k_mem); (case h2 => k_mem); (case o => kernel_rfl); (case U => k_updF); (case hk => k_mem); (case ne => k_ne); (case hz => omega)); intro h' n' F' N'; (try dsimp only at N')))
-- attributes and methods of an object of the class over list
local macro_rules | `(tactic| walk_at "getAttr ref") => `(tactic| (k_here; k_dflt (refine' getown_L ?F ?X ?I ?o ?a ?l ?v ?_; (case F => k_asm); (case X => k_asm); (case I => (refine' inst_dom ?N2 ?h12 ?h22; (case N2 => k_asm); (case h12 => k_mem); (case h22 => k_mem))); (case o => kernel_rfl); (case a => k_is); (case l => k_get); (case v => k_handed); k_whole)))
local macro_rules | `(tactic| walk_at "getMethod ref") => `(tactic| (k_here; k_dflt (refine' meth_L ?F ?X ?I ?o ?f ?t ?k ?l ?_; (case F => k_asm); (case X => k_asm); (case I => (refine' inst_dom ?N2 ?h12 ?h22; (case N2 => k_asm); (case h12 => k_mem); (case h22 => k_mem))); (case o => kernel_rfl); (case f => k_is); (case t => k_is); (case k => decide +kernel); (case l => k_get); k_whole)))
-- list's own methods
local macro_rules | `(tactic| walk_at "mine member") => `(tactic| first | assumption | exact (Good.mem (by assumption)).mp (by assumption))
local macro_rules | `(tactic| walk_at "mine absent") => `(tactic| first | assumption | exact fun hh' => absurd ((Good.mem (by assumption)).mpr hh') (by assumption))
local macro_rules | `(tactic| walk_at "call builtin:list.remove") => `(tactic| (k_here; k_dflt (show wpAny _ _ (call (Value.builtin _) [Value.ref _, Value.int _ _]) _ _ _); k_dflt (first
  | (refine' remove_in ?i ?F ?N ?U ?I ?z ?v ?_; (case F => k_asm); (case N => k_asm); (case U => k_updF); (case i => (first | (refine' isl_dom ?F2 ?X2 ?N2 ?h12 ?h22 ?o2; (case F2 => k_asm); (case X2 => k_asm); (case N2 => k_asm); (case h12 => k_mem); (case h22 => k_mem); (case o2 => kernel_rfl)) | exact isl_plain (News.get (by k_asm) (by k_mem)))); (case I => assumption); (case z => omega); (case v => walk_at "mine member"); (intro h' w' n' hI' F' N'; (try dsimp only at N'); (try k_sweep)))
  | (refine' remove_out ?i ?o ?hh ?I ?v ?_; (case o => exact News.get (by k_asm) (by k_mem)); (case i => (refine' isl_dom ?F2 ?X2 ?N2 ?h12 ?h22 ?o2; (case F2 => k_asm); (case X2 => k_asm); (case N2 => k_asm); (case h12 => k_mem); (case h22 => k_mem); (case o2 => kernel_rfl))); (case hh => with_unfolding_all rfl); (case I => assumption); (case v => walk_at "mine absent"); (intro h' tk' e' hx')))))
local macro_rules | `(tactic| walk_at "call builtin:list.extend") => `(tactic| (k_here; k_dflt (show wpAny _ _ (call (Value.builtin _) [Value.ref _, Value.ref _]) _ _ _); k_dflt (refine' extend_by ?i ?F ?N ?U ?k ?I ?J ?z ?_; (case F => k_asm); (case N => k_asm); (case U => k_updF); (case i => (refine' isl_dom ?F2 ?X2 ?N2 ?h12 ?h22 ?o2; (case F2 => k_asm); (case X2 => k_asm); (case N2 => k_asm); (case h12 => k_mem); (case h22 => k_mem); (case o2 => kernel_rfl))); (case k => exact at_listH (by k_asm) (by k_mem)); (case I => assumption); (case J => assumption); (case z => walk_at "mine z")); intro h' w' n' hI' F' N'; (try dsimp only at N'); (try k_sweep)))
local macro_rules | `(tactic| walk_at "call builtin:len") => `(tactic| (k_here; k_dflt (show wpAny _ _ (call (Value.builtin "len") [Value.ref _]) _ _ _); k_dflt (refine' dom_len ?D ?z ?_; (case D => (refine' domAt_of ?F2 ?X2 ?N2 ?h12 ?o2 ?s2; (case F2 => k_asm); (case X2 => k_asm); (case N2 => k_asm); (case h12 => k_mem); (case o2 => kernel_rfl); (case s2 => kernel_rfl))); (case z => (rw [List.size_toArray]; omega))); intro t'; (try simp only [List.size_toArray])))
local macro_rules | `(tactic| walk_at "call builtin:sorted") => `(tactic| (k_here; k_dflt (show wpAny _ _ (call (Value.builtin _) [Value.ref _]) _ _ _); k_dflt (refine' dom_sortedL ?D ?hh ?F ?N ?I ?z ?_; (case D => (refine' domAt_of ?F2 ?X2 ?N2 ?h12 ?o2 ?s2; (case F2 => k_asm); (case X2 => k_asm); (case N2 => k_asm); (case h12 => k_mem); (case o2 => kernel_rfl); (case s2 => kernel_rfl))); (case hh => with_unfolding_all rfl); (case F => k_asm); (case N => k_asm); (case I => assumption); (case z => walk_at "mine z")); intro B' h' tk' v' n' c' F' N' l1 i' p' o'; (try k_lt l1); (try k_sweep)))
local macro_rules | `(tactic| walk_at "compareOp In int ref") => `(tactic| (k_here; k_dflt (refine' in_split ?N ?m ?I ?_ ?_; (case N => k_asm); (case m => k_mem); (case I => assumption)); all_goals intro hv'))
local macro_rules | `(tactic| walk_at "call builtin:list.append") => `(tactic| (k_here; k_dflt (first
  | (k_dflt (show wpAny _ _ (call (Value.builtin _) [Value.ref _, Value.int _ _]) _ _ _); refine' append_int ?F ?N ?U ?I ?z ?_; (case F => k_asm); (case N => k_asm); (case U => k_updF); (case I => assumption); (case z => ((try simp only [List.length_reverse]); omega)); (intro h' c' w' hI' F' N'; (try dsimp only at N'); (try k_sweep)))
  | (k_dflt (show wpAny _ _ (call (Value.builtin _) [Value.ref _, _]) _ _ _); refine' append_one ?F ?N ?U ?z ?_; (case F => k_asm); (case N => k_asm); (case U => k_updF); (case z => omega); (intro h' c' F' N'; (try dsimp only at N'); (try k_sweep))))))
local macro_rules | `(tactic| walk_at "call builtin:list.pop") => `(tactic| (k_here; k_dflt (show wpAny _ _ (call (Value.builtin _) [Value.ref _]) _ _ _); k_dflt (first
  | (refine' pop_one ?F ?N ?U ?z ?_; (case F => k_asm); (case N => k_asm); (case U => k_updF); (case z => ((try simp only [List.length_reverse, List.length_map]); omega)); (intro h' c' F' N'; (try dsimp only at N'); (try k_sweep)))
  | (refine' pop_empty ?N ?m ?hh ?_; (case N => k_asm); (case m => k_mem); (case hh => with_unfolding_all rfl); (intro h' tk' e' hx')))))
local macro_rules | `(tactic| walk_at "delItem ref ref") => `(tactic| (k_here; k_dflt (first
  | (refine' del_tail ?F ?N ?U ?I ?i ?p ?z ?_; (case F => k_asm); (case N => k_asm); (case U => k_updF); (case I => assumption); (case i => omega); (case p => omega); (case z => walk_at "mine z"); (intro h' c' w' hI' F' N'; (try dsimp only at N'); (try k_sweep)))
  | (refine' del_all ?F ?N ?U ?z ?_; (case F => k_asm); (case N => k_asm); (case U => k_updF); (case z => omega); (intro h' c' F' N'; (try dsimp only at N'); (try k_sweep))))))
local macro_rules | `(tactic| walk_at "subscriptTail Name Slice ref ref") => `(tactic| (k_here; k_dflt (refine' slice_tail ?F ?N ?m ?I ?i ?p ?z ?_ ?s ?t; (case F => k_asm); (case N => k_asm); (case m => k_mem); (case I => assumption); (case i => omega); (case p => omega); (case z => walk_at "mine z"); (case s => with_unfolding_all rfl); (case t => (intro _; rfl))); intro D' w' h' F' N' l1 hI'; (try k_lt l1); (try k_sweep)))
local macro_rules | `(tactic| walk_at "binaryOp Add ref ref") => `(tactic| (k_here; k_dflt (refine' add_two ?F ?N ?m ?m2 ?I ?J ?z ?_; (case F => k_asm); (case N => k_asm); (case m => k_mem); (case m2 => k_mem); (case I => assumption); (case J => exact IntsAre.cons _ _ IntsAre.nil); (case z => (simp only [List.length_cons, List.length_nil]; omega))); intro D' w' h' hI' F' N' l1; (try k_lt l1); (try k_sweep)))
local macro_rules | `(tactic| walk_at "subscriptTail BinOp Call ref int") => `(tactic| (k_here; k_dflt (refine' item_at ?N ?m ?I ?z ?a ?b ?_ ?s; (case N => k_asm); (case m => k_mem); (case I => assumption); (case z => (simp only [List.length_append, List.length_cons, List.length_nil]; omega)); (case a => l_idx); (case b => (simp only [List.length_append, List.length_cons, List.length_nil]; l_idx)); (case s => with_unfolding_all rfl)); intro v' t' hv'))
local macro_rules | `(tactic| walk_at "truthy ref") => `(tactic| (k_here; k_dflt (refine' truthy_split ?N ?m ?z ?a ?b; (case N => k_asm); (case m => k_mem); (case z => omega)); (case' a => (intro t' hs'; obtain ⟨e1, e2, e3, e4⟩ := stack_nil hs' (by assumption) (by assumption) (by assumption) (by assumption); subst e1 e2 e3 e4; subst hs')); (case' b => (intro t' hs'; obtain ⟨a, vs, c, ns, r, t, n, tn', rv, q, tk, ha, hb, e1, e2, e3, e4, e5, e6, e7, f1, f2, f3, f4, f5, f6, f7, f8, f9, f10⟩ := stack_cons hs' (by assumption) (by assumption) (by assumption) (by assumption) (by assumption); subst e1 e2 e3 e4 e5 e6 e7; (have g1 := off_tail (by assumption)); (have g2 := SvOk.head (by assumption)); (have g3 := SvOk.tail (by assumption))))))
local macro_rules | `(tactic| walk_at "mine eq") => `(tactic| first
  | exact eq_of_sorted (by assumption) (by assumption) (Good.perm (by assumption)) (Good.sorted (by assumption))
  | exact eq_of_sorted (by assumption) (by assumption) (Good.perm (Good.hide (by assumption) (by assumption))) (Good.sorted (Good.hide (by assumption) (by assumption)))
  | exact eq_of_sorted (by assumption) (by assumption) (Good.perm (Good.reset (by assumption) (by assumption))) (by assumption)
  | exact eq_of_sorted (by assumption) (by assumption) (perm_nil_right (Good.perm (by assumption)) (by omega)) (Good.sorted (by assumption)))
local macro_rules | `(tactic| walk_at "compareOp NotEq ref ref") => `(tactic| (k_here; k_dflt (refine' ne_same ?N ?m ?I ?m2 ?J ?u ?e ?_; (case N => k_asm); (case m => k_mem); (case m2 => k_mem); (case I => assumption); (case J => assumption); (case u => exact Nat.le_of_ble_eq_true rfl); (case e => walk_at "mine eq"))))
local macro_rules | `(tactic| walk_at "mine led") => `(tactic| (dsimp only [Led]; (iterate 13 (refine List.forall_mem_cons.mpr ⟨by k_mem, ?_⟩)); intro p hp; first | exact absurd hp List.not_mem_nil | k_ownIn))
local macro_rules | `(tactic| walk_at "mine led push") => `(tactic| (dsimp only [Led]; (iterate 14 (refine List.forall_mem_cons.mpr ⟨by k_mem, ?_⟩)); intro p hp; first | exact absurd hp List.not_mem_nil | k_ownIn))
local macro_rules | `(tactic| walk_at "mine names") => `(tactic| (refine ⟨?_, ?_, ?_, ?_, ?_, ?_, ?_⟩ <;> first | rfl | (with_unfolding_all rfl) | exact And.left (by assumption) | exact And.right (by assumption)))
local macro_rules | `(tactic| walk_at "mine gt") => `(tactic| ((try dsimp only); omega))
local macro_rules | `(tactic| walk_at "call builtin:list.__init__") => `(tactic| (k_here; k_dflt (refine' dom_init ?F ?X ?N ?h1 ?h2 ?o ?U ?hk ?ne ?hz ?_; (case F => k_asm); (case X => k_asm); (case N => k_asm); (case h1 => k_mem); (case h2 => k_mem); (case o => kernel_rfl); (case U => k_updF); (case hk => k_mem); (case ne => k_ne); (case hz => exact len_small (by assumption) (by omega))); intro h' n' F' N'; (try dsimp only at N')))
local macro_rules | `(tactic| walk_at "call builtin:sorted") => `(tactic| (k_here; k_dflt (show wpAny _ _ (call (Value.builtin _) [Value.ref _]) _ _ _); (with_unfolding_all refine' kso_sorted ?k1 ?k2 ?k3 ?k4 ?k5 ?_; (case k1 => k_asm); (case k2 => k_asm); (case k3 => kso_list); (case k4 => l_ints); (case k5 => exact Nat.lt_of_le_of_lt (len_vn (k := 12) (by omega)) (by decide)); k_whole); intro D' v' n' c' h' F' N' l1 i' e' p' o' b'; (try k_lt l1); (try k_sweep)))
namespace Mine
def HoldP (P : Prop) : Prop := P
theorem HoldP.of {P : Prop} (h : HoldP P) : P := h
end Mine
local macro_rules | `(tactic| walk_at "pyIter ref") => `(tactic| ((with_reducible show wpAny _ _ (pyIter (Value.ref _)) (fun _ _ => LoopAtV _ _ _ _ _ _ _ _ _ _ _) _ _); refine HoldP.of ?_))
theorem PySem.Challenge.cw_fb0031_01_holds : PySem.Challenge.rw_fb0031_01.Holds :=
  hd (by
  k_go0
  all_goals (try k_fold)
  k_steps
  all_goals (delta HoldP)
  all_goals (rename IsRange _ _ 0 24 1 _ _ _ => R')
  · k_dflt (refine' law_go ?pkx ?pk0 ?ptop R' ?pF ?pN ?pn1 ?pn2 ?pn3 ?pn4 ?pn5 ?pn6 ?pn7 ?pm1 ?pm2 ?pm3 ?pm4 ?pm5 ?pm6 ?pm7 ?pm8 ?pm9 ?pm10 ?pm11 ?phcell ?pm12 ?phV ?phT ?phR ?phW ?psW ?ppW ?phD ?phS ?psS ?ppS ?pzV ?pzR0 ?pzR ?po1 ?po2 ?po2b ?po2c ?po3 ?po4 ?po5 ?po6 ?po7 ?po8 ?po9 ?pa2 ?pa3 (fun _ h => h) ?pdone)
    case pkx => k_dflt (k_asm)
    case pk0 => k_dflt (k_asm)
    case ptop => k_dflt (k_asm)
    case pF => k_dflt (k_asm)
    case pN => k_dflt (k_asm)
    case pn1 => k_dflt (with_unfolding_all rfl)
    case pn2 => k_dflt (with_unfolding_all rfl)
    case pn3 => k_dflt (with_unfolding_all rfl)
    case pn4 => k_dflt (with_unfolding_all rfl)
    case pn5 => k_dflt (with_unfolding_all rfl)
    case pn6 => k_dflt (with_unfolding_all rfl)
    case pn7 => k_dflt (with_unfolding_all rfl)
    case pm1 => k_dflt (k_mem)
    case pm2 => k_dflt (k_mem)
    case pm3 => k_dflt (k_mem)
    case pm4 => k_dflt (k_mem)
    case pm5 => k_dflt (k_mem)
    case pm6 => k_dflt (k_mem)
    case pm7 => k_dflt (k_mem)
    case pm8 => k_dflt (k_mem)
    case pm9 => k_dflt (k_mem)
    case pm10 => k_dflt (k_mem)
    case pm11 => k_dflt (k_mem)
    case phcell => k_dflt (assumption)
    case pm12 => k_dflt (k_mem)
    case phV => k_dflt (assumption)
    case phT => k_dflt (assumption)
    case phR => k_dflt (first | assumption | exact IntsAre.cons _ _ IntsAre.nil)
    case phW => k_dflt (assumption)
    case ppW => k_dflt (assumption)
    case psW => k_dflt (assumption)
    case phD => k_dflt (assumption)
    case phS => k_dflt (assumption)
    case ppS => k_dflt (assumption)
    case psS => k_dflt (assumption)
    case pzV => k_dflt (exact len_vn (by omega))
    case pzR0 => k_dflt (first | assumption | exact Nat.zero_lt_one)
    case pzR => k_dflt (first | omega | exact Nat.le_of_ble_eq_true rfl)
    case po1 => k_dflt (omega)
    case po2 => k_dflt (omega)
    case po2b => k_dflt (omega)
    case po2c => k_dflt (omega)
    case po3 => k_dflt (omega)
    case po4 => k_dflt (omega)
    case po5 => k_dflt (omega)
    case po6 => k_dflt (omega)
    case po7 => k_dflt (omega)
    case po8 => k_dflt (omega)
    case po9 => k_dflt (omega)
    case pa2 => k_dflt (omega)
    case pa3 => k_dflt (omega)
    intro h' tk' m' news' F' N'
    clear R'
    k_steps
  · k_dflt (refine' law_go ?qkx ?qk0 ?qtop R' ?qF ?qN ?qn1 ?qn2 ?qn3 ?qn4 ?qn5 ?qn6 ?qn7 ?qm1 ?qm2 ?qm3 ?qm4 ?qm5 ?qm6 ?qm7 ?qm8 ?qm9 ?qm10 ?qm11 ?qhcell ?qm12 ?qhV ?qhT ?qhR ?qhW ?qsW ?qpW ?qhD ?qhS ?qsS ?qpS ?qzV ?qzR0 ?qzR ?qo1 ?qo2 ?qo2b ?qo2c ?qo3 ?qo4 ?qo5 ?qo6 ?qo7 ?qo8 ?qo9 ?qa2 ?qa3 (fun _ h => h) ?qdone)
    case qkx => k_dflt (k_asm)
    case qk0 => k_dflt (k_asm)
    case qtop => k_dflt (k_asm)
    case qF => k_dflt (k_asm)
    case qN => k_dflt (k_asm)
    case qn1 => k_dflt (with_unfolding_all rfl)
    case qn2 => k_dflt (with_unfolding_all rfl)
    case qn3 => k_dflt (with_unfolding_all rfl)
    case qn4 => k_dflt (with_unfolding_all rfl)
    case qn5 => k_dflt (with_unfolding_all rfl)
    case qn6 => k_dflt (with_unfolding_all rfl)
    case qn7 => k_dflt (with_unfolding_all rfl)
    case qm1 => k_dflt (k_mem)
    case qm2 => k_dflt (k_mem)
    case qm3 => k_dflt (k_mem)
    case qm4 => k_dflt (k_mem)
    case qm5 => k_dflt (k_mem)
    case qm6 => k_dflt (k_mem)
    case qm7 => k_dflt (k_mem)
    case qm8 => k_dflt (k_mem)
    case qm9 => k_dflt (k_mem)
    case qm10 => k_dflt (k_mem)
    case qm11 => k_dflt (k_mem)
    case qhcell => k_dflt (assumption)
    case qm12 => k_dflt (k_mem)
    case qhV => k_dflt (assumption)
    case qhT => k_dflt (assumption)
    case qhR => k_dflt (first | assumption | exact IntsAre.cons _ _ IntsAre.nil)
    case qhW => k_dflt (assumption)
    case qpW => k_dflt (assumption)
    case qsW => k_dflt (assumption)
    case qhD => k_dflt (assumption)
    case qhS => k_dflt (assumption)
    case qpS => k_dflt (assumption)
    case qsS => k_dflt (assumption)
    case qzV => k_dflt (exact len_vn (by omega))
    case qzR0 => k_dflt (first | assumption | exact Nat.zero_lt_one)
    case qzR => k_dflt (first | omega | exact Nat.le_of_ble_eq_true rfl)
    case qo1 => k_dflt (omega)
    case qo2 => k_dflt (omega)
    case qo2b => k_dflt (omega)
    case qo2c => k_dflt (omega)
    case qo3 => k_dflt (omega)
    case qo4 => k_dflt (omega)
    case qo5 => k_dflt (omega)
    case qo6 => k_dflt (omega)
    case qo7 => k_dflt (omega)
    case qo8 => k_dflt (omega)
    case qo9 => k_dflt (omega)
    case qa2 => k_dflt (omega)
    case qa3 => k_dflt (omega)
    intro h' tk' m' news' F' N'
    clear R'
    k_steps)
