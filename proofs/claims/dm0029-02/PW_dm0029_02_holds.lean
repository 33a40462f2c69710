import PyProof.Rows.All
import Wide.All
import OpenK.AllK
import Wide.FinOn
import Lean
import PySem.Challenge.RW_dm0029_02
set_option Elab.async false
set_option linter.all false
set_option compiler.extract_closed false
section
open PySem PySem.W PyProof.Rows PySem.Calls PySem.Builtin PySem.Builtin.ObjectAttr PySem.Builtin.Getset_descriptor
set_option maxRecDepth 100000
set_option maxHeartbeats 4000000
namespace Mine

abbrev excObj (C tx : Addr) (dx : Option Addr) : Obj := { cls := .ref C, dict := dx, data := .fields #[.ref tx, .none, .none, .none, .bool false, .none] }
abbrev tupObj (vs : List Value) : Obj := { cls := .type "tuple", data := .seq vs.toArray }

def excMro : List Value → Bool
  | [.type a, .type b, .type c] => a == "Exception" && b == "BaseException" && c == "object"
  | .ref _ :: r => excMro r
  | _ => false
theorem excMro_has {b : Value} (hb : ([.type "Exception", .type "BaseException", .type "object"] : List Value).contains b = true) : ∀ {l : List Value}, excMro l = true → l.contains b = true
  | [.type x, .type y, .type z], e => by
    simp only [excMro, Bool.and_eq_true, beq_iff_eq] at e
    obtain ⟨⟨rfl, rfl⟩, rfl⟩ := e
    exact hb
  | .ref c :: r, e => by rw [List.contains_cons, excMro_has hb (l := r) (by cases r <;> first | exact e | cases e), Bool.or_true]
theorem excMro_not {n : String} (hb : ([.type "Exception", .type "BaseException", .type "object"] : List Value).contains (.type n) = false) : ∀ {l : List Value}, excMro l = true → l.contains (.type n) = false
  | [.type x, .type y, .type z], e => by
    simp only [excMro, Bool.and_eq_true, beq_iff_eq] at e
    obtain ⟨⟨rfl, rfl⟩, rfl⟩ := e
    exact hb
  | .ref c :: r, e => by rw [List.contains_cons, excMro_not hb (l := r) (by cases r <;> first | exact e | cases e)]; rfl
theorem excMro_refuse (self : Value) : ∀ {l : List Value}, excMro l = true → refuseLoop self "__setattr__" l = pure ()
  | [.type x, .type y, .type z], e => by
    simp only [excMro, Bool.and_eq_true, beq_iff_eq] at e
    obtain ⟨⟨rfl, rfl⟩, rfl⟩ := e
    exact PySem.F.store_Exception.passes self
  | .ref c :: r, e => by rw [refuseLoop_ref]; exact excMro_refuse self (by cases r <;> first | exact e | cases e)

def xOk (C : Addr) (cd : ClassData) (sl : Array (Option Value)) : Bool := !cd.hasDel && cd.hasDict && (sl.toList[4]?).join == some (.builtin "Exception.__new__") && cd.mro.head? == some (.ref C) && excMro cd.mro

/-- what is asked of an exception class of the text's own -/
structure XCls (K : Frag) (C : Addr) : Prop where
  obj : ∃ oc od cd sl, K.lookup C = some ⟨oc, od, .cls cd, sl⟩ ∧ xOk C cd sl = true
  call : specialIn K (.ref C) "__call__" = some (some (.builtin "type.__call__"))
  typ : instIn K (.ref C) (.type "type") = some true
  set : findIn K (.ref C) "__setattr__" = some (some (.builtin "object.__setattr__"))
  get : findIn K (.ref C) "__getattribute__" = some (some (.builtin "BaseException.__getattribute__"))
  hook : findIn K (.ref C) "__getattr__" = some none

structure MakesX (M : Model) (h : Heap) (C : Addr) : Prop where
  obj : ∃ oc od cd sl, h.get? C = some ⟨oc, od, .cls cd, sl⟩ ∧ cd.hasDel = false ∧ cd.mro.isEmpty = false
  made : Looks M h (Bind.madeBy (.ref C)) (some "Exception.__new__")
  base : Looks M h (Bind.staticBase (.ref C)) (.ref C)
  self : Looks M h (isSubtype (.ref C) (.ref C)) true
  exc : Looks M h (isSubtype (.ref C) (.type "Exception")) true
  bexc : Looks M h (isSubtype (.ref C) (.type "BaseException")) true
  noAttr : Looks M h (isSubtype (.ref C) (.type "AttributeError")) false
  noName : Looks M h (isSubtype (.ref C) (.type "NameError")) false
  call : Looks M h (specialOf (.ref C) "__call__") (some (.builtin "type.__call__"))
  typ : Looks M h (isInstance (.ref C) (.type "type")) true
theorem XCls.parts {K : Frag} {C : Addr} (x : XCls K C) : ∃ oc od cd sl, K.lookup C = some ⟨oc, od, .cls cd, sl⟩ ∧ clsIn K C = some cd ∧ cd.hasDel = false ∧ cd.hasDict = true ∧ (sl.toList[4]?).join = some (.builtin "Exception.__new__") ∧ cd.mro.isEmpty = false ∧ cd.mro.contains (.ref C) = true ∧ excMro cd.mro = true := by
  obtain ⟨⟨oc, od, cd, sl, ho, e⟩, _, _⟩ := x
  simp only [xOk, Bool.and_eq_true, Bool.not_eq_true', beq_iff_eq] at e
  obtain ⟨⟨⟨⟨e1, e2⟩, e3⟩, e4⟩, e5⟩ := e
  refine ⟨oc, od, cd, sl, ho, by unfold clsIn; rw [ho], e1, e2, e3, ?_, ?_, e5⟩
  · cases q : cd.mro with | nil => rw [q] at e4; cases e4 | cons c l => rfl
  · cases q : cd.mro with
    | nil => rw [q] at e4; cases e4
    | cons c l => rw [q] at e4; cases e4; simp
theorem makesX_of {K : Frag} {M : Model} {h : Heap} (X : K.In h) {C : Addr} (x : XCls K C) : MakesX M h C := by
  obtain ⟨oc, od, cd, sl, ho, hc, e2, ed, e3, e4, e5, ex⟩ := x.parts
  have hm : Looks M h (mroOf (.ref C)) cd.mro := (looks_clsIn X hc).andThen .now
  obtain ⟨c, l, hl⟩ : ∃ c l, cd.mro = c :: l := by cases q : cd.mro with | nil => rw [q] at e4; cases e4 | cons c l => exact ⟨c, l, rfl⟩
  have made : Looks M h (Bind.madeBy (.ref C)) (some "Exception.__new__") := by
    intro A Q E s k q
    unfold Bind.madeBy
    refine wpAny_bind (hm A _ E s k ?_)
    rw [hl, List.forIn_cons]
    refine wpAny_bind (wpAny_bind (wpAny_bind (wpAny_bind (wpAny_loadPart (k _ _ (X _ _ ho)) (wpAny_pure ?_)))))
    dsimp only
    rw [← Array.getElem?_toList, e3]
    exact wpAny_pure (wpAny_pure (wpAny_pure q))
  have sub : ∀ b, Looks M h (isSubtype (.ref C) b) (cd.mro.contains b) := fun b => looks_mroIn X (by unfold mroIn; rw [hc, Option.bind_some, if_neg (by rw [e4]; decide)])
  have has : ∀ b, ([.type "Exception", .type "BaseException", .type "object"] : List Value).contains b = true → Looks M h (isSubtype (.ref C) b) true := fun b hb => by have := sub b; rwa [excMro_has hb ex] at this
  have hasnt : ∀ n, ([.type "Exception", .type "BaseException", .type "object"] : List Value).contains (.type n) = false → Looks M h (isSubtype (.ref C) (.type n)) false := fun n hb => by have := sub (.type n); rwa [excMro_not hb ex] at this
  refine ⟨⟨oc, od, cd, sl, X _ _ ho, e2, e4⟩, made, ?_, e5 ▸ sub _, has _ (by decide), has _ (by decide), hasnt _ (by decide), hasnt _ (by decide), looks_specialIn X x.call, looks_instIn X x.typ⟩
  intro A Q E s k q
  unfold Bind.staticBase
  refine wpAny_bind (hm A _ E s k ?_)
  rw [hl, List.forIn_cons]
  exact wpAny_bind (wpAny_bind (wpAny_bind (made A _ E s k (wpAny_pure (wpAny_pure (wpAny_pure q))))))

section
variable {prog : Program} {w : World} {A : Around} {K : Frag} {C : Addr} {R : Result → Shared → Prop} {h : Heap} {g : Array GenState} {d : Drawn} {t : Nat} {os : OsState}

theorem check_X {M : Model} (Y : MakesX M h C) {Q : Unit → Shared → Prop} {E : Value → Shared → Prop} {rest : List Value} {kw : List (Str × Value)} (q : Q () ⟨h, g, d, t, os⟩) :
    wpAny M A (checkBuiltinCall "Exception.__new__" ⟨.ref C :: rest, kw⟩) Q E ⟨h, g, d, t, os⟩ := by
  have F := PySem.F.excBase_Exception
  obtain ⟨⟨oc, od, cd, sl, hC, e2, e4⟩, made, base, self, exc, bexc, na, nn, call, typ⟩ := Y
  have hstar := F.noStar
  simp only [checkBuiltinCall, F.newKind, F.newSplit, F.newRow]
  repeat (first | simp only [bne_self_eq_false, Bool.false_eq_true, if_false] | lk)
  exact q
theorem new_X {rest : List Value} {kw : List (Str × Value)} (Y : MakesX (model prog w) h C) (hrest : rest.length ≤ sizeLine)
    (hq : R (.ok (.ret (.ref (h.objs.size + 1)))) ⟨(h.push (tupObj rest)).push (excObj C h.objs.size none), g, d, t, os⟩) :
    codeAny (model prog w) A (.call (.builtin "Exception.__new__") ⟨.ref C :: rest, kw⟩) R ⟨h, g, d, t, os⟩ := by
  have F := PySem.F.excBase_Exception
  refine codeAny_call_builtin_code (Code.quiet_builtin _ F.quiet) (check_X Y ?_)
  have hends := F.ends
  refine codeAny_builtinAt F.entry ?_
  unfold Builtin.«BaseException.__new__»
  refine PySem.wpAt_bind ?_
  show PySem.wpAt _ _ _ (stack >>= _) _ _ _
  refine PySem.wpAt_bind (PySem.wpAt_stack fun p below => PySem.wpAt_of_wpAny ?_)
  wp_walk
  refine PySem.wpAt_of_wpAny ?_
  rw [F.owner]
  obtain ⟨⟨oc, od, cd, sl, hC, e2, e4⟩, made, base, self, exc, bexc, na, nn, call, typ⟩ := Y
  have hm : Looks (model prog w) h (Bind.madeHere "BaseException.__new__" (.ref C)) () := base.andThen (made.andThen (Looks.of_pure (by simp only [Option.map_some, F.canon, bne_self_eq_false, Bool.false_eq_true, if_false])))
  have hsz : ¬ (rest.toArray.size > sizeLine) := by rw [List.size_toArray]; omega
  repeat (first | simp only [Bool.false_eq_true, if_false, Bool.not_true] | rw [if_neg hsz] | lk)
  refine nd_load (Heap.get?_push_of_some _ (Heap.get?_push_of_some _ hC)) ?_
  repeat (first | simp only [e2, Bool.false_eq_true, if_false] | lk)
  rw [Heap.size_push]
  exact hq

theorem make_X_core {rest : List Value} {kw : List (Str × Value)} {init : Value} (Y : MakesX (model prog w) h C) (hrest : rest.length ≤ sizeLine) (hi : Looks (model prog w) h (typeLookup (.ref C) "__init__") (some init))
    (hb : ∀ self, Looks (model prog w) h (bindSpecial init self) (init, [self]))
    (hq : codeAny (model prog w) (A.under (.builtin "type.__call__" ⟨.ref C :: rest, kw⟩)) (.call init ⟨.ref (h.objs.size + 1) :: rest, kw⟩) (InitBack (h.objs.size + 1) R) ⟨(h.push (tupObj rest)).push (excObj C h.objs.size none), g, d, t, os⟩) :
    codeAny (model prog w) A (.call (.ref C) ⟨rest, kw⟩) R ⟨h, g, d, t, os⟩ := by
  have Y' := Y
  obtain ⟨⟨oc, od, cd, sl, hC, e2, e4⟩, made, base, self, exc, bexc, na, nn, call, typ⟩ := Y
  refine codeAny_of_tree ?_
  show wpAny _ _ (callAny (.ref C) _) _ _ _
  refine nd_load hC ?_
  show wpAny _ _ (callAny.viaDunder (.ref C) _) _ _ _
  unfold callAny.viaDunder
  refine wpAny_bind (call.at ?_)
  dsimp only
  rw [tc_bind]
  refine wpAny_bind (wpAny_pure (wpAny_bind (wpAny_pure ?_)))
  refine wpAny_pure (a := Fin.again (.call (.builtin "type.__call__") ⟨.ref C :: rest, kw⟩)) (And.intro rfl ?_)
  refine codeAny_call_builtin_at (Code.quiet_builtin _ (by decide +kernel)) entry_typeCall (check_slot tc_kind tc_split typ (tc_args _ _ _) ?_)
  unfold Builtin.«type.__call__»
  have hm : Looks (model prog w) h (mroOf (.ref C)) cd.mro := ((Looks.ld (part := none) hC).andThen .now).andThen .now
  repeat (first | simp only [e4, Bool.false_eq_true, if_false] | with_reducible refine wpAny_call ?_ | lk)
  refine new_X Y' hrest ?_
  have k : ∀ b o, h.get? b = some o → ((h.push (tupObj rest)).push (excObj C h.objs.size none)).get? b = some o := fun b o e => Heap.get?_push_of_some _ (Heap.get?_push_of_some _ e)
  have hx : ((h.push (tupObj rest)).push (excObj C h.objs.size none)).get? (h.objs.size + 1) = some (excObj C h.objs.size none) := by heap_get
  have t1 : Looks (model prog w) ((h.push (tupObj rest)).push (excObj C h.objs.size none)) (typeOf (.ref (h.objs.size + 1))) (.ref C) := (Looks.ld hx).andThen .now
  have s1 := self.keeps k
  have i1 := hi.keeps k
  have b1 := (hb (.ref (h.objs.size + 1))).keeps k
  unfold isInstance callSpecial? specialOf
  repeat (first | with_reducible refine wpAny_call ?_ | lk)
  refine codeAny_mono hq fun r s' z => ?_
  rcases r with e | (v | _ | _ | _) <;> first | exact z | exact z.elim | skip
  obtain ⟨rfl, z⟩ := z
  exact wpAny_pure (wpAny_pure z)
end

section
variable {prog : Program} {w : World} {A : Around} {K : Frag} {C x : Addr} {s : Shared} {h₀ : Heap} {L : Addr} {m : Str → Option Value} {news : List (Addr × Obj)} {R : Result → Shared → Prop}
theorem make_X {rest : List Value} {kw : List (Str × Value)} {fI : Addr} (F : Fr h₀ L s.heap m) (N : News h₀ L s.heap news) (X : K.In s.heap) (hm : XCls K C)
    (hi : findIn K (.ref C) "__init__" = some (some (.ref fI))) (hf : typeIn K (.ref fI) = some (.type "function")) (hrest : rest.length ≤ 1000)
    (h : ∀ x tx h', Fr h₀ L h' m → News h₀ L h' ((x, excObj C tx none) :: (tx, tupObj rest) :: news) → (∀ p ∈ news, p.1 < tx) → tx < x →
      codeAny (model prog w) (A.under (.builtin "type.__call__" ⟨.ref C :: rest, kw⟩)) (.call (.ref fI) ⟨.ref x :: rest, kw⟩) (InitBack x R) { s with heap := h' }) :
    codeAny (model prog w) A (.call (.ref C) ⟨rest, kw⟩) R s := by
  obtain ⟨hh, g, d, t, os⟩ := s
  refine make_X_core (makesX_of X hm) (Nat.le_trans hrest (by rw [sizeLine_eq]; decide)) (looks_findIn X hi) (fun self => bind_fn X self hf) (h _ hh.objs.size _ ((F.push _).push _) ?_ (fun p hp => Heap.lt_size (N p hp).1) (Nat.lt_succ_self _))
  have := (N.push F (tupObj rest)).push (F.push _) (excObj C hh.objs.size none)
  rwa [Heap.size_push] at this
theorem call_X {E : Value → Shared → Prop} {Q : Value → Shared → Prop} {pos : List Value} {kw : List (Str × Value)} {fI : Addr} (F : Fr h₀ L s.heap m) (X₀ : K.In h₀) (N : News h₀ L s.heap news) (hm : XCls K C) (hi : findIn K (.ref C) "__init__" = some (some (.ref fI))) (hf : isFn K (.ref fI) = true)
    (hrest : pos.length ≤ 1000)
    (h : ∀ x tx h', Fr h₀ L h' m → News h₀ L h' ((x, excObj C tx none) :: (tx, tupObj pos) :: news) → (∀ p ∈ news, p.1 < tx) → tx < x →
      codeAny (model prog w) (A.under (.builtin "type.__call__" ⟨.ref C :: pos, kw⟩)) (.call (.ref fI) ⟨.ref x :: pos, kw⟩) (InitBack x fun r s' => match r with | .ok (.ret v) => Q v s' | .ok _ => False | .error e => E e s') { s with heap := h' }) :
    wpAny (model prog w) A (call (.ref C) pos kw) Q E s := wpAny_call (make_X F N (X₀.keeps F.keep) hm hi (beq_iff_eq.mp hf) hrest h)
end

section
variable {prog : Program} {w : World} {A : Around} {K : Frag} {C x L : Addr} {s : Shared} {h₀ : Heap} {m : Str → Option Value} {news news' : List (Addr × Obj)} {R : Result → Shared → Prop} {name : Str} {tk : Tok} {v : Value} {ox : Obj} {od : Option Obj}

theorem osa_openX {r : Option Value} (X : K.In s.heap) (I : InstAt s.heap x ox C od) (hx : XCls K C) (ht : takerIn K C name = some r)
    (h : ∀ b, wpAny (model prog w) A.in1 (match r with | some a => setByDescriptor a (.ref x) v | none => storeInOwnDict (.ref x) (.ref C) (.str name tk) name v b)
      (fun fin s' => match fin with | .done f => R (.ok f) s' | .again c' => c'.quiet = true ∧ codeAny (model prog w) A c' R s') (fun e s' => R (.error e) s') s) :
    codeAny (model prog w) A (.call (.builtin "object.__setattr__") ⟨[.ref x, .str name tk, v], []⟩) R s := by
  have SF := PySem.F.store_object
  obtain ⟨oc, odd, cd, sl, ho, hc, e2, ed, e3, ne, e5, ex⟩ := hx.parts
  have sub : Looks (model prog w) s.heap (isInstance (.ref x) (.type "object")) true := I.type.andThen (looks_mroIn X (by unfold mroIn; rw [hc, Option.bind_some, if_neg (by rw [ne]; decide), excMro_has (by decide) ex]))
  refine codeAny_call_builtin SF.slot.plain SF.entry (@check_slot (model prog w) _ _ s "object.__setattr__" "object" "__setattr__" (.ref x) [.str name tk, v] [] _ SF.kind SF.split sub (SF.args (.ref x) (.str name tk) v) ?_)
  obtain ⟨attr, ha, hr⟩ := Option.bind_eq_some_iff.mp ht
  have hm : Looks (model prog w) s.heap (mroOf (.ref C)) cd.mro := (looks_clsIn X hc).andThen .now
  have L3 : Looks (model prog w) s.heap (storeTaker? attr) r := by
    cases attr with
    | none => cases hr; exact .now
    | some a =>
      obtain ⟨b, hb, rfl⟩ := Option.map_eq_some_iff.mp hr
      refine (looks_takesIn X hb).andThen ?_
      cases b <;> exact .now
  rw [osa_eq, refuse_eq]
  refine wpAny_bind (wpAny_bind (I.type.here (wpAny_bind (hm.here ?_))))
  rw [excMro_refuse _ ex]
  refine wpAny_pure (wpAny_bind (I.type.here (wpAny_bind ((looks_findIn X ha).here (wpAny_bind (L3.here ?_))))))
  exact h _

theorem osa_dictX {od od' : Obj} {dx : Addr} {pre post : List (Addr × Obj)} {es : List DictEntry} {n : Nat} (F : Fr h₀ L s.heap m) (N : News h₀ L s.heap (pre ++ (dx, od) :: post)) (X : K.In s.heap)
    (I : InstAt s.heap x ox C (some od)) (hd : ox.dict = some dx) (hx : XCls K C) (ht : takerIn K C name = some none)
    (hl : (lookIn name od).isSome = true) (h1 : ∀ p ∈ pre, p.1 ≠ dx) (h2 : ∀ p ∈ post, p.1 ≠ dx)
    (e : Obj.putName name (PyData.keyHash w.params name) (.str name s.toks) v od = od') (e' : od'.data = .dict es.toArray n) (hz : es.length ≤ 1000)
    (h : ∀ h', Fr h₀ L h' m → News h₀ L h' (pre ++ (dx, od') :: post) → R (.ok (.ret .none)) { s with heap := h', toks := s.toks + 1 }) :
    codeAny (model prog w) A (.call (.builtin "object.__setattr__") ⟨[.ref x, .str name tk, v], []⟩) R s := by
  refine osa_openX X I hx ht fun b => ?_
  obtain ⟨oc, odd, cd, sl, ho, hc, e2, hd', e3, ne, e5, ex⟩ := hx.parts
  obtain ⟨U1, U2⟩ := news_upd (f := Obj.putName name (PyData.keyHash w.params name) (.str name s.toks) v) F N h1 h2 e (by obtain ⟨_, _, dd, _⟩ := od'; cases e'; rfl)
  have D := (N (dx, od) (by simp)).1
  have D' := (U2 (dx, od') (by simp)).1
  obtain ⟨hx, hcl, hn, -⟩ := I
  obtain ⟨oc, odi, oda, osl⟩ := ox
  dsimp only at hcl hd
  subst hcl hd
  refine wpAny_bind (wpAny_pure (wpAny_bind (wpAny_bind (wpAny_loadPart hx (wpAny_bind ((looks_clsIn X hc).here ?_))))))
  rw [hd']
  refine wpAny_pure (a := some dx) (wpAny_bind (wpAny_pure (wpAny_bind ?_)))
  unfold nsSet
  refine wpAny_bind (wpAny_bind (wpAny_askSetting (wpAny_pure (wpAny_bind (wpAny_mkText (wpAny_bind (wpAny_loadPart D ?_)))))))
  unfold lookIn at hl
  split at hl
  · rename_i es₀ n₀ q
    rw [q]
    dsimp only
    have c : (!es₀.any (·.key.isStr name) && es₀.any (·.refKey)) = false := by
      rw [← Array.any_toList, ← Array.any_toList]
      split at hl
      · rename_i en he
        rw [List.any_eq_true.mpr ⟨en, List.mem_of_find?_eq_some he, List.find?_some he⟩]; rfl
      · split at hl
        · cases hl
        · rename_i z; rw [Bool.not_eq_true] at z; rw [z, Bool.and_false]
    rw [aRefKeyMayBeTheName_at, c]
    refine wpAny_updatePart D ?_
    refine wpAny_bind (wpAny_lookBehind D' (by rw [e']; exact pastItsLine_dict (by rw [List.size_toArray, sizeLine_eq]; omega)) ?_)
    exact wpAny_pure (h _ U1 U2)
  · cases hl
end
end Mine
end
section
open PySem PySem.W PyProof.Rows PySem.Calls PySem.Builtin PySem.Builtin.ObjectAttr PySem.Builtin.Getset_descriptor
set_option maxRecDepth 100000
set_option maxHeartbeats 4000000
namespace Mine
section
variable {prog : Program} {w : World} {A : Around} {K : Frag} {C x L : Addr} {s : Shared} {h₀ : Heap} {m : Str → Option Value} {news news' : List (Addr × Obj)} {R : Result → Shared → Prop} {name : Str} {tk : Tok} {v : Value} {ox : Obj} {od : Option Obj}

abbrev xObj (C : Addr) (dx : Option Addr) (vs : Array Value) : Obj := { cls := .ref C, dict := dx, data := .fields vs }

theorem osa_newX {vs : Array Value} {pre post : List (Addr × Obj)} (F : Fr h₀ L s.heap m) (N : News h₀ L s.heap (pre ++ (x, xObj C none vs) :: post)) (X : K.In s.heap)
    (hx : XCls K C) (ht : takerIn K C name = some none)
    (h1 : ∀ p ∈ pre, p.1 ≠ x) (h2 : ∀ p ∈ post, p.1 ≠ x)
    (h : ∀ dx h', Fr h₀ L h' m → News h₀ L h' ((dx, dictOf [⟨PyData.keyHash w.params name, .str name s.toks, v⟩] 1) :: (pre ++ (x, xObj C (some dx) vs) :: post)) → (∀ p ∈ pre ++ (x, xObj C none vs) :: post, p.1 < dx) → R (.ok (.ret .none)) { s with heap := h', toks := s.toks + 1 }) :
    codeAny (model prog w) A (.call (.builtin "object.__setattr__") ⟨[.ref x, .str name tk, v], []⟩) R s := by
  have Dx := (N (x, xObj C none vs) (by simp)).1
  have I : PySem.W.InstAt s.heap x (xObj C none vs) C none := ⟨Dx, rfl, rfl, trivial⟩
  refine osa_openX X I hx ht fun b => ?_
  obtain ⟨oc, odd, cd, sl, ho, hc, e2, hd', e3, ne, e5, ex⟩ := hx.parts
  obtain ⟨hh, g, d, t, os⟩ := s
  dsimp only at F N X h Dx I ⊢
  have hlt : ∀ p ∈ pre ++ (x, xObj C none vs) :: post, p.1 < hh.objs.size := fun p hp => Heap.lt_size (N p hp).1
  have hxlt : x < hh.objs.size := Heap.lt_size Dx
  have F1 := F.push emptyDict
  have N1 := N.push F emptyDict
  have F2N2 := news_upd (f := fun o => { o with dict := some hh.objs.size }) (pre := (hh.objs.size, emptyDict) :: pre) F1 N1
    (fun p hp => by
      rcases List.mem_cons.mp hp with rfl | hp
      · exact Nat.ne_of_gt hxlt
      · exact h1 p hp) h2 (o' := xObj C (some hh.objs.size) vs) rfl rfl
  obtain ⟨F2, N2⟩ := F2N2
  have N2' : News h₀ L ((hh.push emptyDict).update x fun o => { o with dict := some hh.objs.size }) ([] ++ (hh.objs.size, emptyDict) :: (pre ++ (x, xObj C (some hh.objs.size) vs) :: post)) := N2
  obtain ⟨U1, U2⟩ := news_upd (f := Obj.putName name (PyData.keyHash w.params name) (.str name t) v) F2 N2' (fun p hp => (nomatch hp))
    (fun p hp => Nat.ne_of_lt (by
      rcases List.mem_append.mp hp with hp | hp
      · exact hlt p (List.mem_append_left _ hp)
      · rcases List.mem_cons.mp hp with rfl | hp
        · exact hxlt
        · exact hlt p (List.mem_append_right _ (.tail _ hp)))) (o' := dictOf [⟨PyData.keyHash w.params name, .str name t, v⟩] 1) (putName_dict name _ _ v [] 0) rfl
  have D := (N2' (hh.objs.size, emptyDict) (by simp)).1
  have D' := (U2 (hh.objs.size, dictOf [⟨PyData.keyHash w.params name, .str name t, v⟩] 1) (by simp)).1
  have Dx1 : (hh.push emptyDict).get? x = some (xObj C none vs) := Heap.get?_push_of_some _ Dx
  refine wpAny_bind (wpAny_pure (wpAny_bind (wpAny_bind (wpAny_loadPart Dx (wpAny_bind ((looks_clsIn X hc).here ?_))))))
  rw [hd']
  refine wpAny_bind (wpAny_alloc' (wpAny_bind (wpAny_update' Dx1 (wpAny_bind (wpAny_pure (wpAny_pure ?_))))))
  show wpAny _ _ (storeInDict hh.objs.size (.str name tk) name v) _ _ _
  unfold storeInDict newKeyGuard
  refine wpAny_bind (wpAny_pure (wpAny_bind ?_))
  unfold nsSet
  refine wpAny_bind (wpAny_bind (wpAny_askSetting (wpAny_pure (wpAny_bind (wpAny_mkText (wpAny_bind (wpAny_loadPart D ?_)))))))
  dsimp only
  have c : (!(#[] : Array DictEntry).any (·.key.isStr name) && (#[] : Array DictEntry).any (·.refKey)) = false := by simp
  rw [aRefKeyMayBeTheName_at, c]
  refine wpAny_updatePart D ?_
  refine wpAny_bind (wpAny_lookBehind D' (pastItsLine_dict (by simp)) ?_)
  exact wpAny_pure (h _ _ U1 U2 hlt)
end
end Mine
end
section
open PySem PySem.W PyProof.Rows PySem.Calls PySem.Builtin PySem.Builtin.ObjectAttr PySem.Builtin.Getset_descriptor
set_option maxRecDepth 100000
set_option maxHeartbeats 4000000
namespace Mine
namespace XF
theorem entry_gs_set : entryFor table "getset_descriptor.__set__" = some Builtin.«getset_descriptor.__set__» := entryFor_of_tree (by kernel_rfl)
theorem args_gs_set (a b c : Value) : argsOk "getset_descriptor.__set__" ⟨[a, b, c], []⟩ := by unfold argsOk; kernel_rfl
theorem entry_args_set : entryFor table "BaseException.args#set" = some Builtin.«BaseException.args#set» := entryFor_of_tree (by kernel_rfl)
theorem looks_type {M : Model} {h : Heap} : Looks M h (typeOf (.builtin "BaseException.args")) (.type "getset_descriptor") := by
  rw [PySem.F.typeOf_bexc_args]; exact .now
end XF
abbrev excF (a0 : Value) : Array Value := #[a0, .none, .none, .none, .bool false, .none]
section
variable {prog : Program} {w : World} {A : Around} {K : Frag} {C x L : Addr} {s : Shared} {h₀ : Heap} {m : Str → Option Value} {news news' : List (Addr × Obj)} {R : Result → Shared → Prop} {name : Str} {tk : Tok} {v : Value} {ox : Obj} {od : Option Obj} {E : Value → Shared → Prop}

/-- the field 0 of an exception is put anew -/
theorem bexcPut0 {a0 v : Value} {dx : Option Addr} {pre post : List (Addr × Obj)} {Q : Unit → Shared → Prop} (F : Fr h₀ L s.heap m) (N : News h₀ L s.heap (pre ++ (x, xObj C dx (excF a0)) :: post))
    (h1 : ∀ p ∈ pre, p.1 ≠ x) (h2 : ∀ p ∈ post, p.1 ≠ x) (h : ∀ h', Fr h₀ L h' m → News h₀ L h' (pre ++ (x, xObj C dx (excF v)) :: post) → Q () { s with heap := h' }) :
    wpAny (model prog w) A (Builtin.BaseException.bexcPut (.ref x) 0 v []) Q E s := by
  have Dx := (N (x, xObj C dx (excF a0)) (by simp)).1
  obtain ⟨F1, N1⟩ := news_upd (f := Obj.mapFields (·.setIfInBounds 0 v)) F N h1 h2 (o' := xObj C dx (excF v)) rfl rfl
  unfold Builtin.BaseException.bexcPut
  refine wpAny_bind (wpAny_field Dx rfl (by rfl) ?_)
  unfold setField updateField
  refine wpAny_bind (wpAny_bind (wpAny_load Dx ?_))
  dsimp only
  rw [if_pos (show 0 < (excF a0).size from Nat.zero_lt_succ _)]
  refine wpAny_update' Dx ?_
  have key : Q () { s with heap := s.heap.update x (Obj.mapFields fun x => x.setIfInBounds 0 v) } := h _ F1 N1
  cases a0 <;> first | exact wpAny_pure key | exact wpAny_letGo key

theorem args_setX {a0 : Value} {t : Addr} {items : Array Value} {dx : Option Addr} {pre post : List (Addr × Obj)} (F : Fr h₀ L s.heap m) (N : News h₀ L s.heap (pre ++ (x, xObj C dx (excF a0)) :: post)) (X : K.In s.heap) (hx : XCls K C)
    (I : PySem.W.InstAt s.heap x (xObj C dx (excF a0)) C od) (ht : takerIn K C "args" = some (some (.builtin "BaseException.args"))) (hi : IsTup s.heap t items)
    (h1 : ∀ p ∈ pre, p.1 ≠ x) (h2 : ∀ p ∈ post, p.1 ≠ x)
    (h : ∀ h', Fr h₀ L h' m → News h₀ L h' (pre ++ (x, xObj C dx (excF (.ref t))) :: post) → R (.ok (.ret .none)) { s with heap := h' }) :
    codeAny (model prog w) A (.call (.builtin "object.__setattr__") ⟨[.ref x, .str "args" tk, .ref t], []⟩) R s := by
  have Y := makesX_of (M := model prog w) X hx
  have hT : Looks (model prog w) s.heap (isInstance (.ref x) (.type "BaseException")) true := I.type.andThen Y.bexc
  refine osa_openX X I hx ht fun b => ?_
  show wpAny _ _ (setByDescriptor _ _ _) _ _ _
  unfold setByDescriptor callSpecial? specialOf
  refine wpAny_bind (wpAny_rule (wpAny_bind (wpAny_holding (wpAny_bind (wpAny_bind (XF.looks_type.here ((Looks.of_pure PySem.F.slot_gs_set.lookup).here ?_)))))))
  refine wpAny_holding ?_
  rw [PySem.F.slot_gs_set.bind]
  refine wpAny_bind (wpAny_pure (wpAny_bind (wpAny_call ?_)))
  have hT5 : s.TypeIs (.builtin "BaseException.args") "getset_descriptor" := PySem.F.typeOf_bexc_args
  refine codeAny_call_builtin PySem.F.slot_gs_set.plain XF.entry_gs_set (PySem.F.slot_gs_set.check _ _ _ _ _ _ _ _ hT5 (XF.args_gs_set _ _ _) ?_)
  obtain ⟨hh, g, d, tk', os⟩ := s
  dsimp only at F N X h hT hi I ⊢
  unfold Builtin.«getset_descriptor.__set__» descrSet descrStoreThrough descrCheckInstance descrNameAndClass descrItself
  have hT' : Looks (model prog w) hh (isInstance (.ref x) (.type (".".intercalate ("BaseException.args".cutAt '.').dropLast))) true := by rw [PySem.F.owner_bexc_args]; exact hT
  repeat lk
  have es : "BaseException.args" ++ "#set" = "BaseException.args#set" := by decide +kernel
  rw [es]
  refine ⟨Code.quiet_builtin _ (by decide +kernel), codeAny_builtin XF.entry_args_set ?_⟩
  unfold Builtin.«BaseException.args#set»
  refine wpAny_bind (call_tuple_tup hi ?_)
  refine wpAny_bind (bexcPut0 (s := ⟨hh, g, d, tk', os⟩) F N h1 h2 fun h' F' N' => ?_)
  exact wpAny_pure (wpAny_pure (wpAny_pure (h h' F' N')))
end
end Mine
end
section
open PySem PySem.W PyProof.Rows PySem.Calls PySem.Builtin PySem.Builtin.ObjectAttr PySem.Builtin.Getset_descriptor
set_option maxRecDepth 100000
set_option maxHeartbeats 4000000
namespace Mine
theorem upd_det {d : Addr} {o o' : Obj} : ∀ {l l' : List (Addr × Obj)}, Upd d o o' l l' → ∀ {pre post}, l = pre ++ (d, o) :: post → (∀ p ∈ pre, p.1 ≠ d) → l' = pre ++ (d, o') :: post
  | _, _, .head (r := r) _, pre, post, e, hp => by
    cases pre with
    | nil => cases e; rfl
    | cons q pre => cases e; exact absurd rfl (hp _ (.head _))
  | _, _, .tail (p := p) hn u, pre, post, e, hp => by
    cases pre with
    | nil => cases e; exact absurd rfl hn
    | cons q pre =>
      cases e
      rw [upd_det u rfl fun x hx => hp x (.tail _ hx)]
      rfl
theorem upd_mem {d : Addr} {o o' : Obj} : ∀ {l l' : List (Addr × Obj)}, Upd d o o' l l' → (d, o) ∈ l
  | _, _, .head _ => .head _
  | _, _, .tail _ u => .tail _ (upd_mem u)
section
variable {prog : Program} {w : World} {A : Around} {K : Frag} {C x L : Addr} {s : Shared} {h₀ : Heap} {m : Str → Option Value} {news : List (Addr × Obj)} {news' : Addr → List (Addr × Obj)} {R : Result → Shared → Prop} {name : Str} {tk : Tok} {v : Value} {ox : Obj} {od : Option Obj} {E : Value → Shared → Prop}

theorem set_newK {vs : Array Value} {Q : Unit → Shared → Prop} (F : Fr h₀ L s.heap m) (X₀ : K.In h₀) (N : News h₀ L s.heap news) (hx : XCls K C) (ht : takerIn K C name = some none)
    (U : ∀ dx, Upd x (xObj C none vs) (xObj C (some dx) vs) news (news' dx))
    (h : ∀ dx h', Fr h₀ L h' m → News h₀ L h' ((dx, dictOf [⟨PyData.keyHash w.params name, .str name (s.toks + 1), v⟩] 1) :: news' dx) → (∀ p ∈ news, p.1 < dx) → Q () { s with heap := h', toks := s.toks + 2 }) :
    wpAny (model prog w) A (setAttr (.ref x) name v) Q E s := by
  have X := X₀.keeps F.keep
  have Dx := (N _ (upd_mem (U 0))).1
  have I : PySem.W.InstAt s.heap x (xObj C none vs) C none := ⟨Dx, rfl, rfl, trivial⟩
  obtain ⟨pre, post, e1, _, a, b⟩ := (U 0).split
  refine set_plain X I hx.set ?_
  subst e1
  refine osa_newX (s := { s with toks := s.toks + 1 }) F N X hx ht a b fun dx h' F' N' l => ?_
  refine h dx h' F' ?_ l
  rw [upd_det (U dx) rfl a]
  exact N'

theorem set_dictK {news' : List (Addr × Obj)} {dx : Addr} {es es' : List DictEntry} {n n' : Nat} {Q : Unit → Shared → Prop} (F : Fr h₀ L s.heap m) (X₀ : K.In h₀) (N : News h₀ L s.heap news) (I : PySem.W.InstAt s.heap x ox C (some (dictOf es n))) (hd : ox.dict = some dx)
    (hx : XCls K C) (ht : takerIn K C name = some none) (hl : (getL name es).isSome = true)
    (e : (putL name (PyData.keyHash w.params name) (.str name (s.toks + 1)) v es, putN name es n) = (es', n')) (U : Upd dx (dictOf es n) (dictOf es' n') news news') (hz : es'.length ≤ 1000)
    (h : ∀ h', Fr h₀ L h' m → News h₀ L h' news' → Q () { s with heap := h', toks := s.toks + 2 }) :
    wpAny (model prog w) A (setAttr (.ref x) name v) Q E s := by
  obtain ⟨pre, post, rfl, rfl, a, b⟩ := U.split
  obtain ⟨e1, e2⟩ := Prod.mk.inj e
  exact set_plain (X₀.keeps F.keep) I hx.set (osa_dictX (s := { s with toks := s.toks + 1 }) F N (X₀.keeps F.keep) I hd hx ht hl a b (by rw [putName_dict, e1, e2]) rfl hz fun h' F' N' => h h' F' N')

theorem set_argsK {news' : List (Addr × Obj)} {dx : Option Addr} {a0 : Value} {t : Addr} {items : Array Value} {Q : Unit → Shared → Prop} (F : Fr h₀ L s.heap m) (X₀ : K.In h₀) (N : News h₀ L s.heap news) (I : PySem.W.InstAt s.heap x (xObj C dx (excF a0)) C od)
    (hx : XCls K C) (ht : takerIn K C "args" = some (some (.builtin "BaseException.args"))) (hi : IsTup s.heap t items) (U : Upd x (xObj C dx (excF a0)) (xObj C dx (excF (.ref t))) news news')
    (h : ∀ h', Fr h₀ L h' m → News h₀ L h' news' → Q () { s with heap := h', toks := s.toks + 1 }) :
    wpAny (model prog w) A (setAttr (.ref x) "args" (.ref t)) Q E s := by
  obtain ⟨pre, post, rfl, rfl, a, b⟩ := U.split
  exact set_plain (X₀.keeps F.keep) I hx.set (args_setX (s := { s with toks := s.toks + 1 }) F N (X₀.keeps F.keep) hx I ht hi a b fun h' F' N' => h h' F' N')

theorem init_K {dx : Option Addr} {a0 : Value} {rest : List Value} {Q : Value → Shared → Prop} (F : Fr h₀ L s.heap m) (X₀ : K.In h₀) (N : News h₀ L s.heap news) (hx : XCls K C) (hrest : rest.length ≤ 1000)
    (U : ∀ tx, Upd x (xObj C dx (excF a0)) (xObj C dx (excF (.ref tx))) news (news' tx))
    (h : ∀ tx h', Fr h₀ L h' m → News h₀ L h' ((tx, tupObj rest) :: news' tx) → (∀ p ∈ news, p.1 < tx) → Q .none { s with heap := h' }) :
    wpAny (model prog w) A (call (.builtin "Exception.__init__") (.ref x :: rest)) Q E s := by
  have X := X₀.keeps F.keep
  have EF := PySem.F.excBase_Exception
  have Y := makesX_of (M := model prog w) X hx
  have Dx := (N _ (upd_mem (U 0))).1
  have hT : Looks (model prog w) s.heap (isInstance (.ref x) (.type "Exception")) true := ((Looks.ld Dx).andThen .now).andThen Y.exc
  obtain ⟨pre, post, e1, _, a, b⟩ := (U 0).split
  subst e1
  have hlt : ∀ p ∈ pre ++ (x, xObj C dx (excF a0)) :: post, p.1 < s.heap.objs.size := fun p hp => Heap.lt_size (N p hp).1
  have hxlt : x < s.heap.objs.size := Heap.lt_size Dx
  refine wpAny_call (codeAny_call_builtin EF.init.plain EF.initEntry ?_)
  have hshort := EF.noStar
  simp only [checkBuiltinCall, EF.initKind, EF.initSplit, EF.initRow]
  obtain ⟨hh, g, d, tk', os⟩ := s
  dsimp only at F N X h hT Dx hlt hxlt ⊢
  obtain ⟨oc, odd, cd, sl, ho, hc, e2, ed, e3, ne, e5, ex⟩ := hx.parts
  have LC := X _ _ ho
  refine wpAny_bind (hT.at ?_)
  repeat (first | simp only [Bool.false_eq_true, if_false, Bool.not_true] | rw [show ∀ (a b : String) (n : Nat), Bind.check ⟨.positional, "*", "Exception", .self, [⟨"args", .varPos, false⟩]⟩ a b n (List.map (fun x => x.fst) ({ pos := Value.ref x :: rest } : Args).kw) = pure () from fun a b n => check_star_args _ _ _ _ _ _] | lk)
  rw [if_neg (by rw [List.size_toArray, sizeLine_eq]; omega)]
  refine wpAny_bind (wpAny_alloc' (wpAny_pure ?_))
  have F1 := F.push (tupObj rest)
  have N1 : News h₀ L (hh.push (tupObj rest)) (((hh.objs.size, tupObj rest) :: pre) ++ (x, xObj C dx (excF a0)) :: post) := N.push F (tupObj rest)
  refine wpAny_bind (bexcPut0 (s := ⟨hh.push (tupObj rest), g, d, tk', os⟩) F1 N1 (fun p hp => by
      rcases List.mem_cons.mp hp with rfl | hp
      · exact Nat.ne_of_gt hxlt
      · exact a p hp) b fun h' F' N' => ?_)
  refine wpAny_pure (h hh.objs.size h' F' ?_ hlt)
  rw [upd_det (U hh.objs.size) rfl a]
  exact N'

/-- what an attribute of an exception's is read by -/
theorem get_openX {expr : Bool} {Q : Value → Shared → Prop} {r : Found} (X : K.In s.heap) (hx : XCls K C) (I : PySem.W.InstAt s.heap x ox C od) (hf : findObj K C od name = some r)
    (h : wpAny (model prog w) A.in1 (match r with | .value v => ret v | .bind g a => bindTo g a (.ref x) (.ref C) | .missing => unsupported "no")
      (fun fin s' => match fin with | .done (.ret v) => wpAny (model prog w) A (handedOut v) Q E s' | _ => False) (fun _ _ => False) { s with toks := s.toks + 1 }) :
    wpAny (model prog w) A (getAttr (.ref x) name expr) Q E s := by
  have Y := makesX_of (M := model prog w) X hx
  have hT : Looks (model prog w) s.heap (isInstance (.ref x) (.type "BaseException")) true := I.type.andThen Y.bexc
  have L0 := I.type (M := model prog w)
  have L1 := looks_findIn (M := model prog w) X hx.get
  have L2 := looks_findIn (M := model prog w) X hx.hook
  have L3 := looks_find (M := model prog w) X I hf
  have FB := PySem.F.attr_ValueError
  obtain ⟨hh, g, d, tk', os⟩ := s
  dsimp only at X I hT L0 L1 L2 L3 h ⊢
  unfold getAttr getAttrBy
  refine wpAny_bind (wpAny_mkText (wpAny_holding (wpAny_bind (L0.at (wpAny_bind (L1.at ?_))))))
  have hx2 : (Value.builtin "BaseException.__getattribute__" == Value.builtin "object.__getattribute__") = false := by decide +kernel
  dsimp only
  rw [hx2, Bool.and_false, if_neg (by decide)]
  unfold getAttrByItsOwn hookBefore
  refine wpAny_bind (L2.at ?_)
  refine wpAny_bind (wpAny_attempt ?_)
  unfold callGetattribute
  rw [show (expr && onTheHeap (Value.builtin "BaseException.__getattribute__")) = false from by cases expr <;> rfl, if_neg (by decide)]
  unfold boundAndCalled
  rw [FB.ga.bind]
  refine wpAny_holding (wpAny_bind (wpAny_pure (wpAny_call ?_)))
  show codeAny _ _ (.call (.builtin "BaseException.__getattribute__") ⟨[.ref x, .str name tk'], []⟩) _ _
  refine codeAny_call_builtin FB.ga.plain PySem.F.entry_bexc_ga (@check_slot (model prog w) _ _ ⟨hh, g, d, tk' + 1, os⟩ "BaseException.__getattribute__" "BaseException" "__getattribute__" (.ref x) [.str name tk'] [] _ (by decide +kernel) (by decide +kernel) hT (PySem.F.args_bexc_ga (.ref x) (.str name tk')) ?_)
  unfold Builtin.«object.__getattribute__»
  refine wpAny_bind (wpAny_pure (wpAny_bind (wpAny_pure (wpAny_bind (L0.at (wpAny_bind (L3.at ?_)))))))
  cases r with
  | missing => exact (fun Γ p hΓ => (h Γ p hΓ).elim)
  | value v =>
    refine wpAny_mono h (fun fin s' z => ?_) (fun _ _ z => z.elim)
    rcases fin with (_ | _ | _ | _) | _ <;> first | exact z | exact z.elim
  | bind g' a =>
    refine wpAny_mono h (fun fin s' z => ?_) (fun _ _ z => z.elim)
    rcases fin with (_ | _ | _ | _) | _ <;> first | exact z | exact z.elim

theorem get_ownX {expr : Bool} {es : List DictEntry} {n : Nat} {attr : Option Value} {Q : Value → Shared → Prop} (F : Fr h₀ L s.heap m) (X₀ : K.In h₀) (I : PySem.W.InstAt s.heap x ox C (some (dictOf es n))) (hx : XCls K C)
    (ha : findIn K (.ref C) name = some attr) (hn : noGet K attr = true) (hl : getL name es = some (some v)) (hv : handedIn v = true) (h : Q v { s with toks := s.toks + 1 }) :
    wpAny (model prog w) A (getAttr (.ref x) name expr) Q E s := by
  have hh : hasDictIn K C = true := by
    obtain ⟨oc, odd, cd, sl, ho, hc, e2, ed, e3, ne, e5, ex⟩ := hx.parts
    unfold hasDictIn; rw [hc]; exact ed
  refine get_openX (X₀.keeps F.keep) hx I (findObj_own hh ha hn hl) (wpAny_pure ?_)
  show wpAny _ _ (handedOut v) _ _ _
  rw [handedOut_of hv]; exact wpAny_pure h

theorem get_argsX {od' : Obj} {expr : Bool} {dx : Option Addr} {t : Addr} {Q : Value → Shared → Prop} (F : Fr h₀ L s.heap m) (X₀ : K.In h₀) (I : PySem.W.InstAt s.heap x (xObj C dx (excF (.ref t))) C (some od')) (hx : XCls K C)
    (ha : findIn K (.ref C) "args" = some (some (.builtin "BaseException.args"))) (hg : specialIn K (.builtin "BaseException.args") "__get__" = some (some (.builtin "getset_descriptor.__get__"))) (ht : takesIn K (.builtin "BaseException.args") = some true)
    (h : Q (.ref t) { s with toks := s.toks + 1 }) : wpAny (model prog w) A (getAttr (.ref x) "args" expr) Q E s := by
  have X := X₀.keeps F.keep
  have Y := makesX_of (M := model prog w) X hx
  have hT : Looks (model prog w) s.heap (isInstance (.ref x) (.type "BaseException")) true := I.type.andThen Y.bexc
  have hI := I.at_
  refine get_openX X hx I (findObj_data (by obtain ⟨oc, odd, cd, sl, ho, hc, _⟩ := hx.parts; rw [hc]; rfl) ha hg ht) ?_
  dsimp only
  unfold bindTo
  dsimp only
  refine wpAny_bind (wpAny_holding (wpAny_call ?_))
  obtain ⟨hh, g, d, tk', os⟩ := s
  dsimp only at F I X hT h hI ⊢
  have hT5 : (⟨hh, g, d, tk' + 1, os⟩ : Shared).TypeIs (.builtin "BaseException.args") "getset_descriptor" := PySem.F.typeOf_bexc_args
  refine codeAny_call_builtin PySem.F.slot_gs_get.plain PySem.F.entry_gs_get (PySem.F.slot_gs_get.check _ _ _ _ _ _ _ _ hT5 (PySem.F.args_gs_get _ _ _) ?_)
  have hT' : Looks (model prog w) hh (isInstance (.ref x) (.type (".".intercalate ("BaseException.args".cutAt '.').dropLast))) true := by rw [PySem.F.owner_bexc_args]; exact hT
  have eo : descrOwnerAndName "BaseException.args" = ("BaseException", "args") := by
    have e0 : "BaseException.args".cutAt '.' = ["BaseException", "args"] := by first | rfl | decide +kernel
    unfold descrOwnerAndName
    rw [e0]; decide +kernel
  have hT'' : Looks (model prog w) hh (isInstance (.ref x) (.type (descrOwnerAndName "BaseException.args").fst)) true := by rw [eo]; exact hT
  unfold Builtin.«getset_descriptor.__get__» descrGet descrGetter descrCheckInstance descrNameAndClass
  repeat lk
  refine ⟨Code.quiet_builtin _ (by decide +kernel), codeAny_builtin PySem.F.entry_bexc_args ?_⟩
  have hnd : (Value.ref t == doubtfulMember) = false := by first | rfl | decide | simp [doubtfulMember, rawInt]
  unfold Builtin.«BaseException.args»
  refine wpAny_bind (wpAny_field (x := .ref t) hI rfl (by rfl) ?_)
  rw [hnd, if_neg (by decide)]
  exact wpAny_pure (wpAny_pure (wpAny_pure h))
end
end Mine
end
section
open PySem PySem.W PyProof.Rows PySem.Calls PySem.Builtin
set_option maxRecDepth 100000
set_option maxHeartbeats 4000000
namespace Mine
/-- the figures of an int, as Python writes them -/
abbrev itext (n : Int) : PySem.Str := PySem.Str.ofString (toString n)
/-- the same, two signs wide at least -/
def pad2 (n : Int) : PySem.Str := if (itext n).length < 2 then PySem.Str.ofString " " ++ itext n else itext n

def dig (n : Int) : List Nat := (Nat.toDigits 10 n.natAbs).map Char.toNat
def raw2 (n : Int) : List Nat :=
  let sign : List Nat := if decide (n < 0) = true then [45] else []
  let ds := if (dig n).isEmpty = true then [] else List.replicate ((0 : Int).toNat - (dig n).length) 48 ++ dig n
  let pad := ((2 : Int) - ((sign.length : Int) + 0 + 0) - ds.length).toNat
  List.replicate pad 32 ++ sign ++ [] ++ List.replicate 0 32 ++ ds ++ [] ++ List.replicate 0 32

theorem itext_cps (n : Int) : (itext n).cps = ((if n < 0 then [45] else []) ++ dig n).toArray := by
  have hdg : ∀ m : Nat, (Nat.repr m).toList = Nat.toDigits 10 m := fun m => by unfold Nat.repr; rw [String.toList_ofList]
  unfold itext
  rw [PySem.Str.ofString_eq_toList]
  show ((toString n).toList.map Char.toNat).toArray = _
  congr 1
  cases n with
  | ofNat m =>
    rw [if_neg (show ¬ (Int.ofNat m < 0) from Int.not_lt.mpr (Int.natCast_nonneg m))]
    show ((Nat.repr m).toList.map Char.toNat) = _
    rw [hdg]
    rfl
  | negSucc m =>
    rw [if_pos (Int.negSucc_lt_zero m)]
    show (("-" ++ Nat.repr (m + 1)).toList.map Char.toNat) = _
    rw [String.toList_append, hdg]
    rfl
theorem dig_ne (n : Int) : dig n ≠ [] := by
  unfold dig
  intro h
  exact Nat.toDigits_ne_nil (List.map_eq_nil_iff.mp h)
theorem itext_len (n : Int) : (itext n).length = (if n < 0 then 1 else 0) + (dig n).length := by
  show (itext n).cps.size = _
  rw [itext_cps, List.size_toArray, List.length_append]
  split <;> rfl
theorem raw2_eq (n : Int) : (⟨(raw2 n).toArray⟩ : PySem.Str) = pad2 n := by
  have hne := dig_ne n
  have he : (dig n).isEmpty = false := by cases h : dig n with | nil => exact absurd h hne | cons _ _ => rfl
  have hpos : 0 < (dig n).length := List.length_pos_iff.mpr hne
  have e1 : raw2 n = List.replicate (2 - (itext n).length) 32 ++ ((if n < 0 then [45] else []) ++ dig n) := by
    rw [itext_len]
    unfold raw2
    simp only [he, Bool.false_eq_true, if_false, decide_eq_true_eq, Int.toNat_zero, Nat.zero_sub, List.replicate_zero, List.nil_append, List.append_nil, List.append_assoc]
    split
    · congr 2
      simp only [List.length_cons, List.length_nil]
      omega
    · congr 2
      simp only [List.length_nil]
      omega
  rw [e1]
  unfold pad2
  have hc := itext_cps n
  have hcp : (itext n) = ⟨((if n < 0 then [45] else []) ++ dig n).toArray⟩ := by
    cases h : itext n; rw [h] at hc; exact congrArg PySem.Str.mk hc
  have hl1 : 1 ≤ (itext n).length := by rw [itext_len]; omega
  by_cases hlt : (itext n).length < 2
  · have h2 : 2 - (itext n).length = 1 := by omega
    rw [if_pos hlt, h2]
    apply PySem.Str.ext'
    rw [PySem.Str.cps_append, hc, show (PySem.Str.ofString " ").cps = #[32] from by decide +kernel]
    simp
  · have h2 : 2 - (itext n).length = 0 := by omega
    rw [if_neg hlt, h2]
    apply PySem.Str.ext'
    rw [hc]
    rfl

theorem mk_is {M : Model} {A : Around} {E : Value → Shared → Prop} {s : Shared} {X T : PySem.Str} {Q : Value → Shared → Prop} (e : X = T) (hl : T.length ≤ sizeLine) (hq : Q (.str T s.toks) { s with toks := s.toks + 1 }) :
    wpAny M A (if X.length > sizeLine then Sem.unsupported "str:memory" else (do let k ← fresh; pure (Value.str X k))) Q E s := by
  subst e
  exact wpAny_mkStr hq hl

theorem fmt2d {M : Model} {A : Around} {E : Value → Shared → Prop} {h : Heap} {g : Array GenState} {d : Drawn} {tk : Nat} {os : OsState} {n : Int} {u t : Tok} {Q : PySem.Fin → Shared → Prop} (hd : n.natAbs.log2 < 1920) (hl : (pad2 n).length ≤ sizeLine)
   (hq : ∀ t' k, Q (.done (.ret (.str (pad2 n) t'))) ⟨h, g, d, k, os⟩) :
   wpAny M A (Builtin.«int.__format__» ⟨[.int n u, .str (PySem.Str.ofString "2d") t], []⟩) Q E ⟨h, g, d, tk, os⟩ := by
  unfold Builtin.«int.__format__»
  repeat lk
  rw [if_pos hd]
  repeat lk
  refine mk_is (T := pad2 n) ?_ hl ?_
  · rw [← raw2_eq]
    with_unfolding_all rfl
  · exact wpAny_pure (hq _ _)
end Mine
end
section
open PySem PySem.W PyProof.Rows PySem.Calls PySem.Builtin
set_option maxRecDepth 100000
set_option maxHeartbeats 4000000
namespace Mine
theorem itext_short {n : Int} (h1 : -(10 ^ 12) < n) (h2 : n < 10 ^ 12) : n.natAbs.log2 < 1920 := by
  have h3 : n.natAbs < 2 ^ 1920 := Nat.lt_of_lt_of_le (show n.natAbs < 10 ^ 12 by omega) (by decide +kernel)
  by_cases h0 : n.natAbs = 0
  · rw [h0]; decide
  · exact (Nat.log2_lt h0).mpr h3
theorem pad2_len {n : Int} (h1 : -(10 ^ 12) < n) (h2 : n < 10 ^ 12) : (pad2 n).length ≤ 20 := by
  have hd : (dig n).length ≤ 13 := by
    unfold dig
    rw [List.length_map]
    exact (Nat.length_toDigits_le_iff (by decide) (by decide)).mpr (by omega)
  have hl := itext_len n
  have : (itext n).length ≤ 14 := by split at hl <;> omega
  unfold pad2
  split
  · rw [PySem.Str.length_append, show (PySem.Str.ofString " ").length = 1 from by decide +kernel]; omega
  · omega
theorem itext_len_le {n : Int} (h1 : -(10 ^ 12) < n) (h2 : n < 10 ^ 12) : (itext n).length ≤ 14 := by
  have hd : (dig n).length ≤ 13 := by
    unfold dig
    rw [List.length_map]
    exact (Nat.length_toDigits_le_iff (by decide) (by decide)).mpr (by omega)
  have hl := itext_len n
  split at hl <;> omega
section
variable {prog : Program} {w : World} {A : Around} {E : Value → Shared → Prop} {s : Shared} {n : Int} {u t : Tok} {Q : Value → Shared → Prop}
theorem formatOf_2d (h1 : -(10 ^ 12) < n) (h2 : n < 10 ^ 12) (h : ∀ t' k, Q (.str (pad2 n) t') { s with toks := k }) : wpAny (model prog w) A (PySem.Builtin.Str.formatOf (.int n u) (PySem.Str.ofString "2d")) Q E s := by
  have hl : (pad2 n).length ≤ sizeLine := Nat.le_trans (pad2_len h1 h2) (by rw [sizeLine_eq]; decide)
  unfold PySem.Builtin.Str.formatOf
  refine wpAny_ite (KPc.ite_no (by rw [show ((PySem.Str.ofString "2d").length == 0) = false from by decide +kernel]; exact Bool.false_ne_true) ?_)
  refine wpAny_bind (wpAny_mkStr ?_ (by rw [sizeLine_eq]; decide +kernel))
  refine wpAny_bind (m := callSpecial? (.int n u) (PySem.Str.ofString "__format__") [.str (PySem.Str.ofString "2d") s.toks]) (wpAny_callSpecial?_slot (name := PySem.Str.ofString "__format__") (typeIs_int _ n u) PySem.F.slot_int_format
    (wpAny_call (codeAny_call_builtin PySem.F.slot_int_format.plain PySem.F.entry_int_format (PySem.F.slot_int_format.check _ _ _ _ _ _ _ _ (typeIs_int _ n u) (PySem.F.args_int_format_2 _ _) ?_))))
  obtain ⟨hh, g, d, tk, os⟩ := s
  refine fmt2d (itext_short h1 h2) hl fun t' k => ?_
  refine wpAny_bind (wpAny_of_eq (a := some (pad2 n)) rfl ?_)
  refine wpAny_ite (KPc.ite_no Bool.false_ne_true ?_)
  exact wpAny_pure (h t' k)
theorem line_2d (h1 : -(10 ^ 12) < n) (h2 : n < 10 ^ 12) (h : ∀ t' k, Q (.str (PySem.Str.ofString " [line " ++ pad2 n ++ PySem.Str.ofString "]") t') { s with toks := k }) :
    wpAny (model prog w) A (call (.builtin "str.format") [.str (PySem.Str.ofString " [line {0:2d}]") t, .int n u]) Q E s := by
  refine KFm.call_k (X' := ⟨#[32, 91, 108, 105, 110, 101, 32, 123, 48, 58, 50, 100, 125, 93]⟩) (by decide +kernel) (KFm.args_2 _ _) (KPc.meets_of ?_) h
  intro prog w A s Q E hq
  unfold Builtin.«str.format»
  refine wpAny_bind (wpAny_of_eq (a := (_, _, _)) rfl ?_)
  refine wpAny_bind ?_
  unfold Builtin.Str.buildString
  refine wpAny_bind ?_
  rw [KPc.range_list]
  refine KFm.start ?_
  intro _ _
  refine KPc.turn ?_
  kpc_if
  kpc_check
  refine wpAny_bind (wpAny_of_eq (a := (Value.int n u, PySem.Builtin.Str.Numbering.manual)) (by with_unfolding_all rfl) ?_)
  refine wpAny_bind (wpAny_holding (wpAny_of_eq (a := _) rfl ?_))
  kpc_if
  refine wpAny_bind (wpAny_pure ?_)
  refine wpAny_bind (wpAny_holding (formatOf_2d h1 h2 ?_))
  intro t' k
  refine wpAny_bind (wpAny_of_eq (a := some _) rfl ?_)
  refine wpAny_pure ?_
  refine KFm.after_field (by kpc_g) (by kpc_text) (by kpc_obj) (pad2_len h1 h2) (by kpc_obj) (by kfm_cat2) (by kfm_rest) ?_
  intro _ _
  kfm_turns
end
end Mine
end
section
open PySem PySem.W PyProof.Rows PySem.Calls PySem.Builtin
set_option maxRecDepth 100000
set_option maxHeartbeats 4000000
namespace Mine
section
variable {prog : Program} {w : World} {A : Around} {E : Value → Shared → Prop} {s : Shared} {Q : Value → Shared → Prop}
end
end Mine
end
section
open PySem PySem.W PyProof.Rows PySem.Calls PySem.Builtin PySem.Builtin.Str
set_option maxRecDepth 100000
set_option maxHeartbeats 4000000
namespace Mine
section
variable {M : Model} {A : Around} {E : Value → Shared → Prop} {s : Shared} {l : List Nat} {p : List Value} {r : List Nat}
  {f : Nat → List Value × Writer × List Nat → Sem (ForInStep (List Value × Writer × List Nat))} {Q : List Value × Writer × List Nat → Shared → Prop}
  {w : Writer} {T x y : PySem.Str} {N K : Nat} {o : Option Value}
end
section
variable {prog : Program} {w : World} {A : Around} {E : Value → Shared → Prop} {s : Shared} {Q : Value → Shared → Prop}
end
end Mine
end
section
open PySem PySem.W PyProof.Rows PySem.Calls PySem.Builtin
set_option maxRecDepth 100000
set_option maxHeartbeats 4000000
namespace Mine
def catS : List PySem.Str → PySem.Str
  | [] => PySem.Str.ofString ""
  | [a] => a
  | a :: b :: r => a ++ catS (b :: r)
theorem join_catS : ∀ ys : List PySem.Str, PySem.Str.join (PySem.Str.ofString "") ys = catS ys
  | [] => by rfl
  | [a] => rfl
  | a :: b :: r => by
    have ih := join_catS (b :: r)
    show a ++ PySem.Str.ofString "" ++ PySem.Str.join (PySem.Str.ofString "") (b :: r) = a ++ catS (b :: r)
    rw [ih, KFm.cat_t]
theorem glue_cat (ys : List PySem.Str) : PySem.Txt.join (PySem.Str.ofString "") ys = catS ys := (StrLaws.glued_eq_join _ ys).trans (join_catS ys)
theorem sum_le (B : Nat) : ∀ ys : List PySem.Str, (∀ y ∈ ys, y.length ≤ B) → (ys.map (·.length)).sum ≤ ys.length * B
  | [], _ => Nat.zero_le _
  | a :: r, h => by
    have := sum_le B r fun y hy => h y (.tail _ hy)
    have h1 := h a (.head _)
    rw [List.map_cons, List.sum_cons, List.length_cons, Nat.succ_mul]
    omega
theorem line_len {n : Int} (h1 : -(10 ^ 12) < n) (h2 : n < 10 ^ 12) : (PySem.Str.ofString " [line " ++ pad2 n ++ PySem.Str.ofString "]").length ≤ 5000 := by
  have := pad2_len h1 h2
  rw [PySem.Str.length_append, PySem.Str.length_append, show (PySem.Str.ofString " [line ").length = 7 from by decide +kernel, show (PySem.Str.ofString "]").length = 1 from by decide +kernel]
  omega
section
variable {prog : Program} {w : World} {A : Around} {E : Value → Shared → Prop} {s : Shared} {Q : Value → Shared → Prop}
theorem join_cat {D L : Addr} {h₀ : Heap} {us : List Value} {n : Nat} {ys : List PySem.Str} {t : Tok} {news : List (Addr × Obj)} (N : News h₀ L s.heap news) (hm : (D, W.listOf us.toArray n) ∈ news) (hi : StrsAre us ys) (hB : ∀ y ∈ ys, y.length ≤ 5000) (hn : ys.length ≤ 1000)
    (h : ∀ t' k, Q (.str (catS ys) t') { s with toks := k }) : wpAny (model prog w) A (call (.builtin "str.join") [.str (PySem.Str.ofString "") t, .ref D]) Q E s := by
  have hl : s.heap.IsList D us.toArray := ⟨_, (N _ hm).1, rfl, n, rfl⟩
  refine join_listC hl hi (by decide +kernel) ?_ (by rw [glue_cat]; exact h)
  have := sum_le 5000 ys hB
  omega
end
end Mine
end
section
open PySem PySem.W PyProof.Rows PySem.Calls PySem.Builtin PySem.Builtin.ObjectAttr PySem.Builtin.Getset_descriptor
set_option maxRecDepth 100000
set_option maxHeartbeats 4000000
namespace Mine
section
variable {prog : Program} {w : World} {A A₀ : Around} {K : Frag} {C x L : Addr} {s : Shared} {h₀ base : Heap} {m mg mb : PySem.Str → Option Value} {news : List (Addr × Obj)} {R : Result → Shared → Prop} {p : Program} {loose : List PySem.Str} {mean : ExcName → Option Value}

theorem code_defG {env : Env} {outer : List Env} {name qual : PySem.Str} {params : Arguments} {body : List Stmt} {scope : Scope} {dV kV doc pm cdv ct oc : Value} {an od : Option Addr} {osl : Array (Option Value)} {f : Addr} {args : Args} {binds : List (PySem.Str × Value)}
    (B : Below A₀ base outer h₀) (F : Fr h₀ L s.heap m) (X₀ : K.In h₀) (N : News h₀ L s.heap news) (T : Top p loose mean mg mb h₀) (hA : A.frames = some (env :: outer)) (hf : env.frame = some L) (hke : env.scope.kind = .function)
    (ho : K.lookup f = some ⟨oc, od, .func (fnOf name qual params body scope dV kV doc pm an cdv ct), osl⟩) (hcd : codeIn K cdv qual = true) (hroom : A.depth < recursionLimit)
    (hbind : BindsTo s (fnOf name qual params body scope dV kV doc pm an cdv ct) args binds) (hloc : ∀ y ∈ binds, scope.names.lookup y.1 = some .local)
    (h : ∀ g L' h₁ tk', (∀ b o, s.heap.get? b = some o → b ∉ news.map (·.1) → g.get? b = some o) → Fr h₀ L g m → Fr g L' h₁ (fun y => binds.reverse.lookup y) → News g L' h₁ news → Below A base (env :: outer) g → K.In g → Top p loose mean mg mb g → (∀ p ∈ news, p.1 < L') →
      wpAny (model prog w) (A.deeper (envOf qual scope L' f cdv)) (execs body (envOf qual scope L' f cdv))
        (fun fl s' => LeaveK h₀ L m g R (match fl with | .ret v => v | _ => .none) s')
        (fun e s' => wpAny (model prog w) (A.deeper (envOf qual scope L' f cdv)) (leaving (envOf qual scope L' f cdv) e) (fun _ s'' => R (.error e) s'') (fun e' s'' => R (.error e') s'') s')
        { s with heap := h₁, toks := tk' })
    (hco : scope.isCoroutine = false) (hgen : scope.isGenerator = false) (hk : scope.kind = .function)
    (hcell : ∀ x ∈ scope.names, x.2 ≠ .cell) : codeAny (model prog w) A (.call (.ref f) args) R s := by
  obtain ⟨FG, BG, st, lv⟩ := groundX (R := R) B F N hA hf hke
  refine codeAny_call_def (fd := fnOf name qual params body scope dV kV doc pm an cdv ct) (body := body) (binds := binds) hroom ((X₀.keeps F.keep) _ _ ho) rfl (T.nolimit.keeps F.keep) (codeRec_of (X₀.keeps F.keep) hcd) rfl hbind hcell hloc (fun h₁ hns hk₁ => ?_) hco hgen hk
  exact wpAny_mono (h _ s.heap.objs.size h₁ _ (fun b o e hb => hideAll_get _ e hb) FG ⟨hns, fun b o e => hk₁ b o (of_hideAll _ e), Nat.le_of_eq (hideAll_size _ _)⟩
    (fun p hp => ⟨hk₁ _ _ (N p hp).1, Nat.ne_of_lt (Heap.lt_size (N p hp).1), hideAll_none _ (List.mem_map_of_mem hp)⟩) BG (X₀.keeps st) (T.keeps st) (fun p hp => Heap.lt_size (N p hp).1)) (fun fl s' hl => lv _ _ hl) fun _ _ y => y

/-- a class of exceptions is called; the caller's ledger is not spoken of -/
theorem call_X0 {E : Value → Shared → Prop} {Q : Value → Shared → Prop} {pos : List Value} {kw : List (PySem.Str × Value)} {fI : Addr} (F : Fr h₀ L s.heap m) (X₀ : K.In h₀) (hm : XCls K C) (hi : findIn K (.ref C) "__init__" = some (some (.ref fI))) (hf : isFn K (.ref fI) = true)
    (hrest : pos.length ≤ 1000)
    (h : ∀ x tx h', (∀ b o, s.heap.get? b = some o → h'.get? b = some o ∧ b < tx) → Fr h₀ L h' m → News h₀ L h' [(x, excObj C tx none), (tx, tupObj pos)] → tx < x →
      codeAny (model prog w) (A.under (.builtin "type.__call__" ⟨.ref C :: pos, kw⟩)) (.call (.ref fI) ⟨.ref x :: pos, kw⟩) (InitBack x fun r s' => match r with | .ok (.ret v) => Q v s' | .ok _ => False | .error e => E e s') { s with heap := h' }) :
    wpAny (model prog w) A (call (.ref C) pos kw) Q E s := by
  refine wpAny_call ?_
  have X := X₀.keeps F.keep
  obtain ⟨hh, g, d, t, os⟩ := s
  dsimp only at F X h
  refine make_X_core (makesX_of X hm) (Nat.le_trans hrest (by rw [sizeLine_eq]; decide)) (looks_findIn X hi) (fun self => bind_fn X self (beq_iff_eq.mp hf)) (h _ hh.objs.size _ (fun b o e => ⟨Heap.get?_push_of_some _ (Heap.get?_push_of_some _ e), Heap.lt_size e⟩) ((F.push _).push _) ?_ (Nat.lt_succ_self _))
  have := ((News.nil (h₀ := h₀) (h := hh) (L := L)).push F (tupObj pos)).push (F.push _) (excObj C hh.objs.size none)
  rwa [Heap.size_push] at this
end
theorem instX {h₀ h : Heap} {L x C dx : Addr} {news : List (Addr × Obj)} {od : Obj} {vs : Array Value} (N : News h₀ L h news) (h1 : (x, xObj C (some dx) vs) ∈ news) (h2 : (dx, od) ∈ news) :
    PySem.W.InstAt h x (xObj C (some dx) vs) C (some od) := ⟨(N _ h1).1, rfl, rfl, (N _ h2).1⟩
theorem news_lift {h₀ h h' : Heap} {L : Addr} {news made : List (Addr × Obj)} (N : News h₀ L h news) (Nm : News h₀ L h' made) (hk : ∀ b o, h.get? b = some o → h'.get? b = some o) : News h₀ L h' (made ++ news) := fun p hp =>
  (List.mem_append.mp hp).elim (Nm p) fun q => ⟨hk _ _ (N p q).1, (N p q).2⟩
/-- what an exception's __init__ leaves of the elder objects -/
theorem keep_X {h h' g h'' : Heap} {x tx L' C : Addr} {os : List Value} {m' : PySem.Str → Option Value} (hk : ∀ b o, h.get? b = some o → h'.get? b = some o ∧ b < tx) (l : tx < x)
    (hg : ∀ b o, h'.get? b = some o → b ∉ ([(x, excObj C tx none), (tx, tupObj os)] : List (Addr × Obj)).map (·.1) → g.get? b = some o) (F : Fr g L' h'' m') : ∀ b o, h.get? b = some o → h''.get? b = some o ∧ b < tx := fun b o e =>
  ⟨F.keep b o (hg b o (hk b o e).1 fun hm => by
    have lt := (hk b o e).2
    simp only [List.map_cons, List.map_nil, List.mem_cons, List.not_mem_nil, or_false] at hm
    rcases hm with rfl | rfl
    · exact absurd (Nat.lt_trans lt l) (Nat.lt_irrefl _)
    · exact absurd lt (Nat.lt_irrefl _)), (hk b o e).2⟩
/-- what repr gives of a value: the objects that stand stay, the ledger too -/
structure ReprAs (prog : Program) (w : World) (hB : Heap) (v : Value) (r : PySem.Str) : Prop where
  run : ∀ {A : Around} {E : Value → Shared → Prop} {s : Shared} {Q : Value → Shared → Prop} {h₀ : Heap} {L : Addr} {m : PySem.Str → Option Value} {news : List (Addr × Obj)}, Fr h₀ L s.heap m → News h₀ L s.heap news →
    (∀ b o, hB.get? b = some o → s.heap.get? b = some o) → A.units + 40 < cLine → A.guards = some [] →
    (∀ t' k h', Fr h₀ L h' m → News h₀ L h' news → Q (.str r t') { s with heap := h', toks := k }) → wpAny (model prog w) A (call (.builtin "repr") [v]) Q E s
  len : r.length ≤ 4000
theorem reprAs_str {prog : Program} {w : World} {hB : Heap} {x : PySem.Str} {t : Tok} (hx : (reprText x).length ≤ 4000) : ReprAs prog w hB (.str x t) (reprText x) :=
  ⟨fun {A E s Q h₀ L m news} F N _ _ _ h => P.repr_of_str (h _ _ s.heap F N) (Nat.le_trans hx (by rw [sizeLine_eq]; decide)), hx⟩
theorem reprAs_int {prog : Program} {w : World} {hB : Heap} {n : Int} {t : Tok} (h1 : -(10 ^ 12) < n) (h2 : n < 10 ^ 12) : ReprAs prog w hB (.int n t) (itext n) :=
  ⟨fun {A E s Q h₀ L m news} F N _ _ _ h => P.repr_of_int (itext_short h1 h2) (h _ _ s.heap F N), Nat.le_trans (itext_len_le h1 h2) (by decide)⟩
theorem isNot_none' {M : Model} {A : Around} {E : Value → Shared → Prop} {s : Shared} {v : Value} {Q : Value → Shared → Prop} (hv : (v == Value.none) = false) (h : Q (.bool true) s) : wpAny M A (compareOp .IsNot v .none) Q E s :=
  isNot_none (by rw [hv]; exact h)
theorem le5 {x : PySem.Str} (h : x.length ≤ 4000) : x.length ≤ 5000 := Nat.le_trans h (by decide)
/-- the words of a section (or an option) that is there already -/
def againMsg (up low : PySem.Str) (what : List PySem.Str) (rs : Option PySem.Str) (ln : Option Int) : PySem.Str := match rs with
  | none => catS (up :: what)
  | some r => catS (PySem.Str.ofString "While reading from " :: r :: (match ln with | some n => [PySem.Str.ofString " [line " ++ pad2 n ++ PySem.Str.ofString "]"] | none => []) ++ low :: what)
theorem news3 {h₀ h : Heap} {L : Addr} {news : List (Addr × Obj)} {p q r : Addr × Obj} (N : News h₀ L h news) (h1 : p ∈ news) (h2 : q ∈ news) (h3 : r ∈ news) : News h₀ L h [p, q, r] := fun x hx => by
  simp only [List.mem_cons, List.not_mem_nil, or_false] at hx
  rcases hx with rfl | rfl | rfl
  · exact N _ h1
  · exact N _ h2
  · exact N _ h3
inductive LinIs : Value → Option Int → Prop
  | none : LinIs .none none
  | int (n : Int) (t : Tok) : -(10 ^ 12) < n → n < 10 ^ 12 → LinIs (.int n t) (some n)
end Mine
end
section
open PySem PySem.W PyProof.Rows PySem.Calls PySem.Builtin PySem.Builtin.ObjectAttr PySem.Builtin.Getset_descriptor
set_option maxRecDepth 100000
set_option maxHeartbeats 4000000
namespace Mine
section
variable {prog : Program} {w : World} {A : Around} {E : Value → Shared → Prop} {s : Shared} {K : Frag} {x C D : Addr} {ox : Obj} {od : Option Obj} {name : PySem.Str}
end
section
variable {prog : Program} {w : World} {A : Around} {E : Value → Shared → Prop} {s : Shared} {K : Frag} {x C D : Addr} {ox : Obj} {od : Obj}
variable (hx : XCls K D) (ha : findIn K (.ref D) "__class__" = some (some (.builtin "object.__class__")))
  (hn : specialIn K (.builtin "object.__class__") "__get__" = some (some (.builtin "getset_descriptor.__get__"))) (htk : takesIn K (.builtin "object.__class__") = some true) (hm : mroIn K D (.type "object") = some true)
include hx ha hn htk hm
end
section
variable {prog : Program} {w : World} {A : Around} {E : Value → Shared → Prop} {s : Shared} {K : Frag} {x C D f L : Addr} {ox : Obj} {od : Obj} {odo : Option Obj} {h₀ : Heap} {m : PySem.Str → Option Value} {Q : Value → Shared → Prop}
theorem str_F (F : Fr h₀ L s.heap m) (X₀ : K.In h₀) (I : PySem.W.InstAt s.heap x ox C odo) (hu : A.in1.in1.units < cLine) (hs : findIn K (.ref C) "__str__" = some (some (.ref f))) (hf : isFn K (.ref f) = true)
    (h : wpAny (model prog w) A.in1.in1 (call (.ref f) [.ref x]) (StrBack Q) E s) : wpAny (model prog w) A (call (.type "str") [.ref x]) Q E s :=
  kso_call hu (X₀.keeps F.keep) I hs hf h
end
theorem ite_no {c : Prop} [Decidable c] {P Q : Prop} (h : ¬ c) (q : Q) : if c then P else Q := by rw [if_neg h]; exact q
theorem bne_self (x : PySem.Str) : ¬ ((x != x) = true) := by simp
end Mine
end
section
open PySem PySem.W PyProof.Rows PySem.Calls PySem.Builtin
namespace Mine
theorem ite_ff {P Q : Prop} (q : Q) : if false = true then P else Q := by rw [if_neg (by decide)]; exact q
theorem ite_tt {P Q : Prop} (q : P) : if true = true then P else Q := by rw [if_pos rfl]; exact q
end Mine
end
section
open PySem PySem.W PyProof.Rows PySem.Calls PySem.Builtin
namespace Mine
theorem ne_l1 {a b : Nat} {Q : Prop} (h : a < b ∧ Q) : a ≠ b := Nat.ne_of_lt h.1
theorem ne_l1' {a b : Nat} (h : a < b) : a ≠ b := Nat.ne_of_lt h
theorem ne_r1 {a b : Nat} {Q : Prop} (h : b < a ∧ Q) : a ≠ b := Nat.ne_of_gt h.1
theorem ne_r1' {a b : Nat} (h : b < a) : a ≠ b := Nat.ne_of_gt h
theorem ne_l2 {a b : Nat} {P1 : Prop} {Q : Prop} (h : P1 ∧ a < b ∧ Q) : a ≠ b := Nat.ne_of_lt h.2.1
theorem ne_l2' {a b : Nat} {P1 : Prop} (h : P1 ∧ a < b) : a ≠ b := Nat.ne_of_lt h.2
theorem ne_r2 {a b : Nat} {P1 : Prop} {Q : Prop} (h : P1 ∧ b < a ∧ Q) : a ≠ b := Nat.ne_of_gt h.2.1
theorem ne_r2' {a b : Nat} {P1 : Prop} (h : P1 ∧ b < a) : a ≠ b := Nat.ne_of_gt h.2
theorem ne_l3 {a b : Nat} {P1 P2 : Prop} {Q : Prop} (h : P1 ∧ P2 ∧ a < b ∧ Q) : a ≠ b := Nat.ne_of_lt h.2.2.1
theorem ne_l3' {a b : Nat} {P1 P2 : Prop} (h : P1 ∧ P2 ∧ a < b) : a ≠ b := Nat.ne_of_lt h.2.2
theorem ne_r3 {a b : Nat} {P1 P2 : Prop} {Q : Prop} (h : P1 ∧ P2 ∧ b < a ∧ Q) : a ≠ b := Nat.ne_of_gt h.2.2.1
theorem ne_r3' {a b : Nat} {P1 P2 : Prop} (h : P1 ∧ P2 ∧ b < a) : a ≠ b := Nat.ne_of_gt h.2.2
theorem ne_l4 {a b : Nat} {P1 P2 P3 : Prop} {Q : Prop} (h : P1 ∧ P2 ∧ P3 ∧ a < b ∧ Q) : a ≠ b := Nat.ne_of_lt h.2.2.2.1
theorem ne_l4' {a b : Nat} {P1 P2 P3 : Prop} (h : P1 ∧ P2 ∧ P3 ∧ a < b) : a ≠ b := Nat.ne_of_lt h.2.2.2
theorem ne_r4 {a b : Nat} {P1 P2 P3 : Prop} {Q : Prop} (h : P1 ∧ P2 ∧ P3 ∧ b < a ∧ Q) : a ≠ b := Nat.ne_of_gt h.2.2.2.1
theorem ne_r4' {a b : Nat} {P1 P2 P3 : Prop} (h : P1 ∧ P2 ∧ P3 ∧ b < a) : a ≠ b := Nat.ne_of_gt h.2.2.2
theorem ne_l5 {a b : Nat} {P1 P2 P3 P4 : Prop} {Q : Prop} (h : P1 ∧ P2 ∧ P3 ∧ P4 ∧ a < b ∧ Q) : a ≠ b := Nat.ne_of_lt h.2.2.2.2.1
theorem ne_l5' {a b : Nat} {P1 P2 P3 P4 : Prop} (h : P1 ∧ P2 ∧ P3 ∧ P4 ∧ a < b) : a ≠ b := Nat.ne_of_lt h.2.2.2.2
theorem ne_r5 {a b : Nat} {P1 P2 P3 P4 : Prop} {Q : Prop} (h : P1 ∧ P2 ∧ P3 ∧ P4 ∧ b < a ∧ Q) : a ≠ b := Nat.ne_of_gt h.2.2.2.2.1
theorem ne_r5' {a b : Nat} {P1 P2 P3 P4 : Prop} (h : P1 ∧ P2 ∧ P3 ∧ P4 ∧ b < a) : a ≠ b := Nat.ne_of_gt h.2.2.2.2
theorem ne_l6 {a b : Nat} {P1 P2 P3 P4 P5 : Prop} {Q : Prop} (h : P1 ∧ P2 ∧ P3 ∧ P4 ∧ P5 ∧ a < b ∧ Q) : a ≠ b := Nat.ne_of_lt h.2.2.2.2.2.1
theorem ne_l6' {a b : Nat} {P1 P2 P3 P4 P5 : Prop} (h : P1 ∧ P2 ∧ P3 ∧ P4 ∧ P5 ∧ a < b) : a ≠ b := Nat.ne_of_lt h.2.2.2.2.2
theorem ne_r6 {a b : Nat} {P1 P2 P3 P4 P5 : Prop} {Q : Prop} (h : P1 ∧ P2 ∧ P3 ∧ P4 ∧ P5 ∧ b < a ∧ Q) : a ≠ b := Nat.ne_of_gt h.2.2.2.2.2.1
theorem ne_r6' {a b : Nat} {P1 P2 P3 P4 P5 : Prop} (h : P1 ∧ P2 ∧ P3 ∧ P4 ∧ P5 ∧ b < a) : a ≠ b := Nat.ne_of_gt h.2.2.2.2.2
theorem ne_l7 {a b : Nat} {P1 P2 P3 P4 P5 P6 : Prop} {Q : Prop} (h : P1 ∧ P2 ∧ P3 ∧ P4 ∧ P5 ∧ P6 ∧ a < b ∧ Q) : a ≠ b := Nat.ne_of_lt h.2.2.2.2.2.2.1
theorem ne_l7' {a b : Nat} {P1 P2 P3 P4 P5 P6 : Prop} (h : P1 ∧ P2 ∧ P3 ∧ P4 ∧ P5 ∧ P6 ∧ a < b) : a ≠ b := Nat.ne_of_lt h.2.2.2.2.2.2
theorem ne_r7 {a b : Nat} {P1 P2 P3 P4 P5 P6 : Prop} {Q : Prop} (h : P1 ∧ P2 ∧ P3 ∧ P4 ∧ P5 ∧ P6 ∧ b < a ∧ Q) : a ≠ b := Nat.ne_of_gt h.2.2.2.2.2.2.1
theorem ne_r7' {a b : Nat} {P1 P2 P3 P4 P5 P6 : Prop} (h : P1 ∧ P2 ∧ P3 ∧ P4 ∧ P5 ∧ P6 ∧ b < a) : a ≠ b := Nat.ne_of_gt h.2.2.2.2.2.2
theorem ne_l8 {a b : Nat} {P1 P2 P3 P4 P5 P6 P7 : Prop} {Q : Prop} (h : P1 ∧ P2 ∧ P3 ∧ P4 ∧ P5 ∧ P6 ∧ P7 ∧ a < b ∧ Q) : a ≠ b := Nat.ne_of_lt h.2.2.2.2.2.2.2.1
theorem ne_l8' {a b : Nat} {P1 P2 P3 P4 P5 P6 P7 : Prop} (h : P1 ∧ P2 ∧ P3 ∧ P4 ∧ P5 ∧ P6 ∧ P7 ∧ a < b) : a ≠ b := Nat.ne_of_lt h.2.2.2.2.2.2.2
theorem ne_r8 {a b : Nat} {P1 P2 P3 P4 P5 P6 P7 : Prop} {Q : Prop} (h : P1 ∧ P2 ∧ P3 ∧ P4 ∧ P5 ∧ P6 ∧ P7 ∧ b < a ∧ Q) : a ≠ b := Nat.ne_of_gt h.2.2.2.2.2.2.2.1
theorem ne_r8' {a b : Nat} {P1 P2 P3 P4 P5 P6 P7 : Prop} (h : P1 ∧ P2 ∧ P3 ∧ P4 ∧ P5 ∧ P6 ∧ P7 ∧ b < a) : a ≠ b := Nat.ne_of_gt h.2.2.2.2.2.2.2
theorem ne_l9 {a b : Nat} {P1 P2 P3 P4 P5 P6 P7 P8 : Prop} {Q : Prop} (h : P1 ∧ P2 ∧ P3 ∧ P4 ∧ P5 ∧ P6 ∧ P7 ∧ P8 ∧ a < b ∧ Q) : a ≠ b := Nat.ne_of_lt h.2.2.2.2.2.2.2.2.1
theorem ne_l9' {a b : Nat} {P1 P2 P3 P4 P5 P6 P7 P8 : Prop} (h : P1 ∧ P2 ∧ P3 ∧ P4 ∧ P5 ∧ P6 ∧ P7 ∧ P8 ∧ a < b) : a ≠ b := Nat.ne_of_lt h.2.2.2.2.2.2.2.2
theorem ne_r9 {a b : Nat} {P1 P2 P3 P4 P5 P6 P7 P8 : Prop} {Q : Prop} (h : P1 ∧ P2 ∧ P3 ∧ P4 ∧ P5 ∧ P6 ∧ P7 ∧ P8 ∧ b < a ∧ Q) : a ≠ b := Nat.ne_of_gt h.2.2.2.2.2.2.2.2.1
theorem ne_r9' {a b : Nat} {P1 P2 P3 P4 P5 P6 P7 P8 : Prop} (h : P1 ∧ P2 ∧ P3 ∧ P4 ∧ P5 ∧ P6 ∧ P7 ∧ P8 ∧ b < a) : a ≠ b := Nat.ne_of_gt h.2.2.2.2.2.2.2.2
end Mine
end
local macro_rules | `(tactic| k_ne) => `(tactic| k_extra "ne")
section
open PySem PySem.W PyProof.Rows PySem.Calls PySem.Builtin
set_option maxRecDepth 100000
set_option maxHeartbeats 4000000
namespace Mine
theorem units_under_kw (A : Around) (C : Addr) (vals : List Value) (kw : List (PySem.Str × Value)) : (A.under (.builtin "type.__call__" ⟨.ref C :: vals, kw⟩)).units = A.units + 1 := rfl
end Mine
namespace Mine
end Mine
namespace Mine
end Mine
end
section
open PySem PySem.W PyProof.Rows PySem.Calls PySem.Builtin
set_option maxRecDepth 100000
set_option maxHeartbeats 4000000
namespace Mine
theorem str_eq {x y : PySem.Str} (h : x.cps.toList = y.cps.toList) : x = y := PySem.Str.ext' (Array.ext' h)
theorem cps_app (x y : PySem.Str) : (x ++ y).cps.toList = x.cps.toList ++ y.cps.toList := by rw [PySem.Str.cps_append, Array.toList_append]
section
variable {W O M C : PySem.Str}
end
theorem keep_0 {h g h' : Heap} {L' : Addr} {m' : PySem.Str → Option Value} (hg : ∀ b o, h.get? b = some o → b ∉ ([] : List (Addr × Obj)).map (·.1) → g.get? b = some o) (F : Fr g L' h' m') : ∀ b o, h.get? b = some o → h'.get? b = some o :=
  fun b o e => F.keep b o (hg b o e (by simp))
theorem keep_N {h₀ h g h' : Heap} {L L' : Addr} {m' : PySem.Str → Option Value} {news news' : List (Addr × Obj)} (hg : ∀ b o, h.get? b = some o → b ∉ news.map (·.1) → g.get? b = some o) (N : News h₀ L h news) (F : Fr g L' h' m') (N' : News h₀ L h' news') (sub : ∀ p ∈ news, p ∈ news') :
    ∀ b o, h.get? b = some o → h'.get? b = some o := fun b o e => by
  by_cases hb : b ∈ news.map (·.1)
  · obtain ⟨p, hp, rfl⟩ := List.mem_map.mp hb
    have h1 := (N p hp).1
    rw [e] at h1
    cases h1
    exact (N' p (sub p hp)).1
  · exact F.keep b o (hg b o e hb)
theorem news_kept {h₀ h h' : Heap} {L : Addr} {news : List (Addr × Obj)} (hk : ∀ b o, h.get? b = some o → h'.get? b = some o) (N : News h₀ L h news) : News h₀ L h' news := fun p hp => ⟨hk _ _ (N p hp).1, (N p hp).2⟩
theorem is_none' {M : Model} {A : Around} {E : Value → Shared → Prop} {s : Shared} {v : Value} {Q : Value → Shared → Prop} (hv : (v == Value.none) = false) (h : Q (.bool false) s) : wpAny M A (compareOp .Is v .none) Q E s :=
  PySem.is_none (by rw [hv]; exact h)
end Mine
end
section
open PySem PySem.W PyProof.Rows PySem.Calls PySem.Builtin
set_option maxRecDepth 100000
set_option maxHeartbeats 4000000
namespace Mine
end Mine
end
section
open PySem PySem.W PyProof.Rows PySem.Calls PySem.Builtin PySem.Builtin.Str PySem.StrLaws
set_option maxRecDepth 100000
set_option maxHeartbeats 4000000
namespace Mine
section
variable {x : PySem.Str} {c lim : Nat}
end
end Mine
end
section
open PySem PySem.W PyProof.Rows PySem.Calls PySem.Builtin
set_option maxRecDepth 100000
set_option maxHeartbeats 4000000
namespace Mine
section
variable {prog : Program} {w : World} {A : Around} {E : Value → Shared → Prop} {s : Shared} {Q : Value → Shared → Prop}
end
end Mine
end
section
open PySem PySem.W PyProof.Rows PySem.Calls PySem.Builtin
set_option maxRecDepth 100000
set_option maxHeartbeats 4000000
namespace Mine
/-- a value without parts -/
inductive Plain : Value → PyData → Prop
  | none : Plain .none .none
  | bool (b : Bool) : Plain (.bool b) (.bool b)
  | int (i : Int) (t : Tok) : Plain (.int i t) (.int i)
  | str (x : PySem.Str) (t : Tok) : PyData.strOk x = true → Plain (.str x t) (.str x)
inductive PlainAll : List Value → List PyData → Prop
  | nil : PlainAll [] []
  | cons {v : Value} {d : PyData} {vs : List Value} {ds : List PyData} : Plain v d → PlainAll vs ds → PlainAll (v :: vs) (d :: ds)
theorem Plain.reads {v : Value} {d : PyData} (p : Plain v d) (h : Heap) : Reads h v d [] := by cases p <;> constructor
theorem Plain.lay {v : Value} {d : PyData} (p : Plain v d) : d.canLay0 = true := by
  cases p with
  | none => rfl
  | bool => rfl
  | int => rfl
  | str x t h => simpa [PyData.canLay0] using h
theorem Plain.dep {v : Value} {d : PyData} (p : Plain v d) : d.depth ≤ 1 := by
  cases p <;> simp [PyData.depth]
theorem PlainAll.reads {vs : List Value} {ds : List PyData} (p : PlainAll vs ds) (h : Heap) : ReadsAll h vs ds [] := by
  induction p with
  | nil => exact .nil
  | cons q _ ih => exact ReadsAll.cons (as := []) (bs := []) (q.reads h) ih
theorem PlainAll.lay {vs : List Value} {ds : List PyData} (p : PlainAll vs ds) : PyData.canLayAll0 ds = true := by
  induction p with
  | nil => rfl
  | cons q _ ih => simp [PyData.canLayAll0, q.lay, ih]
theorem PlainAll.dep {vs : List Value} {ds : List PyData} (p : PlainAll vs ds) : PyData.depthAll ds ≤ 1 := by
  induction p with
  | nil => simp [PyData.depthAll]
  | cons q _ ih => have := q.dep; simp [PyData.depthAll]; omega
section
variable {prog : Program} {w : World} {A : Around} {E : Value → Shared → Prop} {s : Shared} {Q : Value → Shared → Prop} {h₀ : Heap} {L : Addr} {news : List (Addr × Obj)}
theorem menu_K {value slice : PySem.Expr} {l : Addr} {vs : List Value} {k : Int} {u : Tok} (P : Value → Prop) (hl : s.heap.IsList l vs.toArray) (hP : ∀ v ∈ vs, P v) (h0 : 0 ≤ k) (h1 : k < (vs.length : Int)) (hfit : k < 2 ^ 63) (h : ∀ v k', P v → Q v { s with toks := k' })
    (hs : subscripted slice false (.ref l) (.int k u) = operate [.ref l, .int k u] (getItem (.ref l) (.int k u)) := by with_unfolding_all rfl) :
    wpAny (model prog w) A (subscriptTail value slice (.ref l) (.int k u)) Q E s := by
  have hlt : k.toNat < vs.length := by omega
  exact tail_any hl.typeIs PySem.F.slot_list_getitem.lookup (wpAny_getItem_list hl h0 hfit (x := vs[k.toNat]) (by simp [hlt]) (h _ s.toks (hP _ (List.getElem_mem hlt)))) hs
end
theorem reprAs_none {prog : Program} {w : World} {hB : Heap} : ReprAs prog w hB .none (PySem.Str.ofString "None") :=
  ⟨fun {A E s Q h₀ L m news} F N _ _ _ h => P.repr_of_none (h _ _ s.heap F N), by decide +kernel⟩
theorem idx_lo (a : Int) {b : Int} (h : 0 < b) : 0 ≤ a.fmod b := Int.fmod_nonneg_of_pos a h
theorem idx_hi (a : Int) {b : Int} {n : Nat} (h : 0 < b) (e : b = (n : Int)) : a.fmod b < (n : Int) := e ▸ Int.fmod_lt_of_pos a h
theorem idx_fit (a : Int) {b : Int} (h : 0 < b) (e : b < 2 ^ 63) : a.fmod b < 2 ^ 63 := Int.lt_trans (Int.fmod_lt_of_pos a h) e
end Mine
end
section
open PySem PySem.W PyProof.Rows PySem.Calls PySem.Builtin
set_option maxRecDepth 100000
set_option maxHeartbeats 4000000
namespace Mine
section
variable {prog : Program} {w : World} {A : Around} {E : Value → Shared → Prop} {s : Shared} {Q : Value → Shared → Prop} {K : Frag} {x C D : Addr} {ox : Obj} {od : Option Obj}
variable {h₀ : Heap} {L : Addr} {news : List (Addr × Obj)}
end
end Mine
end
section
open PySem PySem.W PyProof.Rows PySem.Calls PySem.Builtin
set_option maxRecDepth 100000
set_option maxHeartbeats 4000000
namespace Mine
def figInv (n l : Int) (o : PySem.Str) : Prop := n.natAbs < 10 ^ 12 ∧ 0 ≤ l ∧ o.length ≤ 12 ∧ l * 10 ^ o.length ≤ n.natAbs ∧ ((o = PySem.Str.ofString "" ∧ l = n.natAbs) ∨ (0 < o.length ∧ itext n.natAbs = (if l = 0 then PySem.Str.ofString "" else itext l) ++ o))
theorem digit_item : ∀ d : Fin 10, (Txt.item (PySem.Str.ofString "0123456789") (d.val : Int)).cps.toList = (Nat.toDigits 10 d.val).map Char.toNat := by decide +kernel
theorem itext_nat (m : Nat) : (itext (m : Int)).cps.toList = (Nat.toDigits 10 m).map Char.toNat := by
  rw [itext_cps, if_neg (by omega)]
  rfl
theorem itext_step (m : Nat) : itext (m : Int) = (if m / 10 = 0 then PySem.Str.ofString "" else itext ((m / 10 : Nat) : Int)) ++ Txt.item (PySem.Str.ofString "0123456789") ((m % 10 : Nat) : Int) := by
  refine str_eq ?_
  rw [cps_app, itext_nat, digit_item ⟨m % 10, Nat.mod_lt _ (by decide)⟩]
  by_cases h : m / 10 = 0
  · rw [if_pos h]
    have : m % 10 = m := by omega
    simp only [this]
    show _ = ([] : List Nat) ++ _
    rfl
  · rw [if_neg h, itext_nat, ← List.map_append, Nat.toDigits_append_toDigits (by decide) (by omega) (Nat.mod_lt _ (by decide))]
    congr 2
    omega
theorem str_empty_app (x : PySem.Str) : PySem.Str.ofString "" ++ x = x := by
  refine str_eq ?_
  rw [cps_app]; rfl
theorem str_app_empty (x : PySem.Str) : x ++ PySem.Str.ofString "" = x := by
  refine str_eq ?_
  rw [cps_app]; exact List.append_nil _
theorem item_len (d : Nat) (h : d < 10) : (Txt.item (PySem.Str.ofString "0123456789") (d : Int)).length = 1 := by
  have : ∀ d : Fin 10, (Txt.item (PySem.Str.ofString "0123456789") (d.val : Int)).length = 1 := by decide +kernel
  exact this ⟨d, h⟩
theorem figInv.len {n l : Int} {o : PySem.Str} (h : figInv n l o) : o.length ≤ 12 := h.2.2.1
theorem fig_zero {n : Int} (h1 : -(10 ^ 12) < n) (h2 : n < 10 ^ 12) : figInv n (if n < 0 then -n else n) (PySem.Str.ofString "") := by
  have e : (if n < 0 then -n else n) = n.natAbs := by split <;> omega
  rw [e]
  refine ⟨by omega, by omega, by decide +kernel, ?_, .inl ⟨rfl, rfl⟩⟩
  rw [show (PySem.Str.ofString "").length = 0 from by decide +kernel]
  simp
theorem app_len (x y : PySem.Str) : (x ++ y).length = x.length + y.length := by
  show (x ++ y).cps.size = x.cps.size + y.cps.size
  rw [← Array.length_toList, cps_app, List.length_append, Array.length_toList, Array.length_toList]
theorem fig_step {n l : Int} {o : PySem.Str} (h : figInv n l o) (ht : 0 < l ∨ (¬ 0 < l ∧ (o == PySem.Str.ofString "") = true)) :
    figInv n (l.fdiv 10) (Txt.item (PySem.Str.ofString "0123456789") (l.fmod 10) ++ o) ∧ (l.fdiv 10).toNat + (1 - (Txt.item (PySem.Str.ofString "0123456789") (l.fmod 10) ++ o).length) < l.toNat + (1 - o.length) := by
  obtain ⟨hb, h0, hl, hm, hc⟩ := h
  obtain ⟨k, rfl⟩ : ∃ k : Nat, l = (k : Int) := ⟨l.toNat, by omega⟩
  have e1 : ((k : Int)).fdiv 10 = ((k / 10 : Nat) : Int) := by rw [Int.fdiv_eq_ediv_of_nonneg _ (by decide)]; omega
  have e2 : ((k : Int)).fmod 10 = ((k % 10 : Nat) : Int) := by rw [Int.fmod_eq_emod_of_nonneg _ (by decide)]; omega
  rw [e1, e2]
  have l1 := item_len (k % 10) (Nat.mod_lt _ (by decide))
  have l2 := app_len (Txt.item (PySem.Str.ofString "0123456789") ((k % 10 : Nat) : Int)) o
  have z0 : (PySem.Str.ofString "").length = 0 := by decide +kernel
  have hm' : k * 10 ^ o.length ≤ n.natAbs := by
    have : ((k * 10 ^ o.length : Nat) : Int) ≤ (n.natAbs : Int) := by simpa using hm
    omega
  refine ⟨⟨hb, by omega, ?_, ?_, .inr ⟨by omega, ?_⟩⟩, ?_⟩
  · rcases ht with ht | ⟨_, ht⟩
    · have : o.length < 12 := by
        refine Nat.lt_of_not_le fun q => ?_
        have h12 : 10 ^ 12 ≤ 10 ^ o.length := Nat.pow_le_pow_right (by decide) q
        have hk : 1 ≤ k := by omega
        have : 1 * 10 ^ 12 ≤ k * 10 ^ o.length := Nat.mul_le_mul hk h12
        omega
      omega
    · have : o = PySem.Str.ofString "" := eq_of_beq ht
      rw [this] at l2 ⊢
      omega
  · rw [l2, l1]
    have : k / 10 * 10 ^ (1 + o.length) ≤ k * 10 ^ o.length := by
      rw [Nat.pow_add, ← Nat.mul_assoc]
      exact Nat.mul_le_mul_right _ (by omega)
    have := Nat.le_trans this hm'
    have q : ((k / 10 * 10 ^ (1 + o.length) : Nat) : Int) ≤ (n.natAbs : Int) := by omega
    simpa using q
  · rcases hc with ⟨ho, hk⟩ | ⟨ho, hi⟩
    · rw [ho, str_app_empty, ← hk, itext_step k]
      congr 1
      by_cases q : k / 10 = 0
      · rw [if_pos q, if_pos (by omega)]
      · rw [if_neg q, if_neg (by omega)]
    · rcases ht with ht | ⟨_, ht⟩
      · rw [hi, if_neg (by omega), itext_step k]
        refine str_eq ?_
        simp only [cps_app, List.append_assoc]
        congr 1
        by_cases q : k / 10 = 0
        · rw [if_pos q, if_pos (by omega)]
        · rw [if_neg q, if_neg (by omega)]
      · have : o = PySem.Str.ofString "" := eq_of_beq ht
        rw [this, z0] at ho
        exact absurd ho (by decide)
  · rcases ht with ht | ⟨_, ht⟩
    · omega
    · have : o = PySem.Str.ofString "" := eq_of_beq ht
      rw [this] at l2 ⊢
      omega
theorem fig_end {n l : Int} {o : PySem.Str} (h : figInv n l o) (h1 : ¬ 0 < l) (h2 : (o == PySem.Str.ofString "") = false) : itext n.natAbs = o := by
  obtain ⟨_, h0, _, _, hc⟩ := h
  rcases hc with ⟨rfl, _⟩ | ⟨_, hi⟩
  · exact absurd h2 (by decide +kernel)
  · rw [hi, if_pos (by omega), str_empty_app]
theorem fig_neg {n l : Int} {o : PySem.Str} (h : figInv n l o) (h1 : ¬ 0 < l) (h2 : (o == PySem.Str.ofString "") = false) (hn : n < 0) : PySem.Str.ofString "-" ++ o = itext n := by
  rw [← fig_end h h1 h2]
  refine str_eq ?_
  rw [cps_app, itext_nat, itext_cps, if_pos hn]
  rfl
theorem fig_pos {n l : Int} {o : PySem.Str} (h : figInv n l o) (h1 : ¬ 0 < l) (h2 : (o == PySem.Str.ofString "") = false) (hn : ¬ n < 0) : o = itext n := by
  rw [← fig_end h h1 h2]
  congr 1
  omega
end Mine
end
section
open PySem PySem.W PyProof.Rows PySem.Calls PySem.Builtin PySem.Spec PyProof.Rows.LCg
set_option maxRecDepth 100000
set_option maxHeartbeats 4000000
namespace Mine
abbrev tupK (its : Array Value) (k : Nat) : Obj := { cls := .type "tuple", data := .seq its k }
section
variable {prog : Program} {w : World} {A : Around} {E : Value → Shared → Prop} {s : Shared} {h₀ : Heap} {L : Addr} {m : PySem.Str → Option Value} {env : Env}
def SrcT (prog : Program) (w : World) (A : Around) (h₀ : Heap) (L : Addr) (m : PySem.Str → Option Value) (env : Env) (elt : Expr) (x : PySem.Str) (scope : Scope) (cl : List (PySem.Str × Addr)) (Fin : Shared → List Value → List (Addr × Obj) → Prop) (xv : Value) (s₁ : Shared) : Prop :=
  ∃ ax its k news, xv = .ref ax ∧ A.handled = none ∧ Fr h₀ L s₁.heap m ∧ News h₀ L s₁.heap news ∧ (ax, tupK its k) ∈ news ∧ its.size ≤ sizeLine ∧
    ∀ s₂ : Shared, (∃ h, s₂ = { s₁ with heap := h }) → CompRest prog w A h₀ L m env elt x scope cl s₂ (fun nw => (ax, tupK its k) ∈ nw) (fun i v => its[i]? = some v) (Fin s₂) its.size 0 [] news
theorem SrcT.ledger {elt : Expr} {x : PySem.Str} {scope : Scope} {cl : List (PySem.Str × Addr)} {Fin : Shared → List Value → List (Addr × Obj) → Prop} {ax : Addr} {its : Array Value} {k : Nat} {news : List (Addr × Obj)} {s₁ : Shared}
    (hh : A.handled = none) (F : Fr h₀ L s₁.heap m) (N : News h₀ L s₁.heap news) (hm : (ax, tupK its k) ∈ news) (hsz : its.size ≤ sizeLine)
    (h : ∀ g, CompRest prog w A h₀ L m env elt x scope cl { s₁ with heap := g } (fun nw => (ax, tupK its k) ∈ nw) (fun i v => its[i]? = some v) (Fin { s₁ with heap := g }) its.size 0 [] news) :
    SrcT prog w A h₀ L m env elt x scope cl Fin (.ref ax) s₁ := ⟨ax, its, k, news, rfl, hh, F, N, hm, hsz, fun _ ⟨g, e⟩ => e ▸ h g⟩
theorem tup_at {h : Heap} {ax : Addr} {its : Array Value} {k : Nat} {news : List (Addr × Obj)} (N : News h₀ L h news) (hm : (ax, tupK its k) ∈ news) : h.IsTuple ax its := ⟨_, (N _ hm).1, rfl, _, rfl⟩
theorem ListComp_tup {elt iter : Expr} {x : PySem.Str} {px : Pos} {scope : Scope} {cl : List (PySem.Str × Addr)} {pos : Pos} {Q : Value → Shared → Prop} (F₀ : Fr h₀ L s.heap m)
    (hclos : closureFor scope env = pure cl) (hcell : ∀ y ∈ scope.names, y.2 ≠ .cell) (hkind : scope.kind = .function)
    (hnames : ∀ y ∈ scope.names, y.2 = .local → scope.names.lookup y.1 = some .local) (hx : scope.names.lookup x = some .local)
    (h : wpAny (model prog w) A (eval iter env) (SrcT prog w A h₀ L m env elt x scope cl (fun s₂ => FinE h₀ L m s₂ Q)) E s)
    (hs : ∀ x, foldedSetIterable iter env x = pure x := by intro _; rfl) :
    wpAny (model prog w) A (eval (.ListComp elt [⟨.Name x px, iter, [], 0⟩] scope pos) env) Q E s := by
  rw [eval_ListComp]
  refine wpAny_comprehension_free (use := none) rfl hs hclos hkind hnames (wpAny_mono h (fun xv s₁ h₁ => ?_) fun _ _ e => e)
  obtain ⟨ax, its, k, news, rfl, hh, F, N, S, hsz, R⟩ := h₁
  have hl := tup_at N S
  have hlt : ax < s₁.heap.objs.size := by obtain ⟨_, e, _⟩ := hl; exact Heap.lt_size e
  refine wpAny_pyIter_tuple hl ?_
  have up : ∀ b o, s₁.heap.get? b = some o → (s₁.heap.push { cls := .type "tuple_iterator", data := .fields #[.ref ax, .int 0 0] }).get? b = some o := fun b o e => Heap.get?_push_of_some _ e
  refine block_U (Walks.tuple hh s₁.heap.objs.size ax (Nat.ne_of_lt hlt) its) hsz (fun i h st => by obtain ⟨o, e, _⟩ := st.1; exact ⟨o, e⟩)
    (fun i h h' o nw st e e' kp N' S' => ⟨by obtain ⟨o', q, r⟩ := st.1; rw [e] at q; cases q; exact ⟨o, e', r⟩, tup_at N' S'⟩) hcell hkind hx ⟨⟨_, Heap.get?_push_size _ rfl, rfl, rfl⟩, hl.push _⟩ (fun b hb => ?_)
    (F.keeps up) (N.grown up) (Nat.ne_of_lt F.ns.lt) (next_is_new F) (fun p hp => Nat.ne_of_lt (Heap.lt_size (N p hp).1)) S (R _ ⟨_, rfl⟩) ?_
  · show b < (s₁.heap.push _).objs.size
    rw [Heap.size_push]
    rcases List.mem_cons.mp hb with rfl | hb
    · exact Nat.lt_succ_self _
    · rw [List.mem_singleton.mp hb]; exact Nat.lt_succ_of_lt hlt
  · intro D C h tk m' ys news' F' N' o1 hn hC₀ hD₀ hCL hDL hCD offC fin
    refine ⟨m', hn, fun h'' hs'' => fin D h'' tk (F'.change hs'' hCL hC₀) (fun p hp => ?_) o1⟩
    refine ⟨hs''.extBut _ _ ?_ (N' p hp).1, (N' p hp).2⟩
    rcases List.mem_cons.mp hp with rfl | hp
    · exact Ne.symm hCD
    · exact offC p hp
end
end Mine
namespace Mine
open PySem PySem.W PyProof.Rows
theorem CompEnd.keep {h₀ : Heap} {L I C D : Addr} {m : PySem.Str → Option Value} {s₁ : Shared} {oI oC oD : Obj} {S : List (Addr × Obj) → Prop} {rest : Value → List (Addr × Obj) → Prop} {y : Value} {h' : Heap} {tk : Nat} {news' : List (Addr × Obj)}
    (F : Fr h₀ L h' m) (N : News h₀ L h' ((I, oI) :: (C, oC) :: (D, oD) :: news')) (off : LCg.Off3 I C D news') (hS : S news') (r : rest y news') :
    LCg.CompEnd h₀ L m s₁ I oI C oC D oD S rest y { s₁ with heap := h', toks := tk } := ⟨h', tk, news', rfl, F, N, off, hS, r⟩
theorem join1 (s a : PySem.Str) : Txt.join s [a] = a := (StrLaws.glued_eq_join s [a]).trans rfl
theorem join2 (s a b : PySem.Str) : Txt.join s [a, b] = a ++ s ++ b := (StrLaws.glued_eq_join s [a, b]).trans rfl
theorem join3 (s a b c : PySem.Str) : Txt.join s [a, b, c] = a ++ s ++ (b ++ s ++ c) := (StrLaws.glued_eq_join s [a, b, c]).trans rfl
theorem join1_len {a : PySem.Str} (h : a.length ≤ 200) : (Txt.join (PySem.Str.ofString ", ") [a]).length ≤ 200 := by rw [join1]; exact h
theorem comma_len : (PySem.Str.ofString ", ").length = 2 := by decide +kernel
theorem join2_len {a b : PySem.Str} (h : a.length ≤ 200) (h2 : b.length ≤ 200) : (Txt.join (PySem.Str.ofString ", ") [a, b]).length ≤ 402 := by rw [join2, app_len, app_len, comma_len]; omega
theorem join3_len {a b c : PySem.Str} (h : a.length ≤ 600) (h2 : b.length ≤ 600) (h3 : c.length ≤ 600) : (Txt.join (PySem.Str.ofString ", ") [a, b, c]).length ≤ 1804 := by rw [join3, app_len, app_len, app_len, app_len, comma_len]; omega
theorem tup2_is (a b : PySem.Str) : PySem.Str.ofString "(" ++ Txt.join (PySem.Str.ofString ", ") [a, b] ++ PySem.Str.ofString ")" = PySem.Str.ofString "(" ++ a ++ PySem.Str.ofString ", " ++ b ++ PySem.Str.ofString ")" := by
  rw [join2]; refine str_eq ?_; simp only [cps_app, List.append_assoc]
theorem tup3_is (a b c : PySem.Str) : PySem.Str.ofString "(" ++ Txt.join (PySem.Str.ofString ", ") [a, b, c] ++ PySem.Str.ofString ")" = PySem.Str.ofString "(" ++ a ++ PySem.Str.ofString ", " ++ b ++ PySem.Str.ofString ", " ++ c ++ PySem.Str.ofString ")" := by
  rw [join3]; refine str_eq ?_; simp only [cps_app, List.append_assoc]
theorem tup1_is (a : PySem.Str) : PySem.Str.ofString "(" ++ Txt.join (PySem.Str.ofString ", ") [a] ++ PySem.Str.ofString ",)" = PySem.Str.ofString "(" ++ a ++ PySem.Str.ofString ",)" := by rw [join1]
theorem tup0_is : PySem.Str.ofString "(" ++ PySem.Str.ofString "" ++ PySem.Str.ofString ")" = PySem.Str.ofString "()" := by decide +kernel
theorem lst0_is : PySem.Str.ofString "[" ++ PySem.Str.ofString "" ++ PySem.Str.ofString "]" = PySem.Str.ofString "[]" := by decide +kernel
end Mine
end
section
open PySem PySem.W PyProof.Rows PySem.Calls PySem.Builtin
set_option maxRecDepth 100000
set_option maxHeartbeats 4000000
namespace Mine
/-- what stands ahead of the figures -/
def padS (n : Int) : PySem.Str := if (itext n).length < 2 then PySem.Str.ofString " " else PySem.Str.ofString ""
theorem itext_pos (n : Int) : 1 ≤ (itext n).length := by
  rw [itext_len]
  have := List.length_pos_iff.mpr (dig_ne n)
  omega
theorem space_is : PySem.Str.ofString " " = (⟨#[32]⟩ : PySem.Str) := by decide +kernel
theorem padS_eq (n : Int) : Txt.mul (PySem.Str.ofString " ") (2 - ((itext n).length : Int)) = padS n := by
  have h1 := itext_pos n
  refine str_eq ?_
  rw [space_is, mul_one_list]
  unfold padS
  split
  · rw [show (2 - ((itext n).length : Int)).toNat = 1 from by omega]; decide +kernel
  · rw [show (2 - ((itext n).length : Int)).toNat = 0 from by omega]; decide +kernel
theorem padS_len (n : Int) : (padS n).length ≤ 1 := by
  unfold padS
  split <;> decide +kernel
theorem padS_pad (n : Int) : padS n ++ itext n = pad2 n := by
  unfold padS pad2
  split
  · rfl
  · exact str_empty_app _
theorem pad_mul {prog : Program} {w : World} {A : Around} {E : Value → Shared → Prop} {s : Shared} {Q : Value → Shared → Prop} {n : Int} {t u : Tok} (hn : (itext n).length ≤ 14) (h : ∀ t' k, Q (.str (padS n) t') { s with toks := k }) :
    wpAny (model prog w) A (binaryOp .Mult (.str (PySem.Str.ofString " ") t) (.int (2 - ((itext n).length : Int)) u)) Q E s := by
  have h1 := itext_pos n
  refine SB.mul (mulOk_of 1 2 (by decide +kernel) (by omega) (by omega) (by decide) (by decide)) ?_
  rw [padS_eq]
  exact h
theorem told_none (rv r : PySem.Str) : PySem.Str.ofString "While reading from " ++ rv ++ PySem.Str.ofString "" ++ PySem.Str.ofString ": section " ++ r ++ PySem.Str.ofString " already exists" = againMsg (PySem.Str.ofString "Section ") (PySem.Str.ofString ": section ") [r, PySem.Str.ofString " already exists"] (some rv) none := by
  refine str_eq ?_
  simp only [againMsg, catS, List.cons_append, List.nil_append, cps_app, List.append_assoc]
  rw [show (PySem.Str.ofString "").cps.toList = [] from rfl, List.nil_append]
theorem told_some (rv r : PySem.Str) (n : Int) : PySem.Str.ofString "While reading from " ++ rv ++ (PySem.Str.ofString " [line " ++ padS n ++ itext n ++ PySem.Str.ofString "]") ++ PySem.Str.ofString ": section " ++ r ++ PySem.Str.ofString " already exists" = againMsg (PySem.Str.ofString "Section ") (PySem.Str.ofString ": section ") [r, PySem.Str.ofString " already exists"] (some rv) (some n) := by
  refine str_eq ?_
  simp only [againMsg, catS, List.cons_append, List.nil_append, cps_app, List.append_assoc]
  rw [← padS_pad, cps_app, List.append_assoc]
theorem sec_msg (r : PySem.Str) : PySem.Str.ofString "Section " ++ r ++ PySem.Str.ofString " already exists" = againMsg (PySem.Str.ofString "Section ") (PySem.Str.ofString ": section ") [r, PySem.Str.ofString " already exists"] none none := by
  refine str_eq ?_
  simp only [againMsg, catS, cps_app, List.append_assoc]
end Mine
end
section
open PySem PySem.W PyProof.Rows PySem.Calls PySem.Builtin
set_option maxRecDepth 100000
set_option maxHeartbeats 4000000
namespace Mine
section
variable {prog : Program} {w : World} {A : Around} {E : Value → Shared → Prop} {s : Shared} {u t : Tok}
abbrev Thrown (cls : String) (E : Value → Shared → Prop) (s : Shared) : Prop := ∀ h' tk e, Heap.NewExc s.heap h' e cls → E (.ref e) { s with heap := h', toks := tk }
theorem strfmt_bad {hh : Heap} {g : Array GenState} {d : Drawn} {tk : Nat} {os : OsState} {M : Model} {Q : PySem.Fin → Shared → Prop} (hA : A.handled = none) (h : Thrown "ValueError" E ⟨hh, g, d, tk, os⟩) :
    wpAny M A (Builtin.«str.__format__» ⟨[.str (PySem.Str.ofString "7") u, .str (PySem.Str.ofString "2d") t], []⟩) Q E ⟨hh, g, d, tk, os⟩ := by
  unfold Builtin.«str.__format__» Builtin.Str.strOneArg
  repeat lk
  rw [if_neg (by decide +kernel)]
  exact wpAny_raiseErrorMade plainExc_ValueError hA h (by rw [sizeLine_eq]; decide +kernel)
theorem objfmt_bad {hh : Heap} {g : Array GenState} {d : Drawn} {tk : Nat} {os : OsState} {M : Model} {Q : PySem.Fin → Shared → Prop} {a : Addr} {its : Array Value} {k : Nat} (ha : hh.get? a = some (tupK its k)) (hA : A.handled = none) (h : Thrown "TypeError" E ⟨hh, g, d, tk, os⟩) :
    wpAny M A (Builtin.«object.__format__» ⟨[.ref a, .str (PySem.Str.ofString "2d") t], []⟩) Q E ⟨hh, g, d, tk, os⟩ := by
  have L0 : Looks M hh (typeOf (.ref a)) (.type "tuple") := (Looks.ld ha).andThen .now
  unfold Builtin.«object.__format__»
  repeat lk
  refine wpAny_handled ?_
  rw [hA]
  first
    | refine wpAny_throw ?_
    | refine wpAny_bind (wpAny_pure (wpAny_throw ?_))
  exact h _ _ _ ⟨fun b o hb => Heap.get?_push_of_some _ (Heap.get?_push_of_some _ hb), Heap.get?_none_of_le (by simp), _, .ref hh.objs.size, Heap.get?_push_size _ rfl, rfl, by simp only [Heap.size_push, List.push_toArray]; have h1 := plainExc_TypeError.first; have h2 := plainExc_TypeError.own; simp_all⟩
theorem formatOf_7 {Q : Value → Shared → Prop} (hA : A.handled = none) (h : Thrown "ValueError" E s) : wpAny (model prog w) A (PySem.Builtin.Str.formatOf (.str (PySem.Str.ofString "7") u) (PySem.Str.ofString "2d")) Q E s := by
  unfold PySem.Builtin.Str.formatOf
  refine wpAny_ite (KPc.ite_no (by rw [show ((PySem.Str.ofString "2d").length == 0) = false from by decide +kernel]; exact Bool.false_ne_true) ?_)
  refine wpAny_bind (wpAny_mkStr ?_ (by rw [sizeLine_eq]; decide +kernel))
  refine wpAny_bind (m := callSpecial? (.str (PySem.Str.ofString "7") u) (PySem.Str.ofString "__format__") [.str (PySem.Str.ofString "2d") s.toks]) (wpAny_callSpecial?_slot (name := PySem.Str.ofString "__format__") (typeIs_str _ _ u) PySem.F.slot_str_format
    (wpAny_call (codeAny_call_builtin PySem.F.slot_str_format.plain PySem.F.entry_str_format (PySem.F.slot_str_format.check _ _ _ _ _ _ _ _ (typeIs_str _ _ u) (PySem.F.args_str_format_2 _ _) ?_))))
  obtain ⟨hh, g, d, tk, os⟩ := s
  exact strfmt_bad hA h
theorem formatOf_tup {Q : Value → Shared → Prop} {a : Addr} {its : Array Value} {k : Nat} (ha : s.heap.get? a = some (tupK its k)) (hA : A.handled = none) (h : Thrown "TypeError" E s) : wpAny (model prog w) A (PySem.Builtin.Str.formatOf (.ref a) (PySem.Str.ofString "2d")) Q E s := by
  have hT : ∀ tk, ({ s with toks := tk } : Shared).TypeIs (.ref a) "tuple" := fun tk => ⟨_, ha, rfl⟩
  unfold PySem.Builtin.Str.formatOf
  refine wpAny_ite (KPc.ite_no (by rw [show ((PySem.Str.ofString "2d").length == 0) = false from by decide +kernel]; exact Bool.false_ne_true) ?_)
  refine wpAny_bind (wpAny_mkStr ?_ (by rw [sizeLine_eq]; decide +kernel))
  refine wpAny_bind (m := callSpecial? (.ref a) (PySem.Str.ofString "__format__") [.str (PySem.Str.ofString "2d") s.toks]) (wpAny_callSpecial?_slot (name := PySem.Str.ofString "__format__") (hT _) PySem.F.slot_tuple_format
    (wpAny_call (codeAny_call_builtin PySem.F.slot_tuple_format.plain PySem.F.entry_object_format (PySem.F.slot_tuple_format.check _ _ _ _ _ _ _ _ (hT _) (PySem.F.args_object_format_2 _ _) ?_))))
  obtain ⟨hh, g, d, tk, os⟩ := s
  exact objfmt_bad ha hA h
/-- a value that the words' number cannot be -/
theorem line_bad {cls : String} {v : Value} {H : Heap} {T : String} {Q : Value → Shared → Prop} (hH : s.heap = H) (hA : A.handled = none)
    (hf : ∀ {prog : Program} {w : World} {A : Around} {E : Value → Shared → Prop} {s : Shared} {Q : Value → Shared → Prop}, s.heap = H → A.handled = none → Thrown cls E s → wpAny (model prog w) A (PySem.Builtin.Str.formatOf v (PySem.Str.ofString "2d")) Q E s)
    (h : Thrown cls E s) : wpAny (model prog w) A (call (.builtin "str.format") [.str (PySem.Str.ofString " [line {0:2d}]") t, v]) Q E s := by
  rw [show PySem.Str.ofString " [line {0:2d}]" = ⟨#[32, 91, 108, 105, 110, 101, 32, 123, 48, 58, 50, 100, 125, 93]⟩ from by decide +kernel]
  refine call_meets (S := fun A R s => A.handled = none ∧ s.heap = H ∧ ∀ h' tk e, Heap.NewExc s.heap h' e cls → R (.error (.ref e)) { s with heap := h', toks := tk }) PySem.F.slot_str_format_m (typeIs_str s _ t) PySem.F.entry_str_format_m (KFm.args_2 _ _) ?_ ⟨hA, hH, h⟩
  intro prog w A R s hs
  obtain ⟨hA, hH, hE⟩ := hs
  unfold Builtin.«str.format»
  refine wpAny_bind (wpAny_of_eq (a := (_, _, _)) rfl ?_)
  refine wpAny_bind ?_
  unfold Builtin.Str.buildString
  refine wpAny_bind ?_
  rw [KPc.range_list]
  refine KFm.start ?_
  intro _ _
  refine KPc.turn ?_
  kpc_if
  kpc_check
  refine wpAny_bind (wpAny_of_eq (a := (v, PySem.Builtin.Str.Numbering.manual)) (by with_unfolding_all rfl) ?_)
  refine wpAny_bind (wpAny_holding (wpAny_of_eq (a := _) rfl ?_))
  kpc_if
  refine wpAny_bind (wpAny_pure ?_)
  refine wpAny_bind (wpAny_holding (hf hH hA hE))
end
end Mine
end
section
open PySem PySem.W PyProof.Rows PySem.Calls PySem.Builtin
namespace Mine
theorem raisedN_sub {base : Heap} {l : List Env} {e : Addr} {cls : Value} {news news' : List (Addr × Obj)} {h : Heap} (R : RaisedN base l e cls news h) (hs : ∀ q ∈ news', q ∈ news) : RaisedN base l e cls news' h := by
  obtain ⟨B, a0, h1, h2, h3⟩ := R
  exact ⟨B, a0, h1, fun q hq => h2 q (hs q hq), h3⟩
theorem line_bad7 {prog : Program} {w : World} {A : Around} {E : Value → Shared → Prop} {s : Shared} {t u : Tok} {Q : Value → Shared → Prop} (hA : A.handled = none)
    (h : Thrown "ValueError" E s) : wpAny (model prog w) A (call (.builtin "str.format") [.str (PySem.Str.ofString " [line {0:2d}]") t, .str (PySem.Str.ofString "7") u]) Q E s :=
  line_bad (T := "") rfl hA (fun _ hA h => formatOf_7 hA h) h
theorem line_badT {prog : Program} {w : World} {A : Around} {E : Value → Shared → Prop} {s : Shared} {t : Tok} {Q : Value → Shared → Prop} {h₀ : Heap} {L a : Addr} {its : Array Value} {k : Nat} {news : List (Addr × Obj)} (N : News h₀ L s.heap news) (hm : (a, tupK its k) ∈ news) (hA : A.handled = none)
    (h : Thrown "TypeError" E s) : wpAny (model prog w) A (call (.builtin "str.format") [.str (PySem.Str.ofString " [line {0:2d}]") t, .ref a]) Q E s :=
  line_bad (T := "") rfl hA (fun hH hA h => formatOf_tup (hH ▸ (N _ hm).1) hA h) h
end Mine
namespace Mine
/-- what repr gives of a value, where the given objects stand -/
def ReprIn (prog : Program) (w : World) (news : List (Addr × Obj)) (v : Value) (r : PySem.Str) : Prop := ∀ hB : Heap, (∀ p ∈ news, hB.get? p.1 = some p.2) → ReprAs prog w hB v r
theorem ReprIn.run {prog : Program} {w : World} {objs : List (Addr × Obj)} {v : Value} {r : PySem.Str} (hr : ReprIn prog w objs v r) {A : Around} {E : Value → Shared → Prop} {s : Shared} {Q : Value → Shared → Prop} {h₀ : Heap} {L : Addr} {m : PySem.Str → Option Value} {news : List (Addr × Obj)} (F : Fr h₀ L s.heap m) (N : News h₀ L s.heap news)
    (sub : ∀ p ∈ objs, p ∈ news) (hu : A.units + 40 < cLine) (hg : A.guards = some [])
    (h : ∀ t' k h', Fr h₀ L h' m → News h₀ L h' news → Q (.str r t') { s with heap := h', toks := k }) : wpAny (model prog w) A (call (.builtin "repr") [v]) Q E s :=
  (hr s.heap fun p hp => (N p (sub p hp)).1).run F N (fun _ _ e => e) hu hg h
theorem ReprIn.len {prog : Program} {w : World} {objs : List (Addr × Obj)} {v : Value} {r : PySem.Str} {hB : Heap} (hr : ReprIn prog w objs v r) (hs : ∀ p ∈ objs, hB.get? p.1 = some p.2) : r.length ≤ 4000 := (hr hB hs).len
end Mine
end
section
set_option maxRecDepth 100000
namespace Mine
open PySem PySem.W PySem.Spec PySem.Calls PyProof.Rows
section
variable {prog : Program} {w : World} {A₀ : Around} {E : Value → Shared → Prop} {s' : Shared} {h₀ h : Heap} {outer : List Env} {L a e : Addr} {m : PySem.Str → Option Value} {name : PySem.Str} {scope : Scope} {cd : Value}
  {b₀ b₁ : Stmt} {suite suite₁ : List Stmt} {pos np pos₁ np₁ : Pos} {rest : List ExceptHandler} {Q : Flow → Shared → Prop} {news : List (Addr × Obj)}
  {p : Program} {loose : List PySem.Str} {mean : ExcName → Option Value} {mg mb : PySem.Str → Option Value} {x x₁ : PySem.Str} {X T' T₁ : String}
/-- an exception that the second clause takes -/
theorem caught2_N0 (K : Below A₀ h₀ outer h₀) (F : Fr h₀ L h m) (hsm : h.UpToSlots s'.heap) (R : RaisedN h₀ (envOf name scope L a cd :: outer) e (.type X) news s'.heap)
    (T : TopRead p loose mg mb h₀) (hv₁ : bootBuiltins x₁ = some (.type T₁)) (hv : bootBuiltins x = some (.type T'))
    (hexc₁ : isSubtype (.type T₁) (.type "BaseException") = pure true) (hnt₁ : isSubtype (.type ((Manifest.find? T₁).elim "type" fun y => y.metatype)) (.type "tuple") = pure false) (hsub₁ : isSubtype (.type X) (.type T₁) = pure false)
    (hexc : isSubtype (.type T') (.type "BaseException") = pure true) (hnt : isSubtype (.type ((Manifest.find? T').elim "type" fun y => y.metatype)) (.type "tuple") = pure false) (hsub : isSubtype (.type X) (.type T') = pure true)
    (k : ∀ h', Fr h₀ L h' m → News h₀ L h' news →
      wpAny (model prog w) ((A₀.deeper (envOf name scope L a cd)).mark (some (.ref e))) (execs (b₀ :: suite) (envOf name scope L a cd)) Q E { s' with heap := h' })
    (f1 : x₁ ∉ startupNames := by decide +kernel) (f2 : x₁ ∉ loose := by decide +kernel) (f3 : x₁ ∉ (recsOf p).map (·.name) := by decide +kernel) (f4 : x₁ ∉ (litsOf p).map (·.1) := by decide +kernel) (f4c : x₁ ∉ (clssOf p loose).map (·.name) := by decide +kernel) (fn : x₁ ≠ "__name__" := by decide +kernel)
    (h1 : x ∉ startupNames := by decide +kernel) (h2 : x ∉ loose := by decide +kernel) (h3 : x ∉ (recsOf p).map (·.name) := by decide +kernel) (h4 : x ∉ (litsOf p).map (·.1) := by decide +kernel) (h4c : x ∉ (clssOf p loose).map (·.name) := by decide +kernel) (hn : x ≠ "__name__" := by decide +kernel)
    (hk : scope.kind = .function := by rfl) (hx₁ : (envOf name scope L a cd).kindOf x₁ = some .globalImplicit := by rfl) (hd₁ : (x₁ == ("__debug__" : PySem.Str)) = false := by decide) (hx : (envOf name scope L a cd).kindOf x = some .globalImplicit := by rfl) (hd : (x == ("__debug__" : PySem.Str)) = false := by decide)
    (hE : PassesOwnAt (model prog w) ((A₀.deeper (envOf name scope L a cd)).mark (some (.ref e))) (A₀.deeper (envOf name scope L a cd)) (envOf name scope L a cd) E := by passes_own) :
    wpAny (model prog w) (A₀.deeper (envOf name scope L a cd)) (noteFrame (.ref e) (envOf name scope L a cd))
      (fun _ s₂ => wpAny (model prog w) (A₀.deeper (envOf name scope L a cd)) (setFlight (.ref e) none) (fun _ s₃ =>
        wpAny (model prog w) (A₀.deeper (envOf name scope L a cd)) (handleBy (.ref e) (envOf name scope L a cd) (.ExceptHandler (some (.Name x₁ np₁)) none (b₁ :: suite₁) pos₁ :: .ExceptHandler (some (.Name x np)) none (b₀ :: suite) pos :: rest)) Q E s₃) E s₂) E s' := by
  obtain ⟨B, a0, hB, hl, hfl⟩ := R
  have hL : B.get? L = none := by
    obtain ⟨_, ⟨L', _, hf, hn', _⟩, _⟩ := hfl.2.2.1
    obtain rfl : L = L' := Option.some.inj hf
    exact hn'
  refine wpAny_looks_onW (Around.frames_deeper K.stack) rfl hfl fun h₄ hheld₄ hsm₄ => ?_
  refine wpAny_landsW hheld₄ fun h₅ hheld hsm₅' => ?_
  have hsm₅ := hsm₄.trans hsm₅'
  have hheld' := flyingW_base hB hheld
  have F₅ := F.of_stays hheld'.1 (hsm.trans hsm₅)
  obtain ⟨ob, hob, hobc⟩ := hheld'.there
  refine wpAny_handleBy_builtin (X := X) (T := T₁) (b := false) hexc₁ hnt₁ hsub₁ (ld_builtin_at F₅ T.g (T.free x₁ f1 f2 f3 f4 f4c) T.b ((T.builtins x₁ fn).trans hv₁) ⟨rfl, ⟨ob, hob, hobc⟩, ?_⟩ hk hx₁ hd₁)
  simp only [Bool.false_eq_true, if_false]
  refine wpAny_handleBy_builtin (X := X) (T := T') (b := true) hexc hnt hsub (ld_builtin_at F₅ T.g (T.free x h1 h2 h3 h4 h4c) T.b ((T.builtins x hn).trans hv) ⟨rfl, ⟨ob, hob, hobc⟩, ?_⟩ hk hx hd)
  refine lands_againW hheld fun h₆ hfl₆ hsm₆ => ?_
  have F₆ := F.of_stays (flyingW_base hB hfl₆).1 ((hsm.trans hsm₅).trans hsm₆)
  exact wpAny_passesOwnAt hE (k h₆ F₆ fun q hq => ⟨hfl₆.1 _ _ (hl q hq).1, (fun z => by have := (hl q hq).1; rw [z, hL] at this; cases this), (hl q hq).2⟩)
end
end Mine
end
section
open PySem PySem.W PyProof.Rows
namespace Mine
set_option maxRecDepth 100000 in
set_option maxHeartbeats 8000000 in
open_top hd for PySem.Challenge.rw_dm0029_02
end Mine
end
theorem Mine.walk_anew : True := by w_top off; trivial
section
namespace Mine
open PySem PySem.W PyProof.Rows PySem.Calls
set_option maxRecDepth 100000 in
theorem xc60 (w : World) : model PySem.Challenge.rw_dm0029_02.row.prog w = model PySem.Challenge.rw_dm0029_02.row.prog w → XCls (Mine.hd.heap_39 w.params) 60 := by
  k_fill
  intro _
  exact ⟨⟨_, _, _, _, by k_is, by rfl⟩, by k_is, by k_is, by k_is, by k_is, by k_is⟩
local macro_rules | `(tactic| walk_at "exec For Name BinOp cons nil") => `(tactic| k_extra "exec For Name BinOp cons nil")
local macro_rules | `(tactic| walk_at "call ref") => `(tactic| k_extra "call ref")
local macro_rules | `(tactic| walk_at "call builtin:repr") => `(tactic| k_extra "call builtin:repr")
local macro_rules | `(tactic| walk_at "compareOp IsNot") => `(tactic| k_extra "compareOp IsNot")
local macro_rules | `(tactic| walk_at "compareOp Is") => `(tactic| k_extra "compareOp Is")
local macro_rules | `(tactic| walk_at "getMethod type:Exception") => `(tactic| k_extra "getMethod type:Exception")
local macro_rules | `(tactic| walk_at "call builtin:Exception.__init__") => `(tactic| k_extra "call builtin:Exception.__init__")
local macro_rules | `(tactic| walk_at "call builtin:str.format") => `(tactic| k_extra "call builtin:str.format")
local macro_rules | `(tactic| walk_at "call builtin:str.join") => `(tactic| k_extra "call builtin:str.join")
local macro_rules | `(tactic| walk_at "setAttr ref") => `(tactic| k_extra "setAttr ref")
local macro_rules | `(tactic| walk_at "getAttr ref") => `(tactic| k_extra "getAttr ref")
local macro_rules | `(tactic| kt_len) => `(tactic| (with_reducible exact Mine.ReprAs.len (by with_reducible assumption)))
local macro_rules | `(tactic| kt_len) => `(tactic| (with_reducible exact Mine.pad2_len (by with_reducible assumption) (by with_reducible assumption)))
local macro_rules | `(tactic| kt_len) => `(tactic| (with_reducible exact Mine.itext_len_le (by with_reducible assumption) (by with_reducible assumption)))
/-- how the arguments of a call of the constructor are bound -/
def BindsI (K : Frag) (pos : List Value) (kw : List (PySem.Str × Value)) (sec src lin : Value) : Prop :=
  ∀ (x : Addr) (s : Shared), K.In s.heap → match K.lookup 57 with
    | some ⟨_, _, .func fd, _⟩ => BindsTo s fd ⟨.ref x :: pos, kw⟩ [(PySem.Str.ofString "self", .ref x), (PySem.Str.ofString "section", sec), (PySem.Str.ofString "source", src), (PySem.Str.ofString "lineno", lin)]
    | _ => False
set_option rowWalk.seconds 0 in
set_option maxRecDepth 100000 in
set_option maxHeartbeats 16000000 in
theorem dseN_T : ∀ (w : World) (loose : List PySem.Str) (mean : ExcName → Option Value) (mg mb : PySem.Str → Option Value) (dp un : Nat) (cn : PySem.Str) (cs : Scope) (a : Addr) (ccd : Value) (cl : List (PySem.Str × Addr)) (outer : List Env) (A₀ : Around) (base h₀ : Heap) (L : Addr) (m : PySem.Str → Option Value) (h : Heap) (g : Array GenState) (d : Drawn) (tk : Nat) (os : OsState) (Q E : Value → Shared → Prop) (pos : List Value) (kw : List (PySem.Str × Value)) (sec : Value) (r : PySem.Str) (lin : Value),
    Below A₀ base outer h₀ → Fr h₀ L h m → (Mine.hd.heap_39 w.params).In h₀ → Top Mine.hd.view_39 loose mean mg mb h₀ → cs.kind = .function → dp + 5 < recursionLimit → un + 80 < cLine → pos.length ≤ 1000 → BindsI (Mine.hd.heap_39 w.params) pos kw sec (.none) (lin) → ReprAs PySem.Challenge.rw_dm0029_02.row.prog w h sec r → 
    (∀ (x dx tx : Addr) (kt0 kt1 kt2 kt3 km : Tok) (h' : Heap) (tk' : Nat), (∀ b o, h.get? b = some o → h'.get? b = some o) → Fr h₀ L h' m → News h₀ L h' [(x, xObj 60 (some dx) (excF (.ref tx))), (dx, dictOf [⟨PyData.keyHash w.params (PySem.Str.ofString "message"), .str (PySem.Str.ofString "message") kt0, .str (againMsg (PySem.Str.ofString "Section ") (PySem.Str.ofString ": section ") [r, PySem.Str.ofString " already exists"] none none) km⟩, ⟨PyData.keyHash w.params (PySem.Str.ofString "section"), .str (PySem.Str.ofString "section") kt1, sec⟩, ⟨PyData.keyHash w.params (PySem.Str.ofString "source"), .str (PySem.Str.ofString "source") kt2, .none⟩, ⟨PyData.keyHash w.params (PySem.Str.ofString "lineno"), .str (PySem.Str.ofString "lineno") kt3, lin⟩] 4), (tx, tupObj [sec, .none, lin])] → Q (.ref x) ⟨h', g, d, tk', os⟩) →
    wpAny (model PySem.Challenge.rw_dm0029_02.row.prog w) (ktrTop dp un (some []) cn cs L a ccd cl outer) (call (.ref 60) pos kw) Q E ⟨h, g, d, tk, os⟩ := by
  k_with_none
  k_with "ne" => (first | exact Mine.ne_l1 (by assumption) | exact Mine.ne_l1' (by assumption) | exact Mine.ne_r1 (by assumption) | exact Mine.ne_r1' (by assumption) | exact Mine.ne_l2 (by assumption) | exact Mine.ne_l2' (by assumption) | exact Mine.ne_r2 (by assumption) | exact Mine.ne_r2' (by assumption) | exact Mine.ne_l3 (by assumption) | exact Mine.ne_l3' (by assumption) | exact Mine.ne_r3 (by assumption) | exact Mine.ne_r3' (by assumption) | exact Mine.ne_l4 (by assumption) | exact Mine.ne_l4' (by assumption) | exact Mine.ne_r4 (by assumption) | exact Mine.ne_r4' (by assumption) | exact Mine.ne_l5 (by assumption) | exact Mine.ne_l5' (by assumption) | exact Mine.ne_r5 (by assumption) | exact Mine.ne_r5' (by assumption) | exact Mine.ne_l6 (by assumption) | exact Mine.ne_l6' (by assumption) | exact Mine.ne_r6 (by assumption) | exact Mine.ne_r6' (by assumption) | exact Mine.ne_l7 (by assumption) | exact Mine.ne_l7' (by assumption) | exact Mine.ne_r7 (by assumption) | exact Mine.ne_r7' (by assumption) | exact Mine.ne_l8 (by assumption) | exact Mine.ne_l8' (by assumption) | exact Mine.ne_r8 (by assumption) | exact Mine.ne_r8' (by assumption) | exact Mine.ne_l9 (by assumption) | exact Mine.ne_l9' (by assumption) | exact Mine.ne_r9 (by assumption) | exact Mine.ne_r9' (by assumption))
  k_with "exec For Name BinOp cons nil" => (k_here; (rename Fr _ _ _ _ => lF'); (with_unfolding_all refine' For_invVF lF' ?k1 ?k2 ?_; (case k1 => exact rfl); (case k2 => exact rfl); k_whole))
  k_with "call ref" => (k_here; k_dflt ((refine wpAny_call ?_); (refine' Mine.code_defG ?k1 ?k2 ?k3 ?k4 ?k5 ?kA ?kF ?kK ?k6 ?k7 ?k8 ?k9 ?kB ?_ ?c2 ?c3 ?c4 ?c5); (case kA => exact rfl); (case kF => exact rfl); (case kK => first | exact rfl | assumption); (case k1 => k_asm); (case k2 => k_asm); (case k3 => k_asm); (case k4 => k_asm); (case k5 => k_asm); (case k6 => k_is); (case k7 => k_is); (case k8 => ktr_room); (case k9 => first | exact BindsTo.of_eq rfl | exact binds_K (by k_in) rfl (by k_is) rfl rfl rfl | fail "no rule for these arguments"); (case c5 => decide); (case kB => exact locs rfl); (case c2 => exact rfl); (case c3 => exact rfl); (case c4 => exact rfl); k_whole; intro g' L' h' tk' hg' FG' F' N' B' X' T' l'; (clear hg'); (try k_lt l'); (try dsimp only); (try k_lift B'); (try k_fold)))
  k_with "call builtin:repr" => (k_here; (with_reducible show wpAny _ _ (call (Value.builtin "repr") [_]) _ _ _); k_dflt ((refine' Mine.ReprAs.run ?r0 ?rF ?rN ?rk ?ru ?rg ?_); (case r0 => with_reducible assumption); (case rF => k_asm); (case rN => k_asm); (case rk => first | exact (fun b o e => (Mine.keep_X (by with_reducible assumption) (by with_reducible assumption) (by with_reducible assumption) (by with_reducible assumption) b o e).1) | exact (fun _ _ e => Fr.keep (by with_reducible assumption) _ _ (Fr.keep (by with_reducible assumption) _ _ e)) | exact (fun _ _ e => Fr.keep (by with_reducible assumption) _ _ e)); (case ru => ((try simp only [units_deeper, units_in1, units_under_make, Mine.units_under_kw]); ktr_units)); (case rg => exact rfl); k_whole; intro t' k' h' F' N'))
  k_with "compareOp IsNot" => (k_here; (with_reducible show wpAny _ _ (compareOp CmpOp.IsNot _ Value.none) _ _ _); refine Mine.isNot_none' (by with_reducible assumption) ?_)
  k_with "compareOp Is" => (k_here; (with_reducible show wpAny _ _ (compareOp CmpOp.Is _ Value.none) _ _ _); refine Mine.is_none' (by with_reducible assumption) ?_)
  k_with "getMethod type:Exception" => (k_here; refine' method_type ?F ?X ?m (by decide +kernel) ?e ?h ?_; (case F => k_asm); (case X => k_asm); (case m => kernel_rfl); (case e => k_dflt k_is); (case h => k_handed))
  k_with "call builtin:Exception.__init__" => (k_here; k_dflt (refine' Mine.init_K ?k1 ?k2 ?k3 ?k4 ?k5 ?k6 ?_; (case k1 => k_asm); (case k2 => k_asm); (case k3 => k_asm); (case k6 => (intro tx'; k_upd)); (case k4 => first | (with_reducible assumption) | exact Mine.xc60 _ rfl); (case k5 => exact Nat.le_of_ble_eq_true rfl); k_whole); intro t' h' F' N' l1; (try dsimp only at N'); (try k_lt l1); (try k_sweep))
  k_with "call builtin:str.format" => (k_here; (with_reducible show wpAny _ _ (call (Value.builtin "str.format") [Value.str _ _, Value.int _ _]) _ _ _); (refine Mine.line_2d (by assumption) (by assumption) ?_); intro _ _)
  k_with "call builtin:str.join" => (k_here; (with_reducible show wpAny _ _ (call (Value.builtin "str.join") [Value.str _ _, Value.ref _]) _ _ _); k_dflt (refine' Mine.join_cat ?jN ?jm ?ji ?jB ?jn ?_; (case jN => k_asm); (case jm => k_mem); (case ji => repeat (first | exact PyProof.Rows.StrsAre.nil | apply PyProof.Rows.StrsAre.cons)); (case jB => (repeat (first | exact List.forall_mem_nil _ | refine List.forall_mem_cons.mpr ⟨by first | (with_reducible exact Mine.le5 (Mine.ReprAs.len (by assumption))) | (with_reducible exact Mine.line_len (by assumption) (by assumption)) | decide +kernel, ?_⟩))); (case jn => exact Nat.le_of_ble_eq_true rfl)); intro _ _; (try simp only [Mine.catS]))
  k_with "setAttr ref" => (k_here; k_dflt (refine' Mine.set_newK ?k1 ?k2 ?k3 ?k4 ?k5 ?k6 ?_; (case k1 => k_asm); (case k2 => k_asm); (case k3 => k_asm); (case k6 => (intro dx'; k_upd)); (case k4 => first | (with_reducible assumption) | exact Mine.xc60 _ rfl); (case k5 => k_is); k_whole; intro d' h' F' N' l1; (try dsimp only at N'); (try k_lt l1); (try k_sweep)))
  k_with "setAttr ref" => (k_here; k_dflt (refine' Mine.set_dictK ?k1 ?k2 ?k3 ?k4 ?k5 ?k6 ?k7 ?k10 ?k11 ?k12 ?k13 ?_; (case k1 => k_asm); (case k2 => k_asm); (case k3 => k_asm); (case k4 => (refine' Mine.instX ?N ?h1 ?h2; (case N => k_asm); (case h1 => k_mem); (case h2 => k_mem))); (case k5 => exact rfl); (case k6 => first | (with_reducible assumption) | exact Mine.xc60 _ rfl); (case k7 => k_is); (case k10 => k_get); (case k11 => k_put); (case k12 => k_upd); (case k13 => exact Nat.le_of_ble_eq_true rfl); k_whole; intro h' F' N'; (try k_sweep)))
  k_with "setAttr ref" => (k_here; (with_reducible show wpAny _ _ (setAttr (Value.ref _) (PySem.Str.ofString "args") (Value.ref _)) _ _ _); k_dflt (refine' Mine.set_argsK ?k1 ?k2 ?k3 ?k4 ?k5 ?k6 ?k7 ?k8 ?_; (case k1 => k_asm); (case k2 => k_asm); (case k3 => k_asm); (case k4 => (refine' Mine.instX ?N ?h1 ?h2; (case N => k_asm); (case h1 => k_mem); (case h2 => k_mem))); (case k5 => first | (with_reducible assumption) | exact Mine.xc60 _ rfl); (case k6 => k_is); (case k7 => exact News.isTup (by k_asm) (by k_mem)); (case k8 => k_upd); k_whole; intro h' F' N'; (try k_sweep)))
  k_with "getAttr ref" => (k_here; k_dflt (refine' Mine.get_ownX ?k1 ?k2 ?k3 ?k4 ?k5 ?k6 ?k7 ?k8 ?_; (case k1 => k_asm); (case k2 => k_asm); (case k3 => (refine' Mine.instX ?N ?h1 ?h2; (case N => k_asm); (case h1 => k_mem); (case h2 => k_mem))); (case k4 => first | (with_reducible assumption) | exact Mine.xc60 _ rfl); (case k5 => k_is); (case k6 => k_is); (case k7 => k_get); (case k8 => first | k_handed | with_reducible assumption); k_whole))
  k_with "getAttr ref" => (k_here; (with_reducible show wpAny _ _ (getAttr (Value.ref _) (PySem.Str.ofString "args") _) _ _ _); k_dflt (refine' Mine.get_argsX ?k1 ?k2 ?k3 ?k4 ?k5 ?k6 ?k7 ?_; (case k1 => k_asm); (case k2 => k_asm); (case k3 => (refine' Mine.instX ?N ?h1 ?h2; (case N => k_asm); (case h1 => k_mem); (case h2 => k_mem))); (case k4 => first | (with_reducible assumption) | exact Mine.xc60 _ rfl); (case k5 => k_is); (case k6 => k_is); (case k7 => k_is); k_whole))
  k_fill
  intro w loose mean mg mb dp un cn cs a ccd cl outer A₀ base h₀ L m h g d tk os Q E pos kw sec r lin B F X T hk hd hu hpl hbd hrs hret
  (simp only [againMsg, catS, List.cons_append, List.nil_append] at hret)
  all_goals (
    refine' Mine.call_X0 ?k1 ?k2 ?k4 ?k5 ?k6 ?k7 ?_
    (case k1 => k_asm)
    (case k2 => k_asm)
    (case k4 => first | (with_reducible assumption) | exact Mine.xc60 _ rfl)
    (case k5 => k_is)
    (case k6 => k_is)
    (case k7 => assumption)
    intro x0 tx0 h1 hkeep F1 N1 l1
    k_lt2 l1
    (refine' Mine.code_defG ?k1 ?k2 ?k3 ?k4 ?k5 ?kA ?kF ?kK ?k6 ?k7 ?k8 ?k9 ?kB ?_ ?c2 ?c3 ?c4 ?c5)
    (case kA => exact rfl)
    (case kF => exact rfl)
    (case kK => first | exact rfl | assumption)
    (case k1 => k_asm)
    (case k2 => k_asm)
    (case k3 => k_asm)
    (case k4 => k_asm)
    (case k5 => k_asm)
    (case k6 => k_is)
    (case k7 => k_is)
    (case k8 => ktr_room)
    (case k9 => exact hbd x0 _ (X.keeps F1.keep))
    (case c5 => decide)
    (case kB => exact locs rfl)
    (case c2 => exact rfl)
    (case c3 => exact rfl)
    (case c4 => exact rfl)
    intro g1 L1 h2 tk2 hg1 FG1 F2 N2 B2 X2 T2 l2
    k_lt l2
    (try k_lift B2)
    (try k_fold)
    k_steps
  )
  all_goals (refine' hret _ _ _ _ _ _ _ _ _ _ ?keep ?F ?N; (case keep => exact (fun b o e => (Mine.keep_X (by assumption) (by assumption) (by assumption) (by k_asm) b o e).1)); (case F => k_asm); (case N => (refine' Mine.news3 ?n0 ?n1 ?n2 ?n3; (case n0 => k_asm); (case n1 => k_mem); (case n2 => k_mem); (case n3 => k_mem))))
set_option rowWalk.seconds 0 in
set_option maxRecDepth 100000 in
set_option maxHeartbeats 16000000 in
theorem dseS_T : ∀ (w : World) (loose : List PySem.Str) (mean : ExcName → Option Value) (mg mb : PySem.Str → Option Value) (dp un : Nat) (cn : PySem.Str) (cs : Scope) (a : Addr) (ccd : Value) (cl : List (PySem.Str × Addr)) (outer : List Env) (A₀ : Around) (base h₀ : Heap) (L : Addr) (m : PySem.Str → Option Value) (h : Heap) (g : Array GenState) (d : Drawn) (tk : Nat) (os : OsState) (Q E : Value → Shared → Prop) (pos : List Value) (kw : List (PySem.Str × Value)) (sec : Value) (r : PySem.Str) (src : Value) (rv : PySem.Str) (lin : Value) (ln : Option Int),
    Below A₀ base outer h₀ → Fr h₀ L h m → (Mine.hd.heap_39 w.params).In h₀ → Top Mine.hd.view_39 loose mean mg mb h₀ → cs.kind = .function → dp + 5 < recursionLimit → un + 80 < cLine → pos.length ≤ 1000 → BindsI (Mine.hd.heap_39 w.params) pos kw sec (src) (lin) → ReprAs PySem.Challenge.rw_dm0029_02.row.prog w h sec r → (src == Value.none) = false → ReprAs PySem.Challenge.rw_dm0029_02.row.prog w h src rv → LinIs lin ln →
    (∀ (x dx tx : Addr) (kt0 kt1 kt2 kt3 km : Tok) (h' : Heap) (tk' : Nat), (∀ b o, h.get? b = some o → h'.get? b = some o) → Fr h₀ L h' m → News h₀ L h' [(x, xObj 60 (some dx) (excF (.ref tx))), (dx, dictOf [⟨PyData.keyHash w.params (PySem.Str.ofString "message"), .str (PySem.Str.ofString "message") kt0, .str (againMsg (PySem.Str.ofString "Section ") (PySem.Str.ofString ": section ") [r, PySem.Str.ofString " already exists"] (some rv) ln) km⟩, ⟨PyData.keyHash w.params (PySem.Str.ofString "section"), .str (PySem.Str.ofString "section") kt1, sec⟩, ⟨PyData.keyHash w.params (PySem.Str.ofString "source"), .str (PySem.Str.ofString "source") kt2, src⟩, ⟨PyData.keyHash w.params (PySem.Str.ofString "lineno"), .str (PySem.Str.ofString "lineno") kt3, lin⟩] 4), (tx, tupObj [sec, src, lin])] → Q (.ref x) ⟨h', g, d, tk', os⟩) →
    wpAny (model PySem.Challenge.rw_dm0029_02.row.prog w) (ktrTop dp un (some []) cn cs L a ccd cl outer) (call (.ref 60) pos kw) Q E ⟨h, g, d, tk, os⟩ := by
  k_with_none
  k_with "ne" => (first | exact Mine.ne_l1 (by assumption) | exact Mine.ne_l1' (by assumption) | exact Mine.ne_r1 (by assumption) | exact Mine.ne_r1' (by assumption) | exact Mine.ne_l2 (by assumption) | exact Mine.ne_l2' (by assumption) | exact Mine.ne_r2 (by assumption) | exact Mine.ne_r2' (by assumption) | exact Mine.ne_l3 (by assumption) | exact Mine.ne_l3' (by assumption) | exact Mine.ne_r3 (by assumption) | exact Mine.ne_r3' (by assumption) | exact Mine.ne_l4 (by assumption) | exact Mine.ne_l4' (by assumption) | exact Mine.ne_r4 (by assumption) | exact Mine.ne_r4' (by assumption) | exact Mine.ne_l5 (by assumption) | exact Mine.ne_l5' (by assumption) | exact Mine.ne_r5 (by assumption) | exact Mine.ne_r5' (by assumption) | exact Mine.ne_l6 (by assumption) | exact Mine.ne_l6' (by assumption) | exact Mine.ne_r6 (by assumption) | exact Mine.ne_r6' (by assumption) | exact Mine.ne_l7 (by assumption) | exact Mine.ne_l7' (by assumption) | exact Mine.ne_r7 (by assumption) | exact Mine.ne_r7' (by assumption) | exact Mine.ne_l8 (by assumption) | exact Mine.ne_l8' (by assumption) | exact Mine.ne_r8 (by assumption) | exact Mine.ne_r8' (by assumption) | exact Mine.ne_l9 (by assumption) | exact Mine.ne_l9' (by assumption) | exact Mine.ne_r9 (by assumption) | exact Mine.ne_r9' (by assumption))
  k_with "exec For Name BinOp cons nil" => (k_here; (rename Fr _ _ _ _ => lF'); (with_unfolding_all refine' For_invVF lF' ?k1 ?k2 ?_; (case k1 => exact rfl); (case k2 => exact rfl); k_whole))
  k_with "call ref" => (k_here; k_dflt ((refine wpAny_call ?_); (refine' Mine.code_defG ?k1 ?k2 ?k3 ?k4 ?k5 ?kA ?kF ?kK ?k6 ?k7 ?k8 ?k9 ?kB ?_ ?c2 ?c3 ?c4 ?c5); (case kA => exact rfl); (case kF => exact rfl); (case kK => first | exact rfl | assumption); (case k1 => k_asm); (case k2 => k_asm); (case k3 => k_asm); (case k4 => k_asm); (case k5 => k_asm); (case k6 => k_is); (case k7 => k_is); (case k8 => ktr_room); (case k9 => first | exact BindsTo.of_eq rfl | exact binds_K (by k_in) rfl (by k_is) rfl rfl rfl | fail "no rule for these arguments"); (case c5 => decide); (case kB => exact locs rfl); (case c2 => exact rfl); (case c3 => exact rfl); (case c4 => exact rfl); k_whole; intro g' L' h' tk' hg' FG' F' N' B' X' T' l'; (clear hg'); (try k_lt l'); (try dsimp only); (try k_lift B'); (try k_fold)))
  k_with "call builtin:repr" => (k_here; (with_reducible show wpAny _ _ (call (Value.builtin "repr") [_]) _ _ _); k_dflt ((refine' Mine.ReprAs.run ?r0 ?rF ?rN ?rk ?ru ?rg ?_); (case r0 => with_reducible assumption); (case rF => k_asm); (case rN => k_asm); (case rk => first | exact (fun b o e => (Mine.keep_X (by with_reducible assumption) (by with_reducible assumption) (by with_reducible assumption) (by with_reducible assumption) b o e).1) | exact (fun _ _ e => Fr.keep (by with_reducible assumption) _ _ (Fr.keep (by with_reducible assumption) _ _ e)) | exact (fun _ _ e => Fr.keep (by with_reducible assumption) _ _ e)); (case ru => ((try simp only [units_deeper, units_in1, units_under_make, Mine.units_under_kw]); ktr_units)); (case rg => exact rfl); k_whole; intro t' k' h' F' N'))
  k_with "compareOp IsNot" => (k_here; (with_reducible show wpAny _ _ (compareOp CmpOp.IsNot _ Value.none) _ _ _); refine Mine.isNot_none' (by with_reducible assumption) ?_)
  k_with "compareOp Is" => (k_here; (with_reducible show wpAny _ _ (compareOp CmpOp.Is _ Value.none) _ _ _); refine Mine.is_none' (by with_reducible assumption) ?_)
  k_with "getMethod type:Exception" => (k_here; refine' method_type ?F ?X ?m (by decide +kernel) ?e ?h ?_; (case F => k_asm); (case X => k_asm); (case m => kernel_rfl); (case e => k_dflt k_is); (case h => k_handed))
  k_with "call builtin:Exception.__init__" => (k_here; k_dflt (refine' Mine.init_K ?k1 ?k2 ?k3 ?k4 ?k5 ?k6 ?_; (case k1 => k_asm); (case k2 => k_asm); (case k3 => k_asm); (case k6 => (intro tx'; k_upd)); (case k4 => first | (with_reducible assumption) | exact Mine.xc60 _ rfl); (case k5 => exact Nat.le_of_ble_eq_true rfl); k_whole); intro t' h' F' N' l1; (try dsimp only at N'); (try k_lt l1); (try k_sweep))
  k_with "call builtin:str.format" => (k_here; (with_reducible show wpAny _ _ (call (Value.builtin "str.format") [Value.str _ _, Value.int _ _]) _ _ _); (refine Mine.line_2d (by assumption) (by assumption) ?_); intro _ _)
  k_with "call builtin:str.join" => (k_here; (with_reducible show wpAny _ _ (call (Value.builtin "str.join") [Value.str _ _, Value.ref _]) _ _ _); k_dflt (refine' Mine.join_cat ?jN ?jm ?ji ?jB ?jn ?_; (case jN => k_asm); (case jm => k_mem); (case ji => repeat (first | exact PyProof.Rows.StrsAre.nil | apply PyProof.Rows.StrsAre.cons)); (case jB => (repeat (first | exact List.forall_mem_nil _ | refine List.forall_mem_cons.mpr ⟨by first | (with_reducible exact Mine.le5 (Mine.ReprAs.len (by assumption))) | (with_reducible exact Mine.line_len (by assumption) (by assumption)) | decide +kernel, ?_⟩))); (case jn => exact Nat.le_of_ble_eq_true rfl)); intro _ _; (try simp only [Mine.catS]))
  k_with "setAttr ref" => (k_here; k_dflt (refine' Mine.set_newK ?k1 ?k2 ?k3 ?k4 ?k5 ?k6 ?_; (case k1 => k_asm); (case k2 => k_asm); (case k3 => k_asm); (case k6 => (intro dx'; k_upd)); (case k4 => first | (with_reducible assumption) | exact Mine.xc60 _ rfl); (case k5 => k_is); k_whole; intro d' h' F' N' l1; (try dsimp only at N'); (try k_lt l1); (try k_sweep)))
  k_with "setAttr ref" => (k_here; k_dflt (refine' Mine.set_dictK ?k1 ?k2 ?k3 ?k4 ?k5 ?k6 ?k7 ?k10 ?k11 ?k12 ?k13 ?_; (case k1 => k_asm); (case k2 => k_asm); (case k3 => k_asm); (case k4 => (refine' Mine.instX ?N ?h1 ?h2; (case N => k_asm); (case h1 => k_mem); (case h2 => k_mem))); (case k5 => exact rfl); (case k6 => first | (with_reducible assumption) | exact Mine.xc60 _ rfl); (case k7 => k_is); (case k10 => k_get); (case k11 => k_put); (case k12 => k_upd); (case k13 => exact Nat.le_of_ble_eq_true rfl); k_whole; intro h' F' N'; (try k_sweep)))
  k_with "setAttr ref" => (k_here; (with_reducible show wpAny _ _ (setAttr (Value.ref _) (PySem.Str.ofString "args") (Value.ref _)) _ _ _); k_dflt (refine' Mine.set_argsK ?k1 ?k2 ?k3 ?k4 ?k5 ?k6 ?k7 ?k8 ?_; (case k1 => k_asm); (case k2 => k_asm); (case k3 => k_asm); (case k4 => (refine' Mine.instX ?N ?h1 ?h2; (case N => k_asm); (case h1 => k_mem); (case h2 => k_mem))); (case k5 => first | (with_reducible assumption) | exact Mine.xc60 _ rfl); (case k6 => k_is); (case k7 => exact News.isTup (by k_asm) (by k_mem)); (case k8 => k_upd); k_whole; intro h' F' N'; (try k_sweep)))
  k_with "getAttr ref" => (k_here; k_dflt (refine' Mine.get_ownX ?k1 ?k2 ?k3 ?k4 ?k5 ?k6 ?k7 ?k8 ?_; (case k1 => k_asm); (case k2 => k_asm); (case k3 => (refine' Mine.instX ?N ?h1 ?h2; (case N => k_asm); (case h1 => k_mem); (case h2 => k_mem))); (case k4 => first | (with_reducible assumption) | exact Mine.xc60 _ rfl); (case k5 => k_is); (case k6 => k_is); (case k7 => k_get); (case k8 => first | k_handed | with_reducible assumption); k_whole))
  k_with "getAttr ref" => (k_here; (with_reducible show wpAny _ _ (getAttr (Value.ref _) (PySem.Str.ofString "args") _) _ _ _); k_dflt (refine' Mine.get_argsX ?k1 ?k2 ?k3 ?k4 ?k5 ?k6 ?k7 ?_; (case k1 => k_asm); (case k2 => k_asm); (case k3 => (refine' Mine.instX ?N ?h1 ?h2; (case N => k_asm); (case h1 => k_mem); (case h2 => k_mem))); (case k4 => first | (with_reducible assumption) | exact Mine.xc60 _ rfl); (case k5 => k_is); (case k6 => k_is); (case k7 => k_is); k_whole))
  k_fill
  intro w loose mean mg mb dp un cn cs a ccd cl outer A₀ base h₀ L m h g d tk os Q E pos kw sec r src rv lin ln B F X T hk hd hu hpl hbd hrs hsn hsr hlin hret
  cases hlin
  all_goals (simp only [againMsg, catS, List.cons_append, List.nil_append] at hret)
  all_goals (
    refine' Mine.call_X0 ?k1 ?k2 ?k4 ?k5 ?k6 ?k7 ?_
    (case k1 => k_asm)
    (case k2 => k_asm)
    (case k4 => first | (with_reducible assumption) | exact Mine.xc60 _ rfl)
    (case k5 => k_is)
    (case k6 => k_is)
    (case k7 => assumption)
    intro x0 tx0 h1 hkeep F1 N1 l1
    k_lt2 l1
    (refine' Mine.code_defG ?k1 ?k2 ?k3 ?k4 ?k5 ?kA ?kF ?kK ?k6 ?k7 ?k8 ?k9 ?kB ?_ ?c2 ?c3 ?c4 ?c5)
    (case kA => exact rfl)
    (case kF => exact rfl)
    (case kK => first | exact rfl | assumption)
    (case k1 => k_asm)
    (case k2 => k_asm)
    (case k3 => k_asm)
    (case k4 => k_asm)
    (case k5 => k_asm)
    (case k6 => k_is)
    (case k7 => k_is)
    (case k8 => ktr_room)
    (case k9 => exact hbd x0 _ (X.keeps F1.keep))
    (case c5 => decide)
    (case kB => exact locs rfl)
    (case c2 => exact rfl)
    (case c3 => exact rfl)
    (case c4 => exact rfl)
    intro g1 L1 h2 tk2 hg1 FG1 F2 N2 B2 X2 T2 l2
    k_lt l2
    (try k_lift B2)
    (try k_fold)
    k_steps
  )
  all_goals (refine' hret _ _ _ _ _ _ _ _ _ _ ?keep ?F ?N; (case keep => exact (fun b o e => (Mine.keep_X (by assumption) (by assumption) (by assumption) (by k_asm) b o e).1)); (case F => k_asm); (case N => (refine' Mine.news3 ?n0 ?n1 ?n2 ?n3; (case n0 => k_asm); (case n1 => k_mem); (case n2 => k_mem); (case n3 => k_mem))))
theorem len_of_eq {x : PySem.Str} {k : Nat} (h : x.length = k) : x.length ≤ k := Nat.le_of_eq h
local macro_rules | `(tactic| kt_len) => `(tactic| (with_reducible exact Mine.figInv.len (by with_reducible assumption)))
local macro_rules | `(tactic| kt_len) => `(tactic| (with_reducible exact Mine.len_of_eq (by with_reducible assumption)))
set_option rowWalk.seconds 0 in
set_option maxRecDepth 100000 in
set_option maxHeartbeats 16000000 in
theorem figures_T : ∀ (w : World) (loose : List PySem.Str) (mean : ExcName → Option Value) (mg mb : PySem.Str → Option Value) (dp un : Nat) (cn : PySem.Str) (cs : Scope) (a : Addr) (ccd : Value) (cl : List (PySem.Str × Addr)) (outer : List Env) (A₀ : Around) (base h₀ : Heap) (L : Addr) (m : PySem.Str → Option Value) (h : Heap) (g : Array GenState) (d : Drawn) (tk : Nat) (os : OsState) (Q E : Value → Shared → Prop) (n : Int) (t : Tok), Below A₀ base outer h₀ → Fr h₀ L h m → (Mine.hd.heap_39 w.params).In h₀ → Top Mine.hd.view_39 loose mean mg mb h₀ → cs.kind = .function → dp + 5 < recursionLimit → un + 80 < cLine → -(10 ^ 12) < n → n < 10 ^ 12 →
    (∀ t h' tk', (∀ b o, h.get? b = some o → h'.get? b = some o) → Fr h₀ L h' m → Q (.str (itext n) t) ⟨h', g, d, tk', os⟩) →
    wpAny (model PySem.Challenge.rw_dm0029_02.row.prog w) (ktrTop dp un (some []) cn cs L a ccd cl outer) (call (.ref 69) [.int n t]) Q E ⟨h, g, d, tk, os⟩ := by
  k_with_none
  k_with "ne" => (first | exact Mine.ne_l1 (by assumption) | exact Mine.ne_l1' (by assumption) | exact Mine.ne_r1 (by assumption) | exact Mine.ne_r1' (by assumption) | exact Mine.ne_l2 (by assumption) | exact Mine.ne_l2' (by assumption) | exact Mine.ne_r2 (by assumption) | exact Mine.ne_r2' (by assumption) | exact Mine.ne_l3 (by assumption) | exact Mine.ne_l3' (by assumption) | exact Mine.ne_r3 (by assumption) | exact Mine.ne_r3' (by assumption) | exact Mine.ne_l4 (by assumption) | exact Mine.ne_l4' (by assumption) | exact Mine.ne_r4 (by assumption) | exact Mine.ne_r4' (by assumption) | exact Mine.ne_l5 (by assumption) | exact Mine.ne_l5' (by assumption) | exact Mine.ne_r5 (by assumption) | exact Mine.ne_r5' (by assumption) | exact Mine.ne_l6 (by assumption) | exact Mine.ne_l6' (by assumption) | exact Mine.ne_r6 (by assumption) | exact Mine.ne_r6' (by assumption) | exact Mine.ne_l7 (by assumption) | exact Mine.ne_l7' (by assumption) | exact Mine.ne_r7 (by assumption) | exact Mine.ne_r7' (by assumption) | exact Mine.ne_l8 (by assumption) | exact Mine.ne_l8' (by assumption) | exact Mine.ne_r8 (by assumption) | exact Mine.ne_r8' (by assumption) | exact Mine.ne_l9 (by assumption) | exact Mine.ne_l9' (by assumption) | exact Mine.ne_r9 (by assumption) | exact Mine.ne_r9' (by assumption))
  k_with "exec For Name BinOp cons nil" => (k_here; (rename Fr _ _ _ _ => lF'); (with_unfolding_all refine' For_invVF lF' ?k1 ?k2 ?_; (case k1 => exact rfl); (case k2 => exact rfl); k_whole))
  k_with "call ref" => (k_here; k_dflt ((refine wpAny_call ?_); (refine' Mine.code_defG ?k1 ?k2 ?k3 ?k4 ?k5 ?kA ?kF ?kK ?k6 ?k7 ?k8 ?k9 ?kB ?_ ?c2 ?c3 ?c4 ?c5); (case kA => exact rfl); (case kF => exact rfl); (case kK => first | exact rfl | assumption); (case k1 => k_asm); (case k2 => k_asm); (case k3 => k_asm); (case k4 => k_asm); (case k5 => k_asm); (case k6 => k_is); (case k7 => k_is); (case k8 => ktr_room); (case k9 => first | exact BindsTo.of_eq rfl | exact binds_K (by k_in) rfl (by k_is) rfl rfl rfl | fail "no rule for these arguments"); (case c5 => decide); (case kB => exact locs rfl); (case c2 => exact rfl); (case c3 => exact rfl); (case c4 => exact rfl); k_whole; intro g' L' h' tk' hg' FG' F' N' B' X' T' l'; (clear hg'); (try k_lt l'); (try dsimp only); (try k_lift B'); (try k_fold)))
  k_with "call builtin:repr" => (k_here; (with_reducible show wpAny _ _ (call (Value.builtin "repr") [_]) _ _ _); k_dflt ((refine' Mine.ReprAs.run ?r0 ?rF ?rN ?rk ?ru ?rg ?_); (case r0 => with_reducible assumption); (case rF => k_asm); (case rN => k_asm); (case rk => first | exact (fun b o e => (Mine.keep_X (by with_reducible assumption) (by with_reducible assumption) (by with_reducible assumption) (by with_reducible assumption) b o e).1) | exact (fun _ _ e => Fr.keep (by with_reducible assumption) _ _ (Fr.keep (by with_reducible assumption) _ _ e)) | exact (fun _ _ e => Fr.keep (by with_reducible assumption) _ _ e)); (case ru => ((try simp only [units_deeper, units_in1, units_under_make, Mine.units_under_kw]); ktr_units)); (case rg => exact rfl); k_whole; intro t' k' h' F' N'))
  k_with "compareOp IsNot" => (k_here; (with_reducible show wpAny _ _ (compareOp CmpOp.IsNot _ Value.none) _ _ _); refine Mine.isNot_none' (by with_reducible assumption) ?_)
  k_with "compareOp Is" => (k_here; (with_reducible show wpAny _ _ (compareOp CmpOp.Is _ Value.none) _ _ _); refine Mine.is_none' (by with_reducible assumption) ?_)
  k_with "getMethod type:Exception" => (k_here; refine' method_type ?F ?X ?m (by decide +kernel) ?e ?h ?_; (case F => k_asm); (case X => k_asm); (case m => kernel_rfl); (case e => k_dflt k_is); (case h => k_handed))
  k_with "call builtin:Exception.__init__" => (k_here; k_dflt (refine' Mine.init_K ?k1 ?k2 ?k3 ?k4 ?k5 ?k6 ?_; (case k1 => k_asm); (case k2 => k_asm); (case k3 => k_asm); (case k6 => (intro tx'; k_upd)); (case k4 => first | (with_reducible assumption) | exact Mine.xc60 _ rfl); (case k5 => exact Nat.le_of_ble_eq_true rfl); k_whole); intro t' h' F' N' l1; (try dsimp only at N'); (try k_lt l1); (try k_sweep))
  k_with "call builtin:str.format" => (k_here; (with_reducible show wpAny _ _ (call (Value.builtin "str.format") [Value.str _ _, Value.int _ _]) _ _ _); (refine Mine.line_2d (by assumption) (by assumption) ?_); intro _ _)
  k_with "call builtin:str.join" => (k_here; (with_reducible show wpAny _ _ (call (Value.builtin "str.join") [Value.str _ _, Value.ref _]) _ _ _); k_dflt (refine' Mine.join_cat ?jN ?jm ?ji ?jB ?jn ?_; (case jN => k_asm); (case jm => k_mem); (case ji => repeat (first | exact PyProof.Rows.StrsAre.nil | apply PyProof.Rows.StrsAre.cons)); (case jB => (repeat (first | exact List.forall_mem_nil _ | refine List.forall_mem_cons.mpr ⟨by first | (with_reducible exact Mine.le5 (Mine.ReprAs.len (by assumption))) | (with_reducible exact Mine.line_len (by assumption) (by assumption)) | decide +kernel, ?_⟩))); (case jn => exact Nat.le_of_ble_eq_true rfl)); intro _ _; (try simp only [Mine.catS]))
  k_with "setAttr ref" => (k_here; k_dflt (refine' Mine.set_newK ?k1 ?k2 ?k3 ?k4 ?k5 ?k6 ?_; (case k1 => k_asm); (case k2 => k_asm); (case k3 => k_asm); (case k6 => (intro dx'; k_upd)); (case k4 => first | (with_reducible assumption) | exact Mine.xc60 _ rfl); (case k5 => k_is); k_whole; intro d' h' F' N' l1; (try dsimp only at N'); (try k_lt l1); (try k_sweep)))
  k_with "setAttr ref" => (k_here; k_dflt (refine' Mine.set_dictK ?k1 ?k2 ?k3 ?k4 ?k5 ?k6 ?k7 ?k10 ?k11 ?k12 ?k13 ?_; (case k1 => k_asm); (case k2 => k_asm); (case k3 => k_asm); (case k4 => (refine' Mine.instX ?N ?h1 ?h2; (case N => k_asm); (case h1 => k_mem); (case h2 => k_mem))); (case k5 => exact rfl); (case k6 => first | (with_reducible assumption) | exact Mine.xc60 _ rfl); (case k7 => k_is); (case k10 => k_get); (case k11 => k_put); (case k12 => k_upd); (case k13 => exact Nat.le_of_ble_eq_true rfl); k_whole; intro h' F' N'; (try k_sweep)))
  k_with "setAttr ref" => (k_here; (with_reducible show wpAny _ _ (setAttr (Value.ref _) (PySem.Str.ofString "args") (Value.ref _)) _ _ _); k_dflt (refine' Mine.set_argsK ?k1 ?k2 ?k3 ?k4 ?k5 ?k6 ?k7 ?k8 ?_; (case k1 => k_asm); (case k2 => k_asm); (case k3 => k_asm); (case k4 => (refine' Mine.instX ?N ?h1 ?h2; (case N => k_asm); (case h1 => k_mem); (case h2 => k_mem))); (case k5 => first | (with_reducible assumption) | exact Mine.xc60 _ rfl); (case k6 => k_is); (case k7 => exact News.isTup (by k_asm) (by k_mem)); (case k8 => k_upd); k_whole; intro h' F' N'; (try k_sweep)))
  k_with "getAttr ref" => (k_here; k_dflt (refine' Mine.get_ownX ?k1 ?k2 ?k3 ?k4 ?k5 ?k6 ?k7 ?k8 ?_; (case k1 => k_asm); (case k2 => k_asm); (case k3 => (refine' Mine.instX ?N ?h1 ?h2; (case N => k_asm); (case h1 => k_mem); (case h2 => k_mem))); (case k4 => first | (with_reducible assumption) | exact Mine.xc60 _ rfl); (case k5 => k_is); (case k6 => k_is); (case k7 => k_get); (case k8 => first | k_handed | with_reducible assumption); k_whole))
  k_with "getAttr ref" => (k_here; (with_reducible show wpAny _ _ (getAttr (Value.ref _) (PySem.Str.ofString "args") _) _ _ _); k_dflt (refine' Mine.get_argsX ?k1 ?k2 ?k3 ?k4 ?k5 ?k6 ?k7 ?_; (case k1 => k_asm); (case k2 => k_asm); (case k3 => (refine' Mine.instX ?N ?h1 ?h2; (case N => k_asm); (case h1 => k_mem); (case h2 => k_mem))); (case k4 => first | (with_reducible assumption) | exact Mine.xc60 _ rfl); (case k5 => k_is); (case k6 => k_is); (case k7 => k_is); k_whole))
  k_fill
  k_with "exec While BoolOp cons nil" => k_while (fun _ l o => figInv n l o) (fun _ l o => l.toNat + (1 - o.length)) "left" "out"
  k_with "state" => first | exact Mine.fig_zero (by assumption) (by assumption) | exact (Mine.fig_step (by assumption) (Or.inl (by assumption))).1 | exact (Mine.fig_step (by assumption) (Or.inr ⟨by assumption, by assumption⟩)).1
  k_with "measure" => first | exact (Mine.fig_step (by assumption) (Or.inl (by assumption))).2 | exact (Mine.fig_step (by assumption) (Or.inr ⟨by assumption, by assumption⟩)).2
  intro w loose mean mg mb dp un cn cs a ccd cl outer A₀ base h₀ L m h g d tk os Q E n t B F X T hk hd hu hn1 hn2 hret
  refine wpAny_call ?_
  (refine' Mine.code_defG ?k1 ?k2 ?k3 ?k4 ?k5 ?kA ?kF ?kK ?k6 ?k7 ?k8 ?k9 ?kB ?_ ?c2 ?c3 ?c4 ?c5)
  (case kA => exact rfl)
  (case kF => exact rfl)
  (case kK => first | exact rfl | assumption)
  (case k1 => k_asm)
  (case k2 => k_asm)
  (case k3 => k_asm)
  (case k4 => exact PyProof.Rows.News.nil)
  (case k5 => k_asm)
  (case k6 => k_is)
  (case k7 => k_is)
  (case k8 => ktr_room)
  (case k9 => first | exact BindsTo.of_eq rfl | exact binds_K (by k_in) rfl (by k_is) rfl rfl rfl | fail "no rule for these arguments")
  (case c5 => decide)
  (case kB => exact locs rfl)
  (case c2 => exact rfl)
  (case c3 => exact rfl)
  (case c4 => exact rfl)
  intro g1 L1 h2 tk2 hg1 FG1 F2 N2 B2 X2 T2 l2
  (try k_lt l2)
  (try k_lift B2)
  (try k_fold)
  k_steps
  · rename figInv _ _ _ => fi9
    rw [Mine.fig_neg fi9 (by assumption) (by assumption) (by assumption)]
    exact hret _ _ _ (keep_0 hg1 (by k_asm)) (by k_asm)
  · rename figInv _ _ _ => fi9
    rw [Mine.fig_pos fi9 (by assumption) (by assumption) (by assumption)]
    exact hret _ _ _ (keep_0 hg1 (by k_asm)) (by k_asm)
local macro_rules | `(tactic| walk_at "ite") => `(tactic| k_extra "ite")
/-- the writer of values writes r for v, where the given objects stand -/
def Says (w : World) (objs : List (Addr × Obj)) (rm uu : Nat) (v : Value) (r : PySem.Str) : Prop :=
  ∀ (loose : List PySem.Str) (mean : ExcName → Option Value) (mg mb : PySem.Str → Option Value) (dp un : Nat) (cn : PySem.Str) (cs : Scope) (a : Addr) (ccd : Value) (cl : List (PySem.Str × Addr)) (outer : List Env) (A₀ : Around) (base h₀ : Heap) (L : Addr) (m : PySem.Str → Option Value) (h : Heap) (g : Array GenState) (d : Drawn) (tk : Nat) (os : OsState) (Q E : Value → Shared → Prop), Below A₀ base outer h₀ → Fr h₀ L h m → (Mine.hd.heap_39 w.params).In h₀ → Top Mine.hd.view_39 loose mean mg mb h₀ → cs.kind = .function → dp + rm < recursionLimit → un + uu < cLine → News h₀ L h objs →
    (∀ t h' tk', (∀ b o, h.get? b = some o → h'.get? b = some o) → Fr h₀ L h' m → Q (.str r t) ⟨h', g, d, tk', os⟩) →
    wpAny (model PySem.Challenge.rw_dm0029_02.row.prog w) (ktrTop dp un (some []) cn cs L a ccd cl outer) (call (.ref 74) [v]) Q E ⟨h, g, d, tk, os⟩
theorem Says.go {w : World} {objs : List (Addr × Obj)} {rm uu : Nat} {v : Value} {r : PySem.Str} (hs : Says w objs rm uu v r) : ∀ (loose : List PySem.Str) (mean : ExcName → Option Value) (mg mb : PySem.Str → Option Value) (dp un : Nat) (cn : PySem.Str) (cs : Scope) (a : Addr) (ccd : Value) (cl : List (PySem.Str × Addr)) (outer : List Env) (A₀ : Around) (base h₀ : Heap) (L : Addr) (m : PySem.Str → Option Value) (h : Heap) (g : Array GenState) (d : Drawn) (tk : Nat) (os : OsState) (Q E : Value → Shared → Prop), Below A₀ base outer h₀ → Fr h₀ L h m → (Mine.hd.heap_39 w.params).In h₀ → Top Mine.hd.view_39 loose mean mg mb h₀ → cs.kind = .function → dp + rm < recursionLimit → un + uu < cLine → News h₀ L h objs →
    (∀ t h' tk', (∀ b o, h.get? b = some o → h'.get? b = some o) → Fr h₀ L h' m → Q (.str r t) ⟨h', g, d, tk', os⟩) →
    wpAny (model PySem.Challenge.rw_dm0029_02.row.prog w) (ktrTop dp un (some []) cn cs L a ccd cl outer) (call (.ref 74) [v]) Q E ⟨h, g, d, tk, os⟩ := hs
theorem Says.mono {w : World} {objs objs' : List (Addr × Obj)} {rm uu rm' uu' : Nat} {v : Value} {r : PySem.Str} (hs : Says w objs rm uu v r) (ho : ∀ p ∈ objs, p ∈ objs') (h1 : rm ≤ rm') (h2 : uu ≤ uu') : Says w objs' rm' uu' v r := by
  intro loose mean mg mb dp un cn cs a ccd cl outer A₀ base h₀ L m h g d tk os Q E B F X T hk hd hu N hret
  exact hs _ _ _ _ _ _ _ _ _ _ _ _ _ _ _ _ _ _ _ _ _ _ _ _ B F X T hk (by omega) (by omega) (fun p hp => N p (ho p hp)) hret
theorem news_of {h₀ h : Heap} {L : Addr} {news objs : List (Addr × Obj)} (N : News h₀ L h news) (hs : ∀ p ∈ objs, p ∈ news) : News h₀ L h objs := fun p hp => N p (hs p hp)
theorem not_of_false {b : Bool} (h : b = false) : ¬ (b = true) := by rw [h]; decide
def quoted (x : PySem.Str) : PySem.Str := if (Builtin.Str.occurrences x (PySem.Str.ofString "'") 0 x.length 1).isEmpty = true then PySem.Str.ofString "'" ++ x ++ PySem.Str.ofString "'" else PySem.Str.ofString "\"" ++ x ++ PySem.Str.ofString "\""
set_option rowWalk.seconds 0 in
set_option maxRecDepth 100000 in
set_option maxHeartbeats 16000000 in
theorem says_none' : ∀ (w : World) ,  ∀ (loose : List PySem.Str) (mean : ExcName → Option Value) (mg mb : PySem.Str → Option Value) (dp un : Nat) (cn : PySem.Str) (cs : Scope) (a : Addr) (ccd : Value) (cl : List (PySem.Str × Addr)) (outer : List Env) (A₀ : Around) (base h₀ : Heap) (L : Addr) (m : PySem.Str → Option Value) (h : Heap) (g : Array GenState) (d : Drawn) (tk : Nat) (os : OsState) (Q E : Value → Shared → Prop), Below A₀ base outer h₀ → Fr h₀ L h m → (Mine.hd.heap_39 w.params).In h₀ → Top Mine.hd.view_39 loose mean mg mb h₀ → cs.kind = .function → dp + 10 < recursionLimit → un + 160 < cLine → News h₀ L h [] →
    (∀ t h' tk', (∀ b o, h.get? b = some o → h'.get? b = some o) → Fr h₀ L h' m → Q (.str (PySem.Str.ofString "None") t) ⟨h', g, d, tk', os⟩) →
    wpAny (model PySem.Challenge.rw_dm0029_02.row.prog w) (ktrTop dp un (some []) cn cs L a ccd cl outer) (call (.ref 74) [.none]) Q E ⟨h, g, d, tk, os⟩ := by
  k_with_none
  k_with "ne" => (first | exact Mine.ne_l1 (by assumption) | exact Mine.ne_l1' (by assumption) | exact Mine.ne_r1 (by assumption) | exact Mine.ne_r1' (by assumption) | exact Mine.ne_l2 (by assumption) | exact Mine.ne_l2' (by assumption) | exact Mine.ne_r2 (by assumption) | exact Mine.ne_r2' (by assumption) | exact Mine.ne_l3 (by assumption) | exact Mine.ne_l3' (by assumption) | exact Mine.ne_r3 (by assumption) | exact Mine.ne_r3' (by assumption) | exact Mine.ne_l4 (by assumption) | exact Mine.ne_l4' (by assumption) | exact Mine.ne_r4 (by assumption) | exact Mine.ne_r4' (by assumption) | exact Mine.ne_l5 (by assumption) | exact Mine.ne_l5' (by assumption) | exact Mine.ne_r5 (by assumption) | exact Mine.ne_r5' (by assumption) | exact Mine.ne_l6 (by assumption) | exact Mine.ne_l6' (by assumption) | exact Mine.ne_r6 (by assumption) | exact Mine.ne_r6' (by assumption) | exact Mine.ne_l7 (by assumption) | exact Mine.ne_l7' (by assumption) | exact Mine.ne_r7 (by assumption) | exact Mine.ne_r7' (by assumption) | exact Mine.ne_l8 (by assumption) | exact Mine.ne_l8' (by assumption) | exact Mine.ne_r8 (by assumption) | exact Mine.ne_r8' (by assumption) | exact Mine.ne_l9 (by assumption) | exact Mine.ne_l9' (by assumption) | exact Mine.ne_r9 (by assumption) | exact Mine.ne_r9' (by assumption))
  k_with "exec For Name BinOp cons nil" => (k_here; (rename Fr _ _ _ _ => lF'); (with_unfolding_all refine' For_invVF lF' ?k1 ?k2 ?_; (case k1 => exact rfl); (case k2 => exact rfl); k_whole))
  k_with "call ref" => (k_here; k_dflt ((refine wpAny_call ?_); (refine' Mine.code_defG ?k1 ?k2 ?k3 ?k4 ?k5 ?kA ?kF ?kK ?k6 ?k7 ?k8 ?k9 ?kB ?_ ?c2 ?c3 ?c4 ?c5); (case kA => exact rfl); (case kF => exact rfl); (case kK => first | exact rfl | assumption); (case k1 => k_asm); (case k2 => k_asm); (case k3 => k_asm); (case k4 => k_asm); (case k5 => k_asm); (case k6 => k_is); (case k7 => k_is); (case k8 => ktr_room); (case k9 => first | exact BindsTo.of_eq rfl | exact binds_K (by k_in) rfl (by k_is) rfl rfl rfl | fail "no rule for these arguments"); (case c5 => decide); (case kB => exact locs rfl); (case c2 => exact rfl); (case c3 => exact rfl); (case c4 => exact rfl); k_whole; intro g' L' h' tk' hg' FG' F' N' B' X' T' l'; (clear hg'); (try k_lt l'); (try dsimp only); (try k_lift B'); (try k_fold)))
  k_with "call builtin:repr" => (k_here; (with_reducible show wpAny _ _ (call (Value.builtin "repr") [_]) _ _ _); k_dflt ((refine' Mine.ReprAs.run ?r0 ?rF ?rN ?rk ?ru ?rg ?_); (case r0 => with_reducible assumption); (case rF => k_asm); (case rN => k_asm); (case rk => first | exact (fun b o e => (Mine.keep_X (by with_reducible assumption) (by with_reducible assumption) (by with_reducible assumption) (by with_reducible assumption) b o e).1) | exact (fun _ _ e => Fr.keep (by with_reducible assumption) _ _ (Fr.keep (by with_reducible assumption) _ _ e)) | exact (fun _ _ e => Fr.keep (by with_reducible assumption) _ _ e)); (case ru => ((try simp only [units_deeper, units_in1, units_under_make, Mine.units_under_kw]); ktr_units)); (case rg => exact rfl); k_whole; intro t' k' h' F' N'))
  k_with "compareOp IsNot" => (k_here; (with_reducible show wpAny _ _ (compareOp CmpOp.IsNot _ Value.none) _ _ _); refine Mine.isNot_none' (by with_reducible assumption) ?_)
  k_with "compareOp Is" => (k_here; (with_reducible show wpAny _ _ (compareOp CmpOp.Is _ Value.none) _ _ _); refine Mine.is_none' (by with_reducible assumption) ?_)
  k_with "getMethod type:Exception" => (k_here; refine' method_type ?F ?X ?m (by decide +kernel) ?e ?h ?_; (case F => k_asm); (case X => k_asm); (case m => kernel_rfl); (case e => k_dflt k_is); (case h => k_handed))
  k_with "call builtin:Exception.__init__" => (k_here; k_dflt (refine' Mine.init_K ?k1 ?k2 ?k3 ?k4 ?k5 ?k6 ?_; (case k1 => k_asm); (case k2 => k_asm); (case k3 => k_asm); (case k6 => (intro tx'; k_upd)); (case k4 => first | (with_reducible assumption) | exact Mine.xc60 _ rfl); (case k5 => exact Nat.le_of_ble_eq_true rfl); k_whole); intro t' h' F' N' l1; (try dsimp only at N'); (try k_lt l1); (try k_sweep))
  k_with "call builtin:str.format" => (k_here; (with_reducible show wpAny _ _ (call (Value.builtin "str.format") [Value.str _ _, Value.int _ _]) _ _ _); (refine Mine.line_2d (by assumption) (by assumption) ?_); intro _ _)
  k_with "call builtin:str.join" => (k_here; (with_reducible show wpAny _ _ (call (Value.builtin "str.join") [Value.str _ _, Value.ref _]) _ _ _); k_dflt (refine' Mine.join_cat ?jN ?jm ?ji ?jB ?jn ?_; (case jN => k_asm); (case jm => k_mem); (case ji => repeat (first | exact PyProof.Rows.StrsAre.nil | apply PyProof.Rows.StrsAre.cons)); (case jB => (repeat (first | exact List.forall_mem_nil _ | refine List.forall_mem_cons.mpr ⟨by first | (with_reducible exact Mine.le5 (Mine.ReprAs.len (by assumption))) | (with_reducible exact Mine.line_len (by assumption) (by assumption)) | decide +kernel, ?_⟩))); (case jn => exact Nat.le_of_ble_eq_true rfl)); intro _ _; (try simp only [Mine.catS]))
  k_with "setAttr ref" => (k_here; k_dflt (refine' Mine.set_newK ?k1 ?k2 ?k3 ?k4 ?k5 ?k6 ?_; (case k1 => k_asm); (case k2 => k_asm); (case k3 => k_asm); (case k6 => (intro dx'; k_upd)); (case k4 => first | (with_reducible assumption) | exact Mine.xc60 _ rfl); (case k5 => k_is); k_whole; intro d' h' F' N' l1; (try dsimp only at N'); (try k_lt l1); (try k_sweep)))
  k_with "setAttr ref" => (k_here; k_dflt (refine' Mine.set_dictK ?k1 ?k2 ?k3 ?k4 ?k5 ?k6 ?k7 ?k10 ?k11 ?k12 ?k13 ?_; (case k1 => k_asm); (case k2 => k_asm); (case k3 => k_asm); (case k4 => (refine' Mine.instX ?N ?h1 ?h2; (case N => k_asm); (case h1 => k_mem); (case h2 => k_mem))); (case k5 => exact rfl); (case k6 => first | (with_reducible assumption) | exact Mine.xc60 _ rfl); (case k7 => k_is); (case k10 => k_get); (case k11 => k_put); (case k12 => k_upd); (case k13 => exact Nat.le_of_ble_eq_true rfl); k_whole; intro h' F' N'; (try k_sweep)))
  k_with "setAttr ref" => (k_here; (with_reducible show wpAny _ _ (setAttr (Value.ref _) (PySem.Str.ofString "args") (Value.ref _)) _ _ _); k_dflt (refine' Mine.set_argsK ?k1 ?k2 ?k3 ?k4 ?k5 ?k6 ?k7 ?k8 ?_; (case k1 => k_asm); (case k2 => k_asm); (case k3 => k_asm); (case k4 => (refine' Mine.instX ?N ?h1 ?h2; (case N => k_asm); (case h1 => k_mem); (case h2 => k_mem))); (case k5 => first | (with_reducible assumption) | exact Mine.xc60 _ rfl); (case k6 => k_is); (case k7 => exact News.isTup (by k_asm) (by k_mem)); (case k8 => k_upd); k_whole; intro h' F' N'; (try k_sweep)))
  k_with "getAttr ref" => (k_here; k_dflt (refine' Mine.get_ownX ?k1 ?k2 ?k3 ?k4 ?k5 ?k6 ?k7 ?k8 ?_; (case k1 => k_asm); (case k2 => k_asm); (case k3 => (refine' Mine.instX ?N ?h1 ?h2; (case N => k_asm); (case h1 => k_mem); (case h2 => k_mem))); (case k4 => first | (with_reducible assumption) | exact Mine.xc60 _ rfl); (case k5 => k_is); (case k6 => k_is); (case k7 => k_get); (case k8 => first | k_handed | with_reducible assumption); k_whole))
  k_with "getAttr ref" => (k_here; (with_reducible show wpAny _ _ (getAttr (Value.ref _) (PySem.Str.ofString "args") _) _ _ _); k_dflt (refine' Mine.get_argsX ?k1 ?k2 ?k3 ?k4 ?k5 ?k6 ?k7 ?_; (case k1 => k_asm); (case k2 => k_asm); (case k3 => (refine' Mine.instX ?N ?h1 ?h2; (case N => k_asm); (case h1 => k_mem); (case h2 => k_mem))); (case k4 => first | (with_reducible assumption) | exact Mine.xc60 _ rfl); (case k5 => k_is); (case k6 => k_is); (case k7 => k_is); k_whole))
  k_with "ite" => (k_here; (first | refine Mine.ite_ff ?_ | refine Mine.ite_tt ?_))
  k_with "call ref" => (k_here; (with_reducible show wpAny _ _ (call (Value.ref 69) _) _ _ _); k_dflt (refine' Mine.figures_T _ _ _ _ _ _ _ _ _ _ _ _ _ _ _ _ _ _ _ _ _ _ _ _ _ _ _ ?kB ?kF ?kX ?kT ?kk ?kd ?ku ?n1 ?n2 ?_; (case kB => k_asm); (case kF => k_asm); (case kX => k_asm); (case kT => k_asm); (case kk => first | exact rfl | assumption); (case kd => ktr_room); (case ku => ktr_units); (case n1 => assumption); (case n2 => assumption); k_whole); intro t' h' tk' hk' F'; (have N' := Mine.news_kept hk' (by k_asm)); (clear hk'); (try dsimp only))
  k_fill
  intro w  loose mean mg mb dp un cn cs a ccd cl outer A₀ base h₀ L m h g d tk os Q E B F X T hk hd hu N hret
  refine wpAny_call ?_
  (refine' Mine.code_defG ?k1 ?k2 ?k3 ?k4 ?k5 ?kA ?kF ?kK ?k6 ?k7 ?k8 ?k9 ?kB ?_ ?c2 ?c3 ?c4 ?c5)
  (case kA => exact rfl)
  (case kF => exact rfl)
  (case kK => first | exact rfl | assumption)
  (case k1 => k_asm)
  (case k2 => k_asm)
  (case k3 => k_asm)
  (case k4 => exact N)
  (case k5 => k_asm)
  (case k6 => k_is)
  (case k7 => k_is)
  (case k8 => ktr_room)
  (case k9 => first | exact BindsTo.of_eq rfl | exact binds_K (by k_in) rfl (by k_is) rfl rfl rfl | fail "no rule for these arguments")
  (case c5 => decide)
  (case kB => exact locs rfl)
  (case c2 => exact rfl)
  (case c3 => exact rfl)
  (case c4 => exact rfl)
  intro g1 L1 h2 tk2 hg1 FG1 F2 N2 B2 X2 T2 l2
  (try k_lt l2)
  (try k_lift B2)
  (try k_fold)
  k_steps
  all_goals (exact hret _ _ _ (keep_0 hg1 (by k_asm)) (by k_asm))
theorem says_none : ∀ (w : World) ,  Says w [] 10 160 (.none) (PySem.Str.ofString "None") := says_none'
set_option rowWalk.seconds 0 in
set_option maxRecDepth 100000 in
set_option maxHeartbeats 16000000 in
theorem says_bool' : ∀ (w : World) (b : Bool),  ∀ (loose : List PySem.Str) (mean : ExcName → Option Value) (mg mb : PySem.Str → Option Value) (dp un : Nat) (cn : PySem.Str) (cs : Scope) (a : Addr) (ccd : Value) (cl : List (PySem.Str × Addr)) (outer : List Env) (A₀ : Around) (base h₀ : Heap) (L : Addr) (m : PySem.Str → Option Value) (h : Heap) (g : Array GenState) (d : Drawn) (tk : Nat) (os : OsState) (Q E : Value → Shared → Prop), Below A₀ base outer h₀ → Fr h₀ L h m → (Mine.hd.heap_39 w.params).In h₀ → Top Mine.hd.view_39 loose mean mg mb h₀ → cs.kind = .function → dp + 10 < recursionLimit → un + 160 < cLine → News h₀ L h [] →
    (∀ t h' tk', (∀ b o, h.get? b = some o → h'.get? b = some o) → Fr h₀ L h' m → Q (.str (if b then PySem.Str.ofString "True" else PySem.Str.ofString "False") t) ⟨h', g, d, tk', os⟩) →
    wpAny (model PySem.Challenge.rw_dm0029_02.row.prog w) (ktrTop dp un (some []) cn cs L a ccd cl outer) (call (.ref 74) [.bool b]) Q E ⟨h, g, d, tk, os⟩ := by
  k_with_none
  k_with "ne" => (first | exact Mine.ne_l1 (by assumption) | exact Mine.ne_l1' (by assumption) | exact Mine.ne_r1 (by assumption) | exact Mine.ne_r1' (by assumption) | exact Mine.ne_l2 (by assumption) | exact Mine.ne_l2' (by assumption) | exact Mine.ne_r2 (by assumption) | exact Mine.ne_r2' (by assumption) | exact Mine.ne_l3 (by assumption) | exact Mine.ne_l3' (by assumption) | exact Mine.ne_r3 (by assumption) | exact Mine.ne_r3' (by assumption) | exact Mine.ne_l4 (by assumption) | exact Mine.ne_l4' (by assumption) | exact Mine.ne_r4 (by assumption) | exact Mine.ne_r4' (by assumption) | exact Mine.ne_l5 (by assumption) | exact Mine.ne_l5' (by assumption) | exact Mine.ne_r5 (by assumption) | exact Mine.ne_r5' (by assumption) | exact Mine.ne_l6 (by assumption) | exact Mine.ne_l6' (by assumption) | exact Mine.ne_r6 (by assumption) | exact Mine.ne_r6' (by assumption) | exact Mine.ne_l7 (by assumption) | exact Mine.ne_l7' (by assumption) | exact Mine.ne_r7 (by assumption) | exact Mine.ne_r7' (by assumption) | exact Mine.ne_l8 (by assumption) | exact Mine.ne_l8' (by assumption) | exact Mine.ne_r8 (by assumption) | exact Mine.ne_r8' (by assumption) | exact Mine.ne_l9 (by assumption) | exact Mine.ne_l9' (by assumption) | exact Mine.ne_r9 (by assumption) | exact Mine.ne_r9' (by assumption))
  k_with "exec For Name BinOp cons nil" => (k_here; (rename Fr _ _ _ _ => lF'); (with_unfolding_all refine' For_invVF lF' ?k1 ?k2 ?_; (case k1 => exact rfl); (case k2 => exact rfl); k_whole))
  k_with "call ref" => (k_here; k_dflt ((refine wpAny_call ?_); (refine' Mine.code_defG ?k1 ?k2 ?k3 ?k4 ?k5 ?kA ?kF ?kK ?k6 ?k7 ?k8 ?k9 ?kB ?_ ?c2 ?c3 ?c4 ?c5); (case kA => exact rfl); (case kF => exact rfl); (case kK => first | exact rfl | assumption); (case k1 => k_asm); (case k2 => k_asm); (case k3 => k_asm); (case k4 => k_asm); (case k5 => k_asm); (case k6 => k_is); (case k7 => k_is); (case k8 => ktr_room); (case k9 => first | exact BindsTo.of_eq rfl | exact binds_K (by k_in) rfl (by k_is) rfl rfl rfl | fail "no rule for these arguments"); (case c5 => decide); (case kB => exact locs rfl); (case c2 => exact rfl); (case c3 => exact rfl); (case c4 => exact rfl); k_whole; intro g' L' h' tk' hg' FG' F' N' B' X' T' l'; (clear hg'); (try k_lt l'); (try dsimp only); (try k_lift B'); (try k_fold)))
  k_with "call builtin:repr" => (k_here; (with_reducible show wpAny _ _ (call (Value.builtin "repr") [_]) _ _ _); k_dflt ((refine' Mine.ReprAs.run ?r0 ?rF ?rN ?rk ?ru ?rg ?_); (case r0 => with_reducible assumption); (case rF => k_asm); (case rN => k_asm); (case rk => first | exact (fun b o e => (Mine.keep_X (by with_reducible assumption) (by with_reducible assumption) (by with_reducible assumption) (by with_reducible assumption) b o e).1) | exact (fun _ _ e => Fr.keep (by with_reducible assumption) _ _ (Fr.keep (by with_reducible assumption) _ _ e)) | exact (fun _ _ e => Fr.keep (by with_reducible assumption) _ _ e)); (case ru => ((try simp only [units_deeper, units_in1, units_under_make, Mine.units_under_kw]); ktr_units)); (case rg => exact rfl); k_whole; intro t' k' h' F' N'))
  k_with "compareOp IsNot" => (k_here; (with_reducible show wpAny _ _ (compareOp CmpOp.IsNot _ Value.none) _ _ _); refine Mine.isNot_none' (by with_reducible assumption) ?_)
  k_with "compareOp Is" => (k_here; (with_reducible show wpAny _ _ (compareOp CmpOp.Is _ Value.none) _ _ _); refine Mine.is_none' (by with_reducible assumption) ?_)
  k_with "getMethod type:Exception" => (k_here; refine' method_type ?F ?X ?m (by decide +kernel) ?e ?h ?_; (case F => k_asm); (case X => k_asm); (case m => kernel_rfl); (case e => k_dflt k_is); (case h => k_handed))
  k_with "call builtin:Exception.__init__" => (k_here; k_dflt (refine' Mine.init_K ?k1 ?k2 ?k3 ?k4 ?k5 ?k6 ?_; (case k1 => k_asm); (case k2 => k_asm); (case k3 => k_asm); (case k6 => (intro tx'; k_upd)); (case k4 => first | (with_reducible assumption) | exact Mine.xc60 _ rfl); (case k5 => exact Nat.le_of_ble_eq_true rfl); k_whole); intro t' h' F' N' l1; (try dsimp only at N'); (try k_lt l1); (try k_sweep))
  k_with "call builtin:str.format" => (k_here; (with_reducible show wpAny _ _ (call (Value.builtin "str.format") [Value.str _ _, Value.int _ _]) _ _ _); (refine Mine.line_2d (by assumption) (by assumption) ?_); intro _ _)
  k_with "call builtin:str.join" => (k_here; (with_reducible show wpAny _ _ (call (Value.builtin "str.join") [Value.str _ _, Value.ref _]) _ _ _); k_dflt (refine' Mine.join_cat ?jN ?jm ?ji ?jB ?jn ?_; (case jN => k_asm); (case jm => k_mem); (case ji => repeat (first | exact PyProof.Rows.StrsAre.nil | apply PyProof.Rows.StrsAre.cons)); (case jB => (repeat (first | exact List.forall_mem_nil _ | refine List.forall_mem_cons.mpr ⟨by first | (with_reducible exact Mine.le5 (Mine.ReprAs.len (by assumption))) | (with_reducible exact Mine.line_len (by assumption) (by assumption)) | decide +kernel, ?_⟩))); (case jn => exact Nat.le_of_ble_eq_true rfl)); intro _ _; (try simp only [Mine.catS]))
  k_with "setAttr ref" => (k_here; k_dflt (refine' Mine.set_newK ?k1 ?k2 ?k3 ?k4 ?k5 ?k6 ?_; (case k1 => k_asm); (case k2 => k_asm); (case k3 => k_asm); (case k6 => (intro dx'; k_upd)); (case k4 => first | (with_reducible assumption) | exact Mine.xc60 _ rfl); (case k5 => k_is); k_whole; intro d' h' F' N' l1; (try dsimp only at N'); (try k_lt l1); (try k_sweep)))
  k_with "setAttr ref" => (k_here; k_dflt (refine' Mine.set_dictK ?k1 ?k2 ?k3 ?k4 ?k5 ?k6 ?k7 ?k10 ?k11 ?k12 ?k13 ?_; (case k1 => k_asm); (case k2 => k_asm); (case k3 => k_asm); (case k4 => (refine' Mine.instX ?N ?h1 ?h2; (case N => k_asm); (case h1 => k_mem); (case h2 => k_mem))); (case k5 => exact rfl); (case k6 => first | (with_reducible assumption) | exact Mine.xc60 _ rfl); (case k7 => k_is); (case k10 => k_get); (case k11 => k_put); (case k12 => k_upd); (case k13 => exact Nat.le_of_ble_eq_true rfl); k_whole; intro h' F' N'; (try k_sweep)))
  k_with "setAttr ref" => (k_here; (with_reducible show wpAny _ _ (setAttr (Value.ref _) (PySem.Str.ofString "args") (Value.ref _)) _ _ _); k_dflt (refine' Mine.set_argsK ?k1 ?k2 ?k3 ?k4 ?k5 ?k6 ?k7 ?k8 ?_; (case k1 => k_asm); (case k2 => k_asm); (case k3 => k_asm); (case k4 => (refine' Mine.instX ?N ?h1 ?h2; (case N => k_asm); (case h1 => k_mem); (case h2 => k_mem))); (case k5 => first | (with_reducible assumption) | exact Mine.xc60 _ rfl); (case k6 => k_is); (case k7 => exact News.isTup (by k_asm) (by k_mem)); (case k8 => k_upd); k_whole; intro h' F' N'; (try k_sweep)))
  k_with "getAttr ref" => (k_here; k_dflt (refine' Mine.get_ownX ?k1 ?k2 ?k3 ?k4 ?k5 ?k6 ?k7 ?k8 ?_; (case k1 => k_asm); (case k2 => k_asm); (case k3 => (refine' Mine.instX ?N ?h1 ?h2; (case N => k_asm); (case h1 => k_mem); (case h2 => k_mem))); (case k4 => first | (with_reducible assumption) | exact Mine.xc60 _ rfl); (case k5 => k_is); (case k6 => k_is); (case k7 => k_get); (case k8 => first | k_handed | with_reducible assumption); k_whole))
  k_with "getAttr ref" => (k_here; (with_reducible show wpAny _ _ (getAttr (Value.ref _) (PySem.Str.ofString "args") _) _ _ _); k_dflt (refine' Mine.get_argsX ?k1 ?k2 ?k3 ?k4 ?k5 ?k6 ?k7 ?_; (case k1 => k_asm); (case k2 => k_asm); (case k3 => (refine' Mine.instX ?N ?h1 ?h2; (case N => k_asm); (case h1 => k_mem); (case h2 => k_mem))); (case k4 => first | (with_reducible assumption) | exact Mine.xc60 _ rfl); (case k5 => k_is); (case k6 => k_is); (case k7 => k_is); k_whole))
  k_with "ite" => (k_here; (first | refine Mine.ite_ff ?_ | refine Mine.ite_tt ?_))
  k_with "call ref" => (k_here; (with_reducible show wpAny _ _ (call (Value.ref 69) _) _ _ _); k_dflt (refine' Mine.figures_T _ _ _ _ _ _ _ _ _ _ _ _ _ _ _ _ _ _ _ _ _ _ _ _ _ _ _ ?kB ?kF ?kX ?kT ?kk ?kd ?ku ?n1 ?n2 ?_; (case kB => k_asm); (case kF => k_asm); (case kX => k_asm); (case kT => k_asm); (case kk => first | exact rfl | assumption); (case kd => ktr_room); (case ku => ktr_units); (case n1 => assumption); (case n2 => assumption); k_whole); intro t' h' tk' hk' F'; (have N' := Mine.news_kept hk' (by k_asm)); (clear hk'); (try dsimp only))
  k_fill
  intro w b loose mean mg mb dp un cn cs a ccd cl outer A₀ base h₀ L m h g d tk os Q E B F X T hk hd hu N hret
  cases b
  all_goals (
    refine wpAny_call ?_
    (refine' Mine.code_defG ?k1 ?k2 ?k3 ?k4 ?k5 ?kA ?kF ?kK ?k6 ?k7 ?k8 ?k9 ?kB ?_ ?c2 ?c3 ?c4 ?c5)
    (case kA => exact rfl)
    (case kF => exact rfl)
    (case kK => first | exact rfl | assumption)
    (case k1 => k_asm)
    (case k2 => k_asm)
    (case k3 => k_asm)
    (case k4 => exact N)
    (case k5 => k_asm)
    (case k6 => k_is)
    (case k7 => k_is)
    (case k8 => ktr_room)
    (case k9 => first | exact BindsTo.of_eq rfl | exact binds_K (by k_in) rfl (by k_is) rfl rfl rfl | fail "no rule for these arguments")
    (case c5 => decide)
    (case kB => exact locs rfl)
    (case c2 => exact rfl)
    (case c3 => exact rfl)
    (case c4 => exact rfl)
    intro g1 L1 h2 tk2 hg1 FG1 F2 N2 B2 X2 T2 l2
    (try k_lt l2)
    (try k_lift B2)
    (try k_fold)
    k_steps
  )
  all_goals (exact hret _ _ _ (keep_0 hg1 (by k_asm)) (by k_asm))
theorem says_bool : ∀ (w : World) (b : Bool),  Says w [] 10 160 (.bool b) (if b then PySem.Str.ofString "True" else PySem.Str.ofString "False") := says_bool'
set_option rowWalk.seconds 0 in
set_option maxRecDepth 100000 in
set_option maxHeartbeats 16000000 in
theorem says_int' : ∀ (w : World) (n : Int) (t : Tok), -(10 ^ 12) < n → n < 10 ^ 12 → ∀ (loose : List PySem.Str) (mean : ExcName → Option Value) (mg mb : PySem.Str → Option Value) (dp un : Nat) (cn : PySem.Str) (cs : Scope) (a : Addr) (ccd : Value) (cl : List (PySem.Str × Addr)) (outer : List Env) (A₀ : Around) (base h₀ : Heap) (L : Addr) (m : PySem.Str → Option Value) (h : Heap) (g : Array GenState) (d : Drawn) (tk : Nat) (os : OsState) (Q E : Value → Shared → Prop), Below A₀ base outer h₀ → Fr h₀ L h m → (Mine.hd.heap_39 w.params).In h₀ → Top Mine.hd.view_39 loose mean mg mb h₀ → cs.kind = .function → dp + 10 < recursionLimit → un + 160 < cLine → News h₀ L h [] →
    (∀ t h' tk', (∀ b o, h.get? b = some o → h'.get? b = some o) → Fr h₀ L h' m → Q (.str (itext n) t) ⟨h', g, d, tk', os⟩) →
    wpAny (model PySem.Challenge.rw_dm0029_02.row.prog w) (ktrTop dp un (some []) cn cs L a ccd cl outer) (call (.ref 74) [.int n t]) Q E ⟨h, g, d, tk, os⟩ := by
  k_with_none
  k_with "ne" => (first | exact Mine.ne_l1 (by assumption) | exact Mine.ne_l1' (by assumption) | exact Mine.ne_r1 (by assumption) | exact Mine.ne_r1' (by assumption) | exact Mine.ne_l2 (by assumption) | exact Mine.ne_l2' (by assumption) | exact Mine.ne_r2 (by assumption) | exact Mine.ne_r2' (by assumption) | exact Mine.ne_l3 (by assumption) | exact Mine.ne_l3' (by assumption) | exact Mine.ne_r3 (by assumption) | exact Mine.ne_r3' (by assumption) | exact Mine.ne_l4 (by assumption) | exact Mine.ne_l4' (by assumption) | exact Mine.ne_r4 (by assumption) | exact Mine.ne_r4' (by assumption) | exact Mine.ne_l5 (by assumption) | exact Mine.ne_l5' (by assumption) | exact Mine.ne_r5 (by assumption) | exact Mine.ne_r5' (by assumption) | exact Mine.ne_l6 (by assumption) | exact Mine.ne_l6' (by assumption) | exact Mine.ne_r6 (by assumption) | exact Mine.ne_r6' (by assumption) | exact Mine.ne_l7 (by assumption) | exact Mine.ne_l7' (by assumption) | exact Mine.ne_r7 (by assumption) | exact Mine.ne_r7' (by assumption) | exact Mine.ne_l8 (by assumption) | exact Mine.ne_l8' (by assumption) | exact Mine.ne_r8 (by assumption) | exact Mine.ne_r8' (by assumption) | exact Mine.ne_l9 (by assumption) | exact Mine.ne_l9' (by assumption) | exact Mine.ne_r9 (by assumption) | exact Mine.ne_r9' (by assumption))
  k_with "exec For Name BinOp cons nil" => (k_here; (rename Fr _ _ _ _ => lF'); (with_unfolding_all refine' For_invVF lF' ?k1 ?k2 ?_; (case k1 => exact rfl); (case k2 => exact rfl); k_whole))
  k_with "call ref" => (k_here; k_dflt ((refine wpAny_call ?_); (refine' Mine.code_defG ?k1 ?k2 ?k3 ?k4 ?k5 ?kA ?kF ?kK ?k6 ?k7 ?k8 ?k9 ?kB ?_ ?c2 ?c3 ?c4 ?c5); (case kA => exact rfl); (case kF => exact rfl); (case kK => first | exact rfl | assumption); (case k1 => k_asm); (case k2 => k_asm); (case k3 => k_asm); (case k4 => k_asm); (case k5 => k_asm); (case k6 => k_is); (case k7 => k_is); (case k8 => ktr_room); (case k9 => first | exact BindsTo.of_eq rfl | exact binds_K (by k_in) rfl (by k_is) rfl rfl rfl | fail "no rule for these arguments"); (case c5 => decide); (case kB => exact locs rfl); (case c2 => exact rfl); (case c3 => exact rfl); (case c4 => exact rfl); k_whole; intro g' L' h' tk' hg' FG' F' N' B' X' T' l'; (clear hg'); (try k_lt l'); (try dsimp only); (try k_lift B'); (try k_fold)))
  k_with "call builtin:repr" => (k_here; (with_reducible show wpAny _ _ (call (Value.builtin "repr") [_]) _ _ _); k_dflt ((refine' Mine.ReprAs.run ?r0 ?rF ?rN ?rk ?ru ?rg ?_); (case r0 => with_reducible assumption); (case rF => k_asm); (case rN => k_asm); (case rk => first | exact (fun b o e => (Mine.keep_X (by with_reducible assumption) (by with_reducible assumption) (by with_reducible assumption) (by with_reducible assumption) b o e).1) | exact (fun _ _ e => Fr.keep (by with_reducible assumption) _ _ (Fr.keep (by with_reducible assumption) _ _ e)) | exact (fun _ _ e => Fr.keep (by with_reducible assumption) _ _ e)); (case ru => ((try simp only [units_deeper, units_in1, units_under_make, Mine.units_under_kw]); ktr_units)); (case rg => exact rfl); k_whole; intro t' k' h' F' N'))
  k_with "compareOp IsNot" => (k_here; (with_reducible show wpAny _ _ (compareOp CmpOp.IsNot _ Value.none) _ _ _); refine Mine.isNot_none' (by with_reducible assumption) ?_)
  k_with "compareOp Is" => (k_here; (with_reducible show wpAny _ _ (compareOp CmpOp.Is _ Value.none) _ _ _); refine Mine.is_none' (by with_reducible assumption) ?_)
  k_with "getMethod type:Exception" => (k_here; refine' method_type ?F ?X ?m (by decide +kernel) ?e ?h ?_; (case F => k_asm); (case X => k_asm); (case m => kernel_rfl); (case e => k_dflt k_is); (case h => k_handed))
  k_with "call builtin:Exception.__init__" => (k_here; k_dflt (refine' Mine.init_K ?k1 ?k2 ?k3 ?k4 ?k5 ?k6 ?_; (case k1 => k_asm); (case k2 => k_asm); (case k3 => k_asm); (case k6 => (intro tx'; k_upd)); (case k4 => first | (with_reducible assumption) | exact Mine.xc60 _ rfl); (case k5 => exact Nat.le_of_ble_eq_true rfl); k_whole); intro t' h' F' N' l1; (try dsimp only at N'); (try k_lt l1); (try k_sweep))
  k_with "call builtin:str.format" => (k_here; (with_reducible show wpAny _ _ (call (Value.builtin "str.format") [Value.str _ _, Value.int _ _]) _ _ _); (refine Mine.line_2d (by assumption) (by assumption) ?_); intro _ _)
  k_with "call builtin:str.join" => (k_here; (with_reducible show wpAny _ _ (call (Value.builtin "str.join") [Value.str _ _, Value.ref _]) _ _ _); k_dflt (refine' Mine.join_cat ?jN ?jm ?ji ?jB ?jn ?_; (case jN => k_asm); (case jm => k_mem); (case ji => repeat (first | exact PyProof.Rows.StrsAre.nil | apply PyProof.Rows.StrsAre.cons)); (case jB => (repeat (first | exact List.forall_mem_nil _ | refine List.forall_mem_cons.mpr ⟨by first | (with_reducible exact Mine.le5 (Mine.ReprAs.len (by assumption))) | (with_reducible exact Mine.line_len (by assumption) (by assumption)) | decide +kernel, ?_⟩))); (case jn => exact Nat.le_of_ble_eq_true rfl)); intro _ _; (try simp only [Mine.catS]))
  k_with "setAttr ref" => (k_here; k_dflt (refine' Mine.set_newK ?k1 ?k2 ?k3 ?k4 ?k5 ?k6 ?_; (case k1 => k_asm); (case k2 => k_asm); (case k3 => k_asm); (case k6 => (intro dx'; k_upd)); (case k4 => first | (with_reducible assumption) | exact Mine.xc60 _ rfl); (case k5 => k_is); k_whole; intro d' h' F' N' l1; (try dsimp only at N'); (try k_lt l1); (try k_sweep)))
  k_with "setAttr ref" => (k_here; k_dflt (refine' Mine.set_dictK ?k1 ?k2 ?k3 ?k4 ?k5 ?k6 ?k7 ?k10 ?k11 ?k12 ?k13 ?_; (case k1 => k_asm); (case k2 => k_asm); (case k3 => k_asm); (case k4 => (refine' Mine.instX ?N ?h1 ?h2; (case N => k_asm); (case h1 => k_mem); (case h2 => k_mem))); (case k5 => exact rfl); (case k6 => first | (with_reducible assumption) | exact Mine.xc60 _ rfl); (case k7 => k_is); (case k10 => k_get); (case k11 => k_put); (case k12 => k_upd); (case k13 => exact Nat.le_of_ble_eq_true rfl); k_whole; intro h' F' N'; (try k_sweep)))
  k_with "setAttr ref" => (k_here; (with_reducible show wpAny _ _ (setAttr (Value.ref _) (PySem.Str.ofString "args") (Value.ref _)) _ _ _); k_dflt (refine' Mine.set_argsK ?k1 ?k2 ?k3 ?k4 ?k5 ?k6 ?k7 ?k8 ?_; (case k1 => k_asm); (case k2 => k_asm); (case k3 => k_asm); (case k4 => (refine' Mine.instX ?N ?h1 ?h2; (case N => k_asm); (case h1 => k_mem); (case h2 => k_mem))); (case k5 => first | (with_reducible assumption) | exact Mine.xc60 _ rfl); (case k6 => k_is); (case k7 => exact News.isTup (by k_asm) (by k_mem)); (case k8 => k_upd); k_whole; intro h' F' N'; (try k_sweep)))
  k_with "getAttr ref" => (k_here; k_dflt (refine' Mine.get_ownX ?k1 ?k2 ?k3 ?k4 ?k5 ?k6 ?k7 ?k8 ?_; (case k1 => k_asm); (case k2 => k_asm); (case k3 => (refine' Mine.instX ?N ?h1 ?h2; (case N => k_asm); (case h1 => k_mem); (case h2 => k_mem))); (case k4 => first | (with_reducible assumption) | exact Mine.xc60 _ rfl); (case k5 => k_is); (case k6 => k_is); (case k7 => k_get); (case k8 => first | k_handed | with_reducible assumption); k_whole))
  k_with "getAttr ref" => (k_here; (with_reducible show wpAny _ _ (getAttr (Value.ref _) (PySem.Str.ofString "args") _) _ _ _); k_dflt (refine' Mine.get_argsX ?k1 ?k2 ?k3 ?k4 ?k5 ?k6 ?k7 ?_; (case k1 => k_asm); (case k2 => k_asm); (case k3 => (refine' Mine.instX ?N ?h1 ?h2; (case N => k_asm); (case h1 => k_mem); (case h2 => k_mem))); (case k4 => first | (with_reducible assumption) | exact Mine.xc60 _ rfl); (case k5 => k_is); (case k6 => k_is); (case k7 => k_is); k_whole))
  k_with "ite" => (k_here; (first | refine Mine.ite_ff ?_ | refine Mine.ite_tt ?_))
  k_with "call ref" => (k_here; (with_reducible show wpAny _ _ (call (Value.ref 69) _) _ _ _); k_dflt (refine' Mine.figures_T _ _ _ _ _ _ _ _ _ _ _ _ _ _ _ _ _ _ _ _ _ _ _ _ _ _ _ ?kB ?kF ?kX ?kT ?kk ?kd ?ku ?n1 ?n2 ?_; (case kB => k_asm); (case kF => k_asm); (case kX => k_asm); (case kT => k_asm); (case kk => first | exact rfl | assumption); (case kd => ktr_room); (case ku => ktr_units); (case n1 => assumption); (case n2 => assumption); k_whole); intro t' h' tk' hk' F'; (have N' := Mine.news_kept hk' (by k_asm)); (clear hk'); (try dsimp only))
  k_fill
  intro w n t hn1 hn2 loose mean mg mb dp un cn cs a ccd cl outer A₀ base h₀ L m h g d tk os Q E B F X T hk hd hu N hret
  refine wpAny_call ?_
  (refine' Mine.code_defG ?k1 ?k2 ?k3 ?k4 ?k5 ?kA ?kF ?kK ?k6 ?k7 ?k8 ?k9 ?kB ?_ ?c2 ?c3 ?c4 ?c5)
  (case kA => exact rfl)
  (case kF => exact rfl)
  (case kK => first | exact rfl | assumption)
  (case k1 => k_asm)
  (case k2 => k_asm)
  (case k3 => k_asm)
  (case k4 => exact N)
  (case k5 => k_asm)
  (case k6 => k_is)
  (case k7 => k_is)
  (case k8 => ktr_room)
  (case k9 => first | exact BindsTo.of_eq rfl | exact binds_K (by k_in) rfl (by k_is) rfl rfl rfl | fail "no rule for these arguments")
  (case c5 => decide)
  (case kB => exact locs rfl)
  (case c2 => exact rfl)
  (case c3 => exact rfl)
  (case c4 => exact rfl)
  intro g1 L1 h2 tk2 hg1 FG1 F2 N2 B2 X2 T2 l2
  (try k_lt l2)
  (try k_lift B2)
  (try k_fold)
  k_steps
  all_goals (exact hret _ _ _ (keep_0 hg1 (by k_asm)) (by k_asm))
theorem says_int : ∀ (w : World) (n : Int) (t : Tok), -(10 ^ 12) < n → n < 10 ^ 12 → Says w [] 10 160 (.int n t) (itext n) := says_int'
set_option rowWalk.seconds 0 in
set_option maxRecDepth 100000 in
set_option maxHeartbeats 16000000 in
theorem says_str' : ∀ (w : World) (x : PySem.Str) (t : Tok) (r : PySem.Str), x.length ≤ 100 → quoted x = r → ∀ (loose : List PySem.Str) (mean : ExcName → Option Value) (mg mb : PySem.Str → Option Value) (dp un : Nat) (cn : PySem.Str) (cs : Scope) (a : Addr) (ccd : Value) (cl : List (PySem.Str × Addr)) (outer : List Env) (A₀ : Around) (base h₀ : Heap) (L : Addr) (m : PySem.Str → Option Value) (h : Heap) (g : Array GenState) (d : Drawn) (tk : Nat) (os : OsState) (Q E : Value → Shared → Prop), Below A₀ base outer h₀ → Fr h₀ L h m → (Mine.hd.heap_39 w.params).In h₀ → Top Mine.hd.view_39 loose mean mg mb h₀ → cs.kind = .function → dp + 10 < recursionLimit → un + 160 < cLine → News h₀ L h [] →
    (∀ t h' tk', (∀ b o, h.get? b = some o → h'.get? b = some o) → Fr h₀ L h' m → Q (.str (r) t) ⟨h', g, d, tk', os⟩) →
    wpAny (model PySem.Challenge.rw_dm0029_02.row.prog w) (ktrTop dp un (some []) cn cs L a ccd cl outer) (call (.ref 74) [.str x t]) Q E ⟨h, g, d, tk, os⟩ := by
  k_with_none
  k_with "ne" => (first | exact Mine.ne_l1 (by assumption) | exact Mine.ne_l1' (by assumption) | exact Mine.ne_r1 (by assumption) | exact Mine.ne_r1' (by assumption) | exact Mine.ne_l2 (by assumption) | exact Mine.ne_l2' (by assumption) | exact Mine.ne_r2 (by assumption) | exact Mine.ne_r2' (by assumption) | exact Mine.ne_l3 (by assumption) | exact Mine.ne_l3' (by assumption) | exact Mine.ne_r3 (by assumption) | exact Mine.ne_r3' (by assumption) | exact Mine.ne_l4 (by assumption) | exact Mine.ne_l4' (by assumption) | exact Mine.ne_r4 (by assumption) | exact Mine.ne_r4' (by assumption) | exact Mine.ne_l5 (by assumption) | exact Mine.ne_l5' (by assumption) | exact Mine.ne_r5 (by assumption) | exact Mine.ne_r5' (by assumption) | exact Mine.ne_l6 (by assumption) | exact Mine.ne_l6' (by assumption) | exact Mine.ne_r6 (by assumption) | exact Mine.ne_r6' (by assumption) | exact Mine.ne_l7 (by assumption) | exact Mine.ne_l7' (by assumption) | exact Mine.ne_r7 (by assumption) | exact Mine.ne_r7' (by assumption) | exact Mine.ne_l8 (by assumption) | exact Mine.ne_l8' (by assumption) | exact Mine.ne_r8 (by assumption) | exact Mine.ne_r8' (by assumption) | exact Mine.ne_l9 (by assumption) | exact Mine.ne_l9' (by assumption) | exact Mine.ne_r9 (by assumption) | exact Mine.ne_r9' (by assumption))
  k_with "exec For Name BinOp cons nil" => (k_here; (rename Fr _ _ _ _ => lF'); (with_unfolding_all refine' For_invVF lF' ?k1 ?k2 ?_; (case k1 => exact rfl); (case k2 => exact rfl); k_whole))
  k_with "call ref" => (k_here; k_dflt ((refine wpAny_call ?_); (refine' Mine.code_defG ?k1 ?k2 ?k3 ?k4 ?k5 ?kA ?kF ?kK ?k6 ?k7 ?k8 ?k9 ?kB ?_ ?c2 ?c3 ?c4 ?c5); (case kA => exact rfl); (case kF => exact rfl); (case kK => first | exact rfl | assumption); (case k1 => k_asm); (case k2 => k_asm); (case k3 => k_asm); (case k4 => k_asm); (case k5 => k_asm); (case k6 => k_is); (case k7 => k_is); (case k8 => ktr_room); (case k9 => first | exact BindsTo.of_eq rfl | exact binds_K (by k_in) rfl (by k_is) rfl rfl rfl | fail "no rule for these arguments"); (case c5 => decide); (case kB => exact locs rfl); (case c2 => exact rfl); (case c3 => exact rfl); (case c4 => exact rfl); k_whole; intro g' L' h' tk' hg' FG' F' N' B' X' T' l'; (clear hg'); (try k_lt l'); (try dsimp only); (try k_lift B'); (try k_fold)))
  k_with "call builtin:repr" => (k_here; (with_reducible show wpAny _ _ (call (Value.builtin "repr") [_]) _ _ _); k_dflt ((refine' Mine.ReprAs.run ?r0 ?rF ?rN ?rk ?ru ?rg ?_); (case r0 => with_reducible assumption); (case rF => k_asm); (case rN => k_asm); (case rk => first | exact (fun b o e => (Mine.keep_X (by with_reducible assumption) (by with_reducible assumption) (by with_reducible assumption) (by with_reducible assumption) b o e).1) | exact (fun _ _ e => Fr.keep (by with_reducible assumption) _ _ (Fr.keep (by with_reducible assumption) _ _ e)) | exact (fun _ _ e => Fr.keep (by with_reducible assumption) _ _ e)); (case ru => ((try simp only [units_deeper, units_in1, units_under_make, Mine.units_under_kw]); ktr_units)); (case rg => exact rfl); k_whole; intro t' k' h' F' N'))
  k_with "compareOp IsNot" => (k_here; (with_reducible show wpAny _ _ (compareOp CmpOp.IsNot _ Value.none) _ _ _); refine Mine.isNot_none' (by with_reducible assumption) ?_)
  k_with "compareOp Is" => (k_here; (with_reducible show wpAny _ _ (compareOp CmpOp.Is _ Value.none) _ _ _); refine Mine.is_none' (by with_reducible assumption) ?_)
  k_with "getMethod type:Exception" => (k_here; refine' method_type ?F ?X ?m (by decide +kernel) ?e ?h ?_; (case F => k_asm); (case X => k_asm); (case m => kernel_rfl); (case e => k_dflt k_is); (case h => k_handed))
  k_with "call builtin:Exception.__init__" => (k_here; k_dflt (refine' Mine.init_K ?k1 ?k2 ?k3 ?k4 ?k5 ?k6 ?_; (case k1 => k_asm); (case k2 => k_asm); (case k3 => k_asm); (case k6 => (intro tx'; k_upd)); (case k4 => first | (with_reducible assumption) | exact Mine.xc60 _ rfl); (case k5 => exact Nat.le_of_ble_eq_true rfl); k_whole); intro t' h' F' N' l1; (try dsimp only at N'); (try k_lt l1); (try k_sweep))
  k_with "call builtin:str.format" => (k_here; (with_reducible show wpAny _ _ (call (Value.builtin "str.format") [Value.str _ _, Value.int _ _]) _ _ _); (refine Mine.line_2d (by assumption) (by assumption) ?_); intro _ _)
  k_with "call builtin:str.join" => (k_here; (with_reducible show wpAny _ _ (call (Value.builtin "str.join") [Value.str _ _, Value.ref _]) _ _ _); k_dflt (refine' Mine.join_cat ?jN ?jm ?ji ?jB ?jn ?_; (case jN => k_asm); (case jm => k_mem); (case ji => repeat (first | exact PyProof.Rows.StrsAre.nil | apply PyProof.Rows.StrsAre.cons)); (case jB => (repeat (first | exact List.forall_mem_nil _ | refine List.forall_mem_cons.mpr ⟨by first | (with_reducible exact Mine.le5 (Mine.ReprAs.len (by assumption))) | (with_reducible exact Mine.line_len (by assumption) (by assumption)) | decide +kernel, ?_⟩))); (case jn => exact Nat.le_of_ble_eq_true rfl)); intro _ _; (try simp only [Mine.catS]))
  k_with "setAttr ref" => (k_here; k_dflt (refine' Mine.set_newK ?k1 ?k2 ?k3 ?k4 ?k5 ?k6 ?_; (case k1 => k_asm); (case k2 => k_asm); (case k3 => k_asm); (case k6 => (intro dx'; k_upd)); (case k4 => first | (with_reducible assumption) | exact Mine.xc60 _ rfl); (case k5 => k_is); k_whole; intro d' h' F' N' l1; (try dsimp only at N'); (try k_lt l1); (try k_sweep)))
  k_with "setAttr ref" => (k_here; k_dflt (refine' Mine.set_dictK ?k1 ?k2 ?k3 ?k4 ?k5 ?k6 ?k7 ?k10 ?k11 ?k12 ?k13 ?_; (case k1 => k_asm); (case k2 => k_asm); (case k3 => k_asm); (case k4 => (refine' Mine.instX ?N ?h1 ?h2; (case N => k_asm); (case h1 => k_mem); (case h2 => k_mem))); (case k5 => exact rfl); (case k6 => first | (with_reducible assumption) | exact Mine.xc60 _ rfl); (case k7 => k_is); (case k10 => k_get); (case k11 => k_put); (case k12 => k_upd); (case k13 => exact Nat.le_of_ble_eq_true rfl); k_whole; intro h' F' N'; (try k_sweep)))
  k_with "setAttr ref" => (k_here; (with_reducible show wpAny _ _ (setAttr (Value.ref _) (PySem.Str.ofString "args") (Value.ref _)) _ _ _); k_dflt (refine' Mine.set_argsK ?k1 ?k2 ?k3 ?k4 ?k5 ?k6 ?k7 ?k8 ?_; (case k1 => k_asm); (case k2 => k_asm); (case k3 => k_asm); (case k4 => (refine' Mine.instX ?N ?h1 ?h2; (case N => k_asm); (case h1 => k_mem); (case h2 => k_mem))); (case k5 => first | (with_reducible assumption) | exact Mine.xc60 _ rfl); (case k6 => k_is); (case k7 => exact News.isTup (by k_asm) (by k_mem)); (case k8 => k_upd); k_whole; intro h' F' N'; (try k_sweep)))
  k_with "getAttr ref" => (k_here; k_dflt (refine' Mine.get_ownX ?k1 ?k2 ?k3 ?k4 ?k5 ?k6 ?k7 ?k8 ?_; (case k1 => k_asm); (case k2 => k_asm); (case k3 => (refine' Mine.instX ?N ?h1 ?h2; (case N => k_asm); (case h1 => k_mem); (case h2 => k_mem))); (case k4 => first | (with_reducible assumption) | exact Mine.xc60 _ rfl); (case k5 => k_is); (case k6 => k_is); (case k7 => k_get); (case k8 => first | k_handed | with_reducible assumption); k_whole))
  k_with "getAttr ref" => (k_here; (with_reducible show wpAny _ _ (getAttr (Value.ref _) (PySem.Str.ofString "args") _) _ _ _); k_dflt (refine' Mine.get_argsX ?k1 ?k2 ?k3 ?k4 ?k5 ?k6 ?k7 ?_; (case k1 => k_asm); (case k2 => k_asm); (case k3 => (refine' Mine.instX ?N ?h1 ?h2; (case N => k_asm); (case h1 => k_mem); (case h2 => k_mem))); (case k4 => first | (with_reducible assumption) | exact Mine.xc60 _ rfl); (case k5 => k_is); (case k6 => k_is); (case k7 => k_is); k_whole))
  k_with "ite" => (k_here; (first | refine Mine.ite_ff ?_ | refine Mine.ite_tt ?_))
  k_with "call ref" => (k_here; (with_reducible show wpAny _ _ (call (Value.ref 69) _) _ _ _); k_dflt (refine' Mine.figures_T _ _ _ _ _ _ _ _ _ _ _ _ _ _ _ _ _ _ _ _ _ _ _ _ _ _ _ ?kB ?kF ?kX ?kT ?kk ?kd ?ku ?n1 ?n2 ?_; (case kB => k_asm); (case kF => k_asm); (case kX => k_asm); (case kT => k_asm); (case kk => first | exact rfl | assumption); (case kd => ktr_room); (case ku => ktr_units); (case n1 => assumption); (case n2 => assumption); k_whole); intro t' h' tk' hk' F'; (have N' := Mine.news_kept hk' (by k_asm)); (clear hk'); (try dsimp only))
  k_fill
  intro w x t r hx hq loose mean mg mb dp un cn cs a ccd cl outer A₀ base h₀ L m h g d tk os Q E B F X T hk hd hu N hret
  refine wpAny_call ?_
  (refine' Mine.code_defG ?k1 ?k2 ?k3 ?k4 ?k5 ?kA ?kF ?kK ?k6 ?k7 ?k8 ?k9 ?kB ?_ ?c2 ?c3 ?c4 ?c5)
  (case kA => exact rfl)
  (case kF => exact rfl)
  (case kK => first | exact rfl | assumption)
  (case k1 => k_asm)
  (case k2 => k_asm)
  (case k3 => k_asm)
  (case k4 => exact N)
  (case k5 => k_asm)
  (case k6 => k_is)
  (case k7 => k_is)
  (case k8 => ktr_room)
  (case k9 => first | exact BindsTo.of_eq rfl | exact binds_K (by k_in) rfl (by k_is) rfl rfl rfl | fail "no rule for these arguments")
  (case c5 => decide)
  (case kB => exact locs rfl)
  (case c2 => exact rfl)
  (case c3 => exact rfl)
  (case c4 => exact rfl)
  intro g1 L1 h2 tk2 hg1 FG1 F2 N2 B2 X2 T2 l2
  (try k_lt l2)
  (try k_lift B2)
  (try k_fold)
  k_steps
  · rw [show _ = r from (if_pos (by assumption)).symm.trans hq]
    (exact hret _ _ _ (keep_0 hg1 (by k_asm)) (by k_asm))
  · rw [show _ = r from (if_neg (not_of_false (by assumption))).symm.trans hq]
    (exact hret _ _ _ (keep_0 hg1 (by k_asm)) (by k_asm))
theorem says_str : ∀ (w : World) (x : PySem.Str) (t : Tok) (r : PySem.Str), x.length ≤ 100 → quoted x = r → Says w [] 10 160 (.str x t) (r) := says_str'
local macro_rules | `(tactic| walk_at "CompEnd") => `(tactic| k_extra "CompEnd")
local macro_rules | `(tactic| kt_len) => `(tactic| (with_reducible exact Mine.join1_len (by with_reducible assumption)))
local macro_rules | `(tactic| kt_len) => `(tactic| (with_reducible exact Mine.join2_len (by with_reducible assumption) (by with_reducible assumption)))
local macro_rules | `(tactic| kt_len) => `(tactic| (with_reducible exact Mine.join3_len (by with_reducible assumption) (by with_reducible assumption) (by with_reducible assumption)))
set_option rowWalk.seconds 0 in
set_option maxRecDepth 100000 in
set_option maxHeartbeats 16000000 in
theorem says_lst0' : ∀ (w : World) (a9 : Addr) (k : Nat),  ∀ (loose : List PySem.Str) (mean : ExcName → Option Value) (mg mb : PySem.Str → Option Value) (dp un : Nat) (cn : PySem.Str) (cs : Scope) (a : Addr) (ccd : Value) (cl : List (PySem.Str × Addr)) (outer : List Env) (A₀ : Around) (base h₀ : Heap) (L : Addr) (m : PySem.Str → Option Value) (h : Heap) (g : Array GenState) (d : Drawn) (tk : Nat) (os : OsState) (Q E : Value → Shared → Prop), Below A₀ base outer h₀ → Fr h₀ L h m → (Mine.hd.heap_39 w.params).In h₀ → Top Mine.hd.view_39 loose mean mg mb h₀ → cs.kind = .function → dp + 18 < recursionLimit → un + 320 < cLine → News h₀ L h [(a9, W.listOf #[] k)] →
    (∀ t h' tk', (∀ b o, h.get? b = some o → h'.get? b = some o) → Fr h₀ L h' m → Q (.str (PySem.Str.ofString "[]") t) ⟨h', g, d, tk', os⟩) →
    wpAny (model PySem.Challenge.rw_dm0029_02.row.prog w) (ktrTop dp un (some []) cn cs L a ccd cl outer) (call (.ref 74) [.ref a9]) Q E ⟨h, g, d, tk, os⟩ := by
  k_with_none
  k_with "ne" => (first | exact Mine.ne_l1 (by assumption) | exact Mine.ne_l1' (by assumption) | exact Mine.ne_r1 (by assumption) | exact Mine.ne_r1' (by assumption) | exact Mine.ne_l2 (by assumption) | exact Mine.ne_l2' (by assumption) | exact Mine.ne_r2 (by assumption) | exact Mine.ne_r2' (by assumption) | exact Mine.ne_l3 (by assumption) | exact Mine.ne_l3' (by assumption) | exact Mine.ne_r3 (by assumption) | exact Mine.ne_r3' (by assumption) | exact Mine.ne_l4 (by assumption) | exact Mine.ne_l4' (by assumption) | exact Mine.ne_r4 (by assumption) | exact Mine.ne_r4' (by assumption) | exact Mine.ne_l5 (by assumption) | exact Mine.ne_l5' (by assumption) | exact Mine.ne_r5 (by assumption) | exact Mine.ne_r5' (by assumption) | exact Mine.ne_l6 (by assumption) | exact Mine.ne_l6' (by assumption) | exact Mine.ne_r6 (by assumption) | exact Mine.ne_r6' (by assumption) | exact Mine.ne_l7 (by assumption) | exact Mine.ne_l7' (by assumption) | exact Mine.ne_r7 (by assumption) | exact Mine.ne_r7' (by assumption) | exact Mine.ne_l8 (by assumption) | exact Mine.ne_l8' (by assumption) | exact Mine.ne_r8 (by assumption) | exact Mine.ne_r8' (by assumption) | exact Mine.ne_l9 (by assumption) | exact Mine.ne_l9' (by assumption) | exact Mine.ne_r9 (by assumption) | exact Mine.ne_r9' (by assumption))
  k_with "exec For Name BinOp cons nil" => (k_here; (rename Fr _ _ _ _ => lF'); (with_unfolding_all refine' For_invVF lF' ?k1 ?k2 ?_; (case k1 => exact rfl); (case k2 => exact rfl); k_whole))
  k_with "call ref" => (k_here; (fail_if_success (with_reducible show wpAny _ _ (call (Value.ref 74) _) _ _ _)); k_dflt ((refine wpAny_call ?_); (refine' Mine.code_defG ?k1 ?k2 ?k3 ?k4 ?k5 ?kA ?kF ?kK ?k6 ?k7 ?k8 ?k9 ?kB ?_ ?c2 ?c3 ?c4 ?c5); (case kA => exact rfl); (case kF => exact rfl); (case kK => first | exact rfl | assumption); (case k1 => k_asm); (case k2 => k_asm); (case k3 => k_asm); (case k4 => k_asm); (case k5 => k_asm); (case k6 => k_is); (case k7 => k_is); (case k8 => ktr_room); (case k9 => first | exact BindsTo.of_eq rfl | exact binds_K (by k_in) rfl (by k_is) rfl rfl rfl | fail "no rule for these arguments"); (case c5 => decide); (case kB => exact locs rfl); (case c2 => exact rfl); (case c3 => exact rfl); (case c4 => exact rfl); k_whole; intro g' L' h' tk' hg' FG' F' N' B' X' T' l'; (clear hg'); (try k_lt l'); (try dsimp only); (try k_lift B'); (try k_fold)))
  k_with "call builtin:repr" => (k_here; (with_reducible show wpAny _ _ (call (Value.builtin "repr") [_]) _ _ _); k_dflt ((refine' Mine.ReprAs.run ?r0 ?rF ?rN ?rk ?ru ?rg ?_); (case r0 => with_reducible assumption); (case rF => k_asm); (case rN => k_asm); (case rk => first | exact (fun b o e => (Mine.keep_X (by with_reducible assumption) (by with_reducible assumption) (by with_reducible assumption) (by with_reducible assumption) b o e).1) | exact (fun _ _ e => Fr.keep (by with_reducible assumption) _ _ (Fr.keep (by with_reducible assumption) _ _ e)) | exact (fun _ _ e => Fr.keep (by with_reducible assumption) _ _ e)); (case ru => ((try simp only [units_deeper, units_in1, units_under_make, Mine.units_under_kw]); ktr_units)); (case rg => exact rfl); k_whole; intro t' k' h' F' N'))
  k_with "compareOp IsNot" => (k_here; (with_reducible show wpAny _ _ (compareOp CmpOp.IsNot _ Value.none) _ _ _); refine Mine.isNot_none' (by with_reducible assumption) ?_)
  k_with "compareOp Is" => (k_here; (with_reducible show wpAny _ _ (compareOp CmpOp.Is _ Value.none) _ _ _); refine Mine.is_none' (by with_reducible assumption) ?_)
  k_with "getMethod type:Exception" => (k_here; refine' method_type ?F ?X ?m (by decide +kernel) ?e ?h ?_; (case F => k_asm); (case X => k_asm); (case m => kernel_rfl); (case e => k_dflt k_is); (case h => k_handed))
  k_with "call builtin:Exception.__init__" => (k_here; k_dflt (refine' Mine.init_K ?k1 ?k2 ?k3 ?k4 ?k5 ?k6 ?_; (case k1 => k_asm); (case k2 => k_asm); (case k3 => k_asm); (case k6 => (intro tx'; k_upd)); (case k4 => first | (with_reducible assumption) | exact Mine.xc60 _ rfl); (case k5 => exact Nat.le_of_ble_eq_true rfl); k_whole); intro t' h' F' N' l1; (try dsimp only at N'); (try k_lt l1); (try k_sweep))
  k_with "call builtin:str.format" => (k_here; (with_reducible show wpAny _ _ (call (Value.builtin "str.format") [Value.str _ _, Value.int _ _]) _ _ _); (refine Mine.line_2d (by assumption) (by assumption) ?_); intro _ _)
  k_with "call builtin:str.join" => (k_here; (with_reducible show wpAny _ _ (call (Value.builtin "str.join") [Value.str _ _, Value.ref _]) _ _ _); k_dflt (refine' Mine.join_cat ?jN ?jm ?ji ?jB ?jn ?_; (case jN => k_asm); (case jm => k_mem); (case ji => repeat (first | exact PyProof.Rows.StrsAre.nil | apply PyProof.Rows.StrsAre.cons)); (case jB => (repeat (first | exact List.forall_mem_nil _ | refine List.forall_mem_cons.mpr ⟨by first | (with_reducible exact Mine.le5 (Mine.ReprAs.len (by assumption))) | (with_reducible exact Mine.line_len (by assumption) (by assumption)) | decide +kernel, ?_⟩))); (case jn => exact Nat.le_of_ble_eq_true rfl)); intro _ _; (try simp only [Mine.catS]))
  k_with "setAttr ref" => (k_here; k_dflt (refine' Mine.set_newK ?k1 ?k2 ?k3 ?k4 ?k5 ?k6 ?_; (case k1 => k_asm); (case k2 => k_asm); (case k3 => k_asm); (case k6 => (intro dx'; k_upd)); (case k4 => first | (with_reducible assumption) | exact Mine.xc60 _ rfl); (case k5 => k_is); k_whole; intro d' h' F' N' l1; (try dsimp only at N'); (try k_lt l1); (try k_sweep)))
  k_with "setAttr ref" => (k_here; k_dflt (refine' Mine.set_dictK ?k1 ?k2 ?k3 ?k4 ?k5 ?k6 ?k7 ?k10 ?k11 ?k12 ?k13 ?_; (case k1 => k_asm); (case k2 => k_asm); (case k3 => k_asm); (case k4 => (refine' Mine.instX ?N ?h1 ?h2; (case N => k_asm); (case h1 => k_mem); (case h2 => k_mem))); (case k5 => exact rfl); (case k6 => first | (with_reducible assumption) | exact Mine.xc60 _ rfl); (case k7 => k_is); (case k10 => k_get); (case k11 => k_put); (case k12 => k_upd); (case k13 => exact Nat.le_of_ble_eq_true rfl); k_whole; intro h' F' N'; (try k_sweep)))
  k_with "setAttr ref" => (k_here; (with_reducible show wpAny _ _ (setAttr (Value.ref _) (PySem.Str.ofString "args") (Value.ref _)) _ _ _); k_dflt (refine' Mine.set_argsK ?k1 ?k2 ?k3 ?k4 ?k5 ?k6 ?k7 ?k8 ?_; (case k1 => k_asm); (case k2 => k_asm); (case k3 => k_asm); (case k4 => (refine' Mine.instX ?N ?h1 ?h2; (case N => k_asm); (case h1 => k_mem); (case h2 => k_mem))); (case k5 => first | (with_reducible assumption) | exact Mine.xc60 _ rfl); (case k6 => k_is); (case k7 => exact News.isTup (by k_asm) (by k_mem)); (case k8 => k_upd); k_whole; intro h' F' N'; (try k_sweep)))
  k_with "getAttr ref" => (k_here; k_dflt (refine' Mine.get_ownX ?k1 ?k2 ?k3 ?k4 ?k5 ?k6 ?k7 ?k8 ?_; (case k1 => k_asm); (case k2 => k_asm); (case k3 => (refine' Mine.instX ?N ?h1 ?h2; (case N => k_asm); (case h1 => k_mem); (case h2 => k_mem))); (case k4 => first | (with_reducible assumption) | exact Mine.xc60 _ rfl); (case k5 => k_is); (case k6 => k_is); (case k7 => k_get); (case k8 => first | k_handed | with_reducible assumption); k_whole))
  k_with "getAttr ref" => (k_here; (with_reducible show wpAny _ _ (getAttr (Value.ref _) (PySem.Str.ofString "args") _) _ _ _); k_dflt (refine' Mine.get_argsX ?k1 ?k2 ?k3 ?k4 ?k5 ?k6 ?k7 ?_; (case k1 => k_asm); (case k2 => k_asm); (case k3 => (refine' Mine.instX ?N ?h1 ?h2; (case N => k_asm); (case h1 => k_mem); (case h2 => k_mem))); (case k4 => first | (with_reducible assumption) | exact Mine.xc60 _ rfl); (case k5 => k_is); (case k6 => k_is); (case k7 => k_is); k_whole))
  k_with "call ref" => (k_here; (with_reducible show wpAny _ _ (call (Value.ref 74) [_]) _ _ _); k_dflt (refine' Mine.Says.go ?hs _ _ _ _ _ _ _ _ _ _ _ _ _ _ _ _ _ _ _ _ _ _ _ _ ?kB ?kF ?kX ?kT ?kk ?kd ?ku ?hN ?_; (case hs => with_reducible assumption); (case kB => k_asm); (case kF => k_asm); (case kX => k_asm); (case kT => k_asm); (case kk => first | exact rfl | assumption); (case kd => ktr_room); (case ku => ktr_units); (case hN => ((refine' Mine.news_of ?hN1 ?hN2); (case hN1 => k_asm); (case hN2 => (repeat (first | exact List.forall_mem_nil _ | refine List.forall_mem_cons.mpr ⟨by k_mem, ?_⟩))))); k_whole); intro t' h' tk' hk' F'; (have N' := Mine.news_kept hk' (by k_asm)); (clear hk'); (try dsimp only))
  k_with "ite" => (k_here; (first | refine Mine.ite_ff ?_ | refine Mine.ite_tt ?_))
  k_with "CompEnd" => (k_here; (k_dflt ((refine' Mine.CompEnd.keep ?f ?n ?o ?s ?_); (case f => k_asm); (case n => k_asm); (case o => ((simp only [LCg.Off3, and_true]); (first | assumption | trivial))); (case s => k_mem))))
  k_fill
  intro w a9 k loose mean mg mb dp un cn cs a ccd cl outer A₀ base h₀ L m h g d tk os Q E B F X T hk hd hu N hret
  refine wpAny_call ?_
  (refine' Mine.code_defG ?k1 ?k2 ?k3 ?k4 ?k5 ?kA ?kF ?kK ?k6 ?k7 ?k8 ?k9 ?kB ?_ ?c2 ?c3 ?c4 ?c5)
  (case kA => exact rfl)
  (case kF => exact rfl)
  (case kK => first | exact rfl | assumption)
  (case k1 => k_asm)
  (case k2 => k_asm)
  (case k3 => k_asm)
  (case k4 => exact N)
  (case k5 => k_asm)
  (case k6 => k_is)
  (case k7 => k_is)
  (case k8 => ktr_room)
  (case k9 => first | exact BindsTo.of_eq rfl | exact binds_K (by k_in) rfl (by k_is) rfl rfl rfl | fail "no rule for these arguments")
  (case c5 => decide)
  (case kB => exact locs rfl)
  (case c2 => exact rfl)
  (case c3 => exact rfl)
  (case c4 => exact rfl)
  intro g1 L1 h2 tk2 hg1 FG1 F2 N2 B2 X2 T2 l2
  (try k_lt l2)
  (try k_lift B2)
  (try k_fold)
  k_steps
  (first | rw [Mine.tup0_is] | rw [Mine.lst0_is] | rw [Mine.tup1_is] | rw [Mine.tup2_is] | rw [Mine.tup3_is])
  all_goals (exact hret _ _ _ (keep_N hg1 N (by k_asm) (by k_asm) (fun p hp => List.mem_cons_of_mem _ hp)) (by k_asm))
theorem says_lst0 : ∀ (w : World) (a9 : Addr) (k : Nat),  Says w [(a9, W.listOf #[] k)] 18 320 (.ref a9) (PySem.Str.ofString "[]") := says_lst0'
local macro_rules | `(tactic| walk_at "eval ListComp") => `(tactic| k_extra "eval ListComp")
local macro_rules | `(tactic| walk_at "SrcT") => `(tactic| k_extra "SrcT")
local macro_rules | `(tactic| lcg_src) => `(tactic| k_mem)
set_option rowWalk.seconds 0 in
set_option maxRecDepth 100000 in
set_option maxHeartbeats 16000000 in
theorem says_tup0' : ∀ (w : World) (a9 : Addr) (k : Nat),  ∀ (loose : List PySem.Str) (mean : ExcName → Option Value) (mg mb : PySem.Str → Option Value) (dp un : Nat) (cn : PySem.Str) (cs : Scope) (a : Addr) (ccd : Value) (cl : List (PySem.Str × Addr)) (outer : List Env) (A₀ : Around) (base h₀ : Heap) (L : Addr) (m : PySem.Str → Option Value) (h : Heap) (g : Array GenState) (d : Drawn) (tk : Nat) (os : OsState) (Q E : Value → Shared → Prop), Below A₀ base outer h₀ → Fr h₀ L h m → (Mine.hd.heap_39 w.params).In h₀ → Top Mine.hd.view_39 loose mean mg mb h₀ → cs.kind = .function → dp + 18 < recursionLimit → un + 320 < cLine → News h₀ L h [(a9, ({ cls := .type "tuple", data := .seq ([] : List Value).toArray k } : Obj))] →
    (∀ t h' tk', (∀ b o, h.get? b = some o → h'.get? b = some o) → Fr h₀ L h' m → Q (.str (PySem.Str.ofString "()") t) ⟨h', g, d, tk', os⟩) →
    wpAny (model PySem.Challenge.rw_dm0029_02.row.prog w) (ktrTop dp un (some []) cn cs L a ccd cl outer) (call (.ref 74) [.ref a9]) Q E ⟨h, g, d, tk, os⟩ := by
  k_with_none
  k_with "ne" => (first | exact Mine.ne_l1 (by assumption) | exact Mine.ne_l1' (by assumption) | exact Mine.ne_r1 (by assumption) | exact Mine.ne_r1' (by assumption) | exact Mine.ne_l2 (by assumption) | exact Mine.ne_l2' (by assumption) | exact Mine.ne_r2 (by assumption) | exact Mine.ne_r2' (by assumption) | exact Mine.ne_l3 (by assumption) | exact Mine.ne_l3' (by assumption) | exact Mine.ne_r3 (by assumption) | exact Mine.ne_r3' (by assumption) | exact Mine.ne_l4 (by assumption) | exact Mine.ne_l4' (by assumption) | exact Mine.ne_r4 (by assumption) | exact Mine.ne_r4' (by assumption) | exact Mine.ne_l5 (by assumption) | exact Mine.ne_l5' (by assumption) | exact Mine.ne_r5 (by assumption) | exact Mine.ne_r5' (by assumption) | exact Mine.ne_l6 (by assumption) | exact Mine.ne_l6' (by assumption) | exact Mine.ne_r6 (by assumption) | exact Mine.ne_r6' (by assumption) | exact Mine.ne_l7 (by assumption) | exact Mine.ne_l7' (by assumption) | exact Mine.ne_r7 (by assumption) | exact Mine.ne_r7' (by assumption) | exact Mine.ne_l8 (by assumption) | exact Mine.ne_l8' (by assumption) | exact Mine.ne_r8 (by assumption) | exact Mine.ne_r8' (by assumption) | exact Mine.ne_l9 (by assumption) | exact Mine.ne_l9' (by assumption) | exact Mine.ne_r9 (by assumption) | exact Mine.ne_r9' (by assumption))
  k_with "exec For Name BinOp cons nil" => (k_here; (rename Fr _ _ _ _ => lF'); (with_unfolding_all refine' For_invVF lF' ?k1 ?k2 ?_; (case k1 => exact rfl); (case k2 => exact rfl); k_whole))
  k_with "call ref" => (k_here; (fail_if_success (with_reducible show wpAny _ _ (call (Value.ref 74) _) _ _ _)); k_dflt ((refine wpAny_call ?_); (refine' Mine.code_defG ?k1 ?k2 ?k3 ?k4 ?k5 ?kA ?kF ?kK ?k6 ?k7 ?k8 ?k9 ?kB ?_ ?c2 ?c3 ?c4 ?c5); (case kA => exact rfl); (case kF => exact rfl); (case kK => first | exact rfl | assumption); (case k1 => k_asm); (case k2 => k_asm); (case k3 => k_asm); (case k4 => k_asm); (case k5 => k_asm); (case k6 => k_is); (case k7 => k_is); (case k8 => ktr_room); (case k9 => first | exact BindsTo.of_eq rfl | exact binds_K (by k_in) rfl (by k_is) rfl rfl rfl | fail "no rule for these arguments"); (case c5 => decide); (case kB => exact locs rfl); (case c2 => exact rfl); (case c3 => exact rfl); (case c4 => exact rfl); k_whole; intro g' L' h' tk' hg' FG' F' N' B' X' T' l'; (clear hg'); (try k_lt l'); (try dsimp only); (try k_lift B'); (try k_fold)))
  k_with "call builtin:repr" => (k_here; (with_reducible show wpAny _ _ (call (Value.builtin "repr") [_]) _ _ _); k_dflt ((refine' Mine.ReprAs.run ?r0 ?rF ?rN ?rk ?ru ?rg ?_); (case r0 => with_reducible assumption); (case rF => k_asm); (case rN => k_asm); (case rk => first | exact (fun b o e => (Mine.keep_X (by with_reducible assumption) (by with_reducible assumption) (by with_reducible assumption) (by with_reducible assumption) b o e).1) | exact (fun _ _ e => Fr.keep (by with_reducible assumption) _ _ (Fr.keep (by with_reducible assumption) _ _ e)) | exact (fun _ _ e => Fr.keep (by with_reducible assumption) _ _ e)); (case ru => ((try simp only [units_deeper, units_in1, units_under_make, Mine.units_under_kw]); ktr_units)); (case rg => exact rfl); k_whole; intro t' k' h' F' N'))
  k_with "compareOp IsNot" => (k_here; (with_reducible show wpAny _ _ (compareOp CmpOp.IsNot _ Value.none) _ _ _); refine Mine.isNot_none' (by with_reducible assumption) ?_)
  k_with "compareOp Is" => (k_here; (with_reducible show wpAny _ _ (compareOp CmpOp.Is _ Value.none) _ _ _); refine Mine.is_none' (by with_reducible assumption) ?_)
  k_with "getMethod type:Exception" => (k_here; refine' method_type ?F ?X ?m (by decide +kernel) ?e ?h ?_; (case F => k_asm); (case X => k_asm); (case m => kernel_rfl); (case e => k_dflt k_is); (case h => k_handed))
  k_with "call builtin:Exception.__init__" => (k_here; k_dflt (refine' Mine.init_K ?k1 ?k2 ?k3 ?k4 ?k5 ?k6 ?_; (case k1 => k_asm); (case k2 => k_asm); (case k3 => k_asm); (case k6 => (intro tx'; k_upd)); (case k4 => first | (with_reducible assumption) | exact Mine.xc60 _ rfl); (case k5 => exact Nat.le_of_ble_eq_true rfl); k_whole); intro t' h' F' N' l1; (try dsimp only at N'); (try k_lt l1); (try k_sweep))
  k_with "call builtin:str.format" => (k_here; (with_reducible show wpAny _ _ (call (Value.builtin "str.format") [Value.str _ _, Value.int _ _]) _ _ _); (refine Mine.line_2d (by assumption) (by assumption) ?_); intro _ _)
  k_with "call builtin:str.join" => (k_here; (with_reducible show wpAny _ _ (call (Value.builtin "str.join") [Value.str _ _, Value.ref _]) _ _ _); k_dflt (refine' Mine.join_cat ?jN ?jm ?ji ?jB ?jn ?_; (case jN => k_asm); (case jm => k_mem); (case ji => repeat (first | exact PyProof.Rows.StrsAre.nil | apply PyProof.Rows.StrsAre.cons)); (case jB => (repeat (first | exact List.forall_mem_nil _ | refine List.forall_mem_cons.mpr ⟨by first | (with_reducible exact Mine.le5 (Mine.ReprAs.len (by assumption))) | (with_reducible exact Mine.line_len (by assumption) (by assumption)) | decide +kernel, ?_⟩))); (case jn => exact Nat.le_of_ble_eq_true rfl)); intro _ _; (try simp only [Mine.catS]))
  k_with "setAttr ref" => (k_here; k_dflt (refine' Mine.set_newK ?k1 ?k2 ?k3 ?k4 ?k5 ?k6 ?_; (case k1 => k_asm); (case k2 => k_asm); (case k3 => k_asm); (case k6 => (intro dx'; k_upd)); (case k4 => first | (with_reducible assumption) | exact Mine.xc60 _ rfl); (case k5 => k_is); k_whole; intro d' h' F' N' l1; (try dsimp only at N'); (try k_lt l1); (try k_sweep)))
  k_with "setAttr ref" => (k_here; k_dflt (refine' Mine.set_dictK ?k1 ?k2 ?k3 ?k4 ?k5 ?k6 ?k7 ?k10 ?k11 ?k12 ?k13 ?_; (case k1 => k_asm); (case k2 => k_asm); (case k3 => k_asm); (case k4 => (refine' Mine.instX ?N ?h1 ?h2; (case N => k_asm); (case h1 => k_mem); (case h2 => k_mem))); (case k5 => exact rfl); (case k6 => first | (with_reducible assumption) | exact Mine.xc60 _ rfl); (case k7 => k_is); (case k10 => k_get); (case k11 => k_put); (case k12 => k_upd); (case k13 => exact Nat.le_of_ble_eq_true rfl); k_whole; intro h' F' N'; (try k_sweep)))
  k_with "setAttr ref" => (k_here; (with_reducible show wpAny _ _ (setAttr (Value.ref _) (PySem.Str.ofString "args") (Value.ref _)) _ _ _); k_dflt (refine' Mine.set_argsK ?k1 ?k2 ?k3 ?k4 ?k5 ?k6 ?k7 ?k8 ?_; (case k1 => k_asm); (case k2 => k_asm); (case k3 => k_asm); (case k4 => (refine' Mine.instX ?N ?h1 ?h2; (case N => k_asm); (case h1 => k_mem); (case h2 => k_mem))); (case k5 => first | (with_reducible assumption) | exact Mine.xc60 _ rfl); (case k6 => k_is); (case k7 => exact News.isTup (by k_asm) (by k_mem)); (case k8 => k_upd); k_whole; intro h' F' N'; (try k_sweep)))
  k_with "getAttr ref" => (k_here; k_dflt (refine' Mine.get_ownX ?k1 ?k2 ?k3 ?k4 ?k5 ?k6 ?k7 ?k8 ?_; (case k1 => k_asm); (case k2 => k_asm); (case k3 => (refine' Mine.instX ?N ?h1 ?h2; (case N => k_asm); (case h1 => k_mem); (case h2 => k_mem))); (case k4 => first | (with_reducible assumption) | exact Mine.xc60 _ rfl); (case k5 => k_is); (case k6 => k_is); (case k7 => k_get); (case k8 => first | k_handed | with_reducible assumption); k_whole))
  k_with "getAttr ref" => (k_here; (with_reducible show wpAny _ _ (getAttr (Value.ref _) (PySem.Str.ofString "args") _) _ _ _); k_dflt (refine' Mine.get_argsX ?k1 ?k2 ?k3 ?k4 ?k5 ?k6 ?k7 ?_; (case k1 => k_asm); (case k2 => k_asm); (case k3 => (refine' Mine.instX ?N ?h1 ?h2; (case N => k_asm); (case h1 => k_mem); (case h2 => k_mem))); (case k4 => first | (with_reducible assumption) | exact Mine.xc60 _ rfl); (case k5 => k_is); (case k6 => k_is); (case k7 => k_is); k_whole))
  k_with "call ref" => (k_here; (with_reducible show wpAny _ _ (call (Value.ref 74) [_]) _ _ _); k_dflt (refine' Mine.Says.go ?hs _ _ _ _ _ _ _ _ _ _ _ _ _ _ _ _ _ _ _ _ _ _ _ _ ?kB ?kF ?kX ?kT ?kk ?kd ?ku ?hN ?_; (case hs => with_reducible assumption); (case kB => k_asm); (case kF => k_asm); (case kX => k_asm); (case kT => k_asm); (case kk => first | exact rfl | assumption); (case kd => ktr_room); (case ku => ktr_units); (case hN => ((refine' Mine.news_of ?hN1 ?hN2); (case hN1 => k_asm); (case hN2 => (repeat (first | exact List.forall_mem_nil _ | refine List.forall_mem_cons.mpr ⟨by k_mem, ?_⟩))))); k_whole); intro t' h' tk' hk' F'; (have N' := Mine.news_kept hk' (by k_asm)); (clear hk'); (try dsimp only))
  k_with "ite" => (k_here; (first | refine Mine.ite_ff ?_ | refine Mine.ite_tt ?_))
  k_with "CompEnd" => (k_here; (k_dflt ((refine' Mine.CompEnd.keep ?f ?n ?o ?s ?_); (case f => k_asm); (case n => k_asm); (case o => ((simp only [LCg.Off3, and_true]); (first | assumption | trivial))); (case s => k_mem))))
  k_with "eval ListComp" => (k_here; lcg_look; k_dflt (refine Mine.ListComp_tup (by k_asm) (by rfl) (by decide) (by rfl) (by decide) (by rfl) ?_))
  k_with "SrcT" => (k_here; k_dflt (refine Mine.SrcT.ledger (by rfl) (by k_asm) (by k_asm) (by k_mem) (by first | size_fits | exact Nat.le_of_ble_eq_true rfl) ?_; intro g'; lcg_lit))
  k_fill
  intro w a9 k loose mean mg mb dp un cn cs a ccd cl outer A₀ base h₀ L m h g d tk os Q E B F X T hk hd hu N hret
  refine wpAny_call ?_
  (refine' Mine.code_defG ?k1 ?k2 ?k3 ?k4 ?k5 ?kA ?kF ?kK ?k6 ?k7 ?k8 ?k9 ?kB ?_ ?c2 ?c3 ?c4 ?c5)
  (case kA => exact rfl)
  (case kF => exact rfl)
  (case kK => first | exact rfl | assumption)
  (case k1 => k_asm)
  (case k2 => k_asm)
  (case k3 => k_asm)
  (case k4 => exact N)
  (case k5 => k_asm)
  (case k6 => k_is)
  (case k7 => k_is)
  (case k8 => ktr_room)
  (case k9 => first | exact BindsTo.of_eq rfl | exact binds_K (by k_in) rfl (by k_is) rfl rfl rfl | fail "no rule for these arguments")
  (case c5 => decide)
  (case kB => exact locs rfl)
  (case c2 => exact rfl)
  (case c3 => exact rfl)
  (case c4 => exact rfl)
  intro g1 L1 h2 tk2 hg1 FG1 F2 N2 B2 X2 T2 l2
  (try k_lt l2)
  (try k_lift B2)
  (try k_fold)
  k_steps
  (first | rw [Mine.tup0_is] | rw [Mine.lst0_is] | rw [Mine.tup1_is] | rw [Mine.tup2_is] | rw [Mine.tup3_is])
  all_goals (exact hret _ _ _ (keep_N hg1 N (by k_asm) (by k_asm) (fun p hp => List.mem_cons_of_mem _ hp)) (by k_asm))
theorem says_tup0 : ∀ (w : World) (a9 : Addr) (k : Nat),  Says w [(a9, ({ cls := .type "tuple", data := .seq ([] : List Value).toArray k } : Obj))] 18 320 (.ref a9) (PySem.Str.ofString "()") := says_tup0'
set_option rowWalk.seconds 0 in
set_option maxRecDepth 100000 in
set_option maxHeartbeats 16000000 in
theorem says_tup1' : ∀ (w : World) (a9 : Addr) (k : Nat) (v1 : Value) (r1 : PySem.Str), r1.length ≤ 200 → Says w [] 10 160 v1 r1 → ∀ (loose : List PySem.Str) (mean : ExcName → Option Value) (mg mb : PySem.Str → Option Value) (dp un : Nat) (cn : PySem.Str) (cs : Scope) (a : Addr) (ccd : Value) (cl : List (PySem.Str × Addr)) (outer : List Env) (A₀ : Around) (base h₀ : Heap) (L : Addr) (m : PySem.Str → Option Value) (h : Heap) (g : Array GenState) (d : Drawn) (tk : Nat) (os : OsState) (Q E : Value → Shared → Prop), Below A₀ base outer h₀ → Fr h₀ L h m → (Mine.hd.heap_39 w.params).In h₀ → Top Mine.hd.view_39 loose mean mg mb h₀ → cs.kind = .function → dp + 18 < recursionLimit → un + 320 < cLine → News h₀ L h [(a9, ({ cls := .type "tuple", data := .seq ([v1] : List Value).toArray k } : Obj))] →
    (∀ t h' tk', (∀ b o, h.get? b = some o → h'.get? b = some o) → Fr h₀ L h' m → Q (.str (PySem.Str.ofString "(" ++ r1 ++ PySem.Str.ofString ",)") t) ⟨h', g, d, tk', os⟩) →
    wpAny (model PySem.Challenge.rw_dm0029_02.row.prog w) (ktrTop dp un (some []) cn cs L a ccd cl outer) (call (.ref 74) [.ref a9]) Q E ⟨h, g, d, tk, os⟩ := by
  k_with_none
  k_with "ne" => (first | exact Mine.ne_l1 (by assumption) | exact Mine.ne_l1' (by assumption) | exact Mine.ne_r1 (by assumption) | exact Mine.ne_r1' (by assumption) | exact Mine.ne_l2 (by assumption) | exact Mine.ne_l2' (by assumption) | exact Mine.ne_r2 (by assumption) | exact Mine.ne_r2' (by assumption) | exact Mine.ne_l3 (by assumption) | exact Mine.ne_l3' (by assumption) | exact Mine.ne_r3 (by assumption) | exact Mine.ne_r3' (by assumption) | exact Mine.ne_l4 (by assumption) | exact Mine.ne_l4' (by assumption) | exact Mine.ne_r4 (by assumption) | exact Mine.ne_r4' (by assumption) | exact Mine.ne_l5 (by assumption) | exact Mine.ne_l5' (by assumption) | exact Mine.ne_r5 (by assumption) | exact Mine.ne_r5' (by assumption) | exact Mine.ne_l6 (by assumption) | exact Mine.ne_l6' (by assumption) | exact Mine.ne_r6 (by assumption) | exact Mine.ne_r6' (by assumption) | exact Mine.ne_l7 (by assumption) | exact Mine.ne_l7' (by assumption) | exact Mine.ne_r7 (by assumption) | exact Mine.ne_r7' (by assumption) | exact Mine.ne_l8 (by assumption) | exact Mine.ne_l8' (by assumption) | exact Mine.ne_r8 (by assumption) | exact Mine.ne_r8' (by assumption) | exact Mine.ne_l9 (by assumption) | exact Mine.ne_l9' (by assumption) | exact Mine.ne_r9 (by assumption) | exact Mine.ne_r9' (by assumption))
  k_with "exec For Name BinOp cons nil" => (k_here; (rename Fr _ _ _ _ => lF'); (with_unfolding_all refine' For_invVF lF' ?k1 ?k2 ?_; (case k1 => exact rfl); (case k2 => exact rfl); k_whole))
  k_with "call ref" => (k_here; (fail_if_success (with_reducible show wpAny _ _ (call (Value.ref 74) _) _ _ _)); k_dflt ((refine wpAny_call ?_); (refine' Mine.code_defG ?k1 ?k2 ?k3 ?k4 ?k5 ?kA ?kF ?kK ?k6 ?k7 ?k8 ?k9 ?kB ?_ ?c2 ?c3 ?c4 ?c5); (case kA => exact rfl); (case kF => exact rfl); (case kK => first | exact rfl | assumption); (case k1 => k_asm); (case k2 => k_asm); (case k3 => k_asm); (case k4 => k_asm); (case k5 => k_asm); (case k6 => k_is); (case k7 => k_is); (case k8 => ktr_room); (case k9 => first | exact BindsTo.of_eq rfl | exact binds_K (by k_in) rfl (by k_is) rfl rfl rfl | fail "no rule for these arguments"); (case c5 => decide); (case kB => exact locs rfl); (case c2 => exact rfl); (case c3 => exact rfl); (case c4 => exact rfl); k_whole; intro g' L' h' tk' hg' FG' F' N' B' X' T' l'; (clear hg'); (try k_lt l'); (try dsimp only); (try k_lift B'); (try k_fold)))
  k_with "call builtin:repr" => (k_here; (with_reducible show wpAny _ _ (call (Value.builtin "repr") [_]) _ _ _); k_dflt ((refine' Mine.ReprAs.run ?r0 ?rF ?rN ?rk ?ru ?rg ?_); (case r0 => with_reducible assumption); (case rF => k_asm); (case rN => k_asm); (case rk => first | exact (fun b o e => (Mine.keep_X (by with_reducible assumption) (by with_reducible assumption) (by with_reducible assumption) (by with_reducible assumption) b o e).1) | exact (fun _ _ e => Fr.keep (by with_reducible assumption) _ _ (Fr.keep (by with_reducible assumption) _ _ e)) | exact (fun _ _ e => Fr.keep (by with_reducible assumption) _ _ e)); (case ru => ((try simp only [units_deeper, units_in1, units_under_make, Mine.units_under_kw]); ktr_units)); (case rg => exact rfl); k_whole; intro t' k' h' F' N'))
  k_with "compareOp IsNot" => (k_here; (with_reducible show wpAny _ _ (compareOp CmpOp.IsNot _ Value.none) _ _ _); refine Mine.isNot_none' (by with_reducible assumption) ?_)
  k_with "compareOp Is" => (k_here; (with_reducible show wpAny _ _ (compareOp CmpOp.Is _ Value.none) _ _ _); refine Mine.is_none' (by with_reducible assumption) ?_)
  k_with "getMethod type:Exception" => (k_here; refine' method_type ?F ?X ?m (by decide +kernel) ?e ?h ?_; (case F => k_asm); (case X => k_asm); (case m => kernel_rfl); (case e => k_dflt k_is); (case h => k_handed))
  k_with "call builtin:Exception.__init__" => (k_here; k_dflt (refine' Mine.init_K ?k1 ?k2 ?k3 ?k4 ?k5 ?k6 ?_; (case k1 => k_asm); (case k2 => k_asm); (case k3 => k_asm); (case k6 => (intro tx'; k_upd)); (case k4 => first | (with_reducible assumption) | exact Mine.xc60 _ rfl); (case k5 => exact Nat.le_of_ble_eq_true rfl); k_whole); intro t' h' F' N' l1; (try dsimp only at N'); (try k_lt l1); (try k_sweep))
  k_with "call builtin:str.format" => (k_here; (with_reducible show wpAny _ _ (call (Value.builtin "str.format") [Value.str _ _, Value.int _ _]) _ _ _); (refine Mine.line_2d (by assumption) (by assumption) ?_); intro _ _)
  k_with "call builtin:str.join" => (k_here; (with_reducible show wpAny _ _ (call (Value.builtin "str.join") [Value.str _ _, Value.ref _]) _ _ _); k_dflt (refine' Mine.join_cat ?jN ?jm ?ji ?jB ?jn ?_; (case jN => k_asm); (case jm => k_mem); (case ji => repeat (first | exact PyProof.Rows.StrsAre.nil | apply PyProof.Rows.StrsAre.cons)); (case jB => (repeat (first | exact List.forall_mem_nil _ | refine List.forall_mem_cons.mpr ⟨by first | (with_reducible exact Mine.le5 (Mine.ReprAs.len (by assumption))) | (with_reducible exact Mine.line_len (by assumption) (by assumption)) | decide +kernel, ?_⟩))); (case jn => exact Nat.le_of_ble_eq_true rfl)); intro _ _; (try simp only [Mine.catS]))
  k_with "setAttr ref" => (k_here; k_dflt (refine' Mine.set_newK ?k1 ?k2 ?k3 ?k4 ?k5 ?k6 ?_; (case k1 => k_asm); (case k2 => k_asm); (case k3 => k_asm); (case k6 => (intro dx'; k_upd)); (case k4 => first | (with_reducible assumption) | exact Mine.xc60 _ rfl); (case k5 => k_is); k_whole; intro d' h' F' N' l1; (try dsimp only at N'); (try k_lt l1); (try k_sweep)))
  k_with "setAttr ref" => (k_here; k_dflt (refine' Mine.set_dictK ?k1 ?k2 ?k3 ?k4 ?k5 ?k6 ?k7 ?k10 ?k11 ?k12 ?k13 ?_; (case k1 => k_asm); (case k2 => k_asm); (case k3 => k_asm); (case k4 => (refine' Mine.instX ?N ?h1 ?h2; (case N => k_asm); (case h1 => k_mem); (case h2 => k_mem))); (case k5 => exact rfl); (case k6 => first | (with_reducible assumption) | exact Mine.xc60 _ rfl); (case k7 => k_is); (case k10 => k_get); (case k11 => k_put); (case k12 => k_upd); (case k13 => exact Nat.le_of_ble_eq_true rfl); k_whole; intro h' F' N'; (try k_sweep)))
  k_with "setAttr ref" => (k_here; (with_reducible show wpAny _ _ (setAttr (Value.ref _) (PySem.Str.ofString "args") (Value.ref _)) _ _ _); k_dflt (refine' Mine.set_argsK ?k1 ?k2 ?k3 ?k4 ?k5 ?k6 ?k7 ?k8 ?_; (case k1 => k_asm); (case k2 => k_asm); (case k3 => k_asm); (case k4 => (refine' Mine.instX ?N ?h1 ?h2; (case N => k_asm); (case h1 => k_mem); (case h2 => k_mem))); (case k5 => first | (with_reducible assumption) | exact Mine.xc60 _ rfl); (case k6 => k_is); (case k7 => exact News.isTup (by k_asm) (by k_mem)); (case k8 => k_upd); k_whole; intro h' F' N'; (try k_sweep)))
  k_with "getAttr ref" => (k_here; k_dflt (refine' Mine.get_ownX ?k1 ?k2 ?k3 ?k4 ?k5 ?k6 ?k7 ?k8 ?_; (case k1 => k_asm); (case k2 => k_asm); (case k3 => (refine' Mine.instX ?N ?h1 ?h2; (case N => k_asm); (case h1 => k_mem); (case h2 => k_mem))); (case k4 => first | (with_reducible assumption) | exact Mine.xc60 _ rfl); (case k5 => k_is); (case k6 => k_is); (case k7 => k_get); (case k8 => first | k_handed | with_reducible assumption); k_whole))
  k_with "getAttr ref" => (k_here; (with_reducible show wpAny _ _ (getAttr (Value.ref _) (PySem.Str.ofString "args") _) _ _ _); k_dflt (refine' Mine.get_argsX ?k1 ?k2 ?k3 ?k4 ?k5 ?k6 ?k7 ?_; (case k1 => k_asm); (case k2 => k_asm); (case k3 => (refine' Mine.instX ?N ?h1 ?h2; (case N => k_asm); (case h1 => k_mem); (case h2 => k_mem))); (case k4 => first | (with_reducible assumption) | exact Mine.xc60 _ rfl); (case k5 => k_is); (case k6 => k_is); (case k7 => k_is); k_whole))
  k_with "call ref" => (k_here; (with_reducible show wpAny _ _ (call (Value.ref 74) [_]) _ _ _); k_dflt (refine' Mine.Says.go ?hs _ _ _ _ _ _ _ _ _ _ _ _ _ _ _ _ _ _ _ _ _ _ _ _ ?kB ?kF ?kX ?kT ?kk ?kd ?ku ?hN ?_; (case hs => with_reducible assumption); (case kB => k_asm); (case kF => k_asm); (case kX => k_asm); (case kT => k_asm); (case kk => first | exact rfl | assumption); (case kd => ktr_room); (case ku => ktr_units); (case hN => ((refine' Mine.news_of ?hN1 ?hN2); (case hN1 => k_asm); (case hN2 => (repeat (first | exact List.forall_mem_nil _ | refine List.forall_mem_cons.mpr ⟨by k_mem, ?_⟩))))); k_whole); intro t' h' tk' hk' F'; (have N' := Mine.news_kept hk' (by k_asm)); (clear hk'); (try dsimp only))
  k_with "ite" => (k_here; (first | refine Mine.ite_ff ?_ | refine Mine.ite_tt ?_))
  k_with "CompEnd" => (k_here; (k_dflt ((refine' Mine.CompEnd.keep ?f ?n ?o ?s ?_); (case f => k_asm); (case n => k_asm); (case o => ((simp only [LCg.Off3, and_true]); (first | assumption | trivial))); (case s => k_mem))))
  k_with "eval ListComp" => (k_here; lcg_look; k_dflt (refine Mine.ListComp_tup (by k_asm) (by rfl) (by decide) (by rfl) (by decide) (by rfl) ?_))
  k_with "SrcT" => (k_here; k_dflt (refine Mine.SrcT.ledger (by rfl) (by k_asm) (by k_asm) (by k_mem) (by first | size_fits | exact Nat.le_of_ble_eq_true rfl) ?_; intro g'; lcg_lit))
  k_fill
  intro w a9 k v1 r1 hl1 hs1 loose mean mg mb dp un cn cs a ccd cl outer A₀ base h₀ L m h g d tk os Q E B F X T hk hd hu N hret
  refine wpAny_call ?_
  (refine' Mine.code_defG ?k1 ?k2 ?k3 ?k4 ?k5 ?kA ?kF ?kK ?k6 ?k7 ?k8 ?k9 ?kB ?_ ?c2 ?c3 ?c4 ?c5)
  (case kA => exact rfl)
  (case kF => exact rfl)
  (case kK => first | exact rfl | assumption)
  (case k1 => k_asm)
  (case k2 => k_asm)
  (case k3 => k_asm)
  (case k4 => exact N)
  (case k5 => k_asm)
  (case k6 => k_is)
  (case k7 => k_is)
  (case k8 => ktr_room)
  (case k9 => first | exact BindsTo.of_eq rfl | exact binds_K (by k_in) rfl (by k_is) rfl rfl rfl | fail "no rule for these arguments")
  (case c5 => decide)
  (case kB => exact locs rfl)
  (case c2 => exact rfl)
  (case c3 => exact rfl)
  (case c4 => exact rfl)
  intro g1 L1 h2 tk2 hg1 FG1 F2 N2 B2 X2 T2 l2
  (try k_lt l2)
  (try k_lift B2)
  (try k_fold)
  k_steps
  (first | rw [Mine.tup0_is] | rw [Mine.lst0_is] | rw [Mine.tup1_is] | rw [Mine.tup2_is] | rw [Mine.tup3_is])
  all_goals (exact hret _ _ _ (keep_N hg1 N (by k_asm) (by k_asm) (fun p hp => List.mem_cons_of_mem _ hp)) (by k_asm))
theorem says_tup1 : ∀ (w : World) (a9 : Addr) (k : Nat) (v1 : Value) (r1 : PySem.Str), r1.length ≤ 200 → Says w [] 10 160 v1 r1 → Says w [(a9, ({ cls := .type "tuple", data := .seq ([v1] : List Value).toArray k } : Obj))] 18 320 (.ref a9) (PySem.Str.ofString "(" ++ r1 ++ PySem.Str.ofString ",)") := says_tup1'
set_option rowWalk.seconds 0 in
set_option maxRecDepth 100000 in
set_option maxHeartbeats 16000000 in
theorem says_tup2' : ∀ (w : World) (a9 : Addr) (k : Nat) (v1 v2 : Value) (r1 r2 : PySem.Str), r1.length ≤ 200 → r2.length ≤ 200 → Says w [] 10 160 v1 r1 → Says w [] 10 160 v2 r2 → ∀ (loose : List PySem.Str) (mean : ExcName → Option Value) (mg mb : PySem.Str → Option Value) (dp un : Nat) (cn : PySem.Str) (cs : Scope) (a : Addr) (ccd : Value) (cl : List (PySem.Str × Addr)) (outer : List Env) (A₀ : Around) (base h₀ : Heap) (L : Addr) (m : PySem.Str → Option Value) (h : Heap) (g : Array GenState) (d : Drawn) (tk : Nat) (os : OsState) (Q E : Value → Shared → Prop), Below A₀ base outer h₀ → Fr h₀ L h m → (Mine.hd.heap_39 w.params).In h₀ → Top Mine.hd.view_39 loose mean mg mb h₀ → cs.kind = .function → dp + 18 < recursionLimit → un + 320 < cLine → News h₀ L h [(a9, ({ cls := .type "tuple", data := .seq ([v1, v2] : List Value).toArray k } : Obj))] →
    (∀ t h' tk', (∀ b o, h.get? b = some o → h'.get? b = some o) → Fr h₀ L h' m → Q (.str (PySem.Str.ofString "(" ++ r1 ++ PySem.Str.ofString ", " ++ r2 ++ PySem.Str.ofString ")") t) ⟨h', g, d, tk', os⟩) →
    wpAny (model PySem.Challenge.rw_dm0029_02.row.prog w) (ktrTop dp un (some []) cn cs L a ccd cl outer) (call (.ref 74) [.ref a9]) Q E ⟨h, g, d, tk, os⟩ := by
  k_with_none
  k_with "ne" => (first | exact Mine.ne_l1 (by assumption) | exact Mine.ne_l1' (by assumption) | exact Mine.ne_r1 (by assumption) | exact Mine.ne_r1' (by assumption) | exact Mine.ne_l2 (by assumption) | exact Mine.ne_l2' (by assumption) | exact Mine.ne_r2 (by assumption) | exact Mine.ne_r2' (by assumption) | exact Mine.ne_l3 (by assumption) | exact Mine.ne_l3' (by assumption) | exact Mine.ne_r3 (by assumption) | exact Mine.ne_r3' (by assumption) | exact Mine.ne_l4 (by assumption) | exact Mine.ne_l4' (by assumption) | exact Mine.ne_r4 (by assumption) | exact Mine.ne_r4' (by assumption) | exact Mine.ne_l5 (by assumption) | exact Mine.ne_l5' (by assumption) | exact Mine.ne_r5 (by assumption) | exact Mine.ne_r5' (by assumption) | exact Mine.ne_l6 (by assumption) | exact Mine.ne_l6' (by assumption) | exact Mine.ne_r6 (by assumption) | exact Mine.ne_r6' (by assumption) | exact Mine.ne_l7 (by assumption) | exact Mine.ne_l7' (by assumption) | exact Mine.ne_r7 (by assumption) | exact Mine.ne_r7' (by assumption) | exact Mine.ne_l8 (by assumption) | exact Mine.ne_l8' (by assumption) | exact Mine.ne_r8 (by assumption) | exact Mine.ne_r8' (by assumption) | exact Mine.ne_l9 (by assumption) | exact Mine.ne_l9' (by assumption) | exact Mine.ne_r9 (by assumption) | exact Mine.ne_r9' (by assumption))
  k_with "exec For Name BinOp cons nil" => (k_here; (rename Fr _ _ _ _ => lF'); (with_unfolding_all refine' For_invVF lF' ?k1 ?k2 ?_; (case k1 => exact rfl); (case k2 => exact rfl); k_whole))
  k_with "call ref" => (k_here; (fail_if_success (with_reducible show wpAny _ _ (call (Value.ref 74) _) _ _ _)); k_dflt ((refine wpAny_call ?_); (refine' Mine.code_defG ?k1 ?k2 ?k3 ?k4 ?k5 ?kA ?kF ?kK ?k6 ?k7 ?k8 ?k9 ?kB ?_ ?c2 ?c3 ?c4 ?c5); (case kA => exact rfl); (case kF => exact rfl); (case kK => first | exact rfl | assumption); (case k1 => k_asm); (case k2 => k_asm); (case k3 => k_asm); (case k4 => k_asm); (case k5 => k_asm); (case k6 => k_is); (case k7 => k_is); (case k8 => ktr_room); (case k9 => first | exact BindsTo.of_eq rfl | exact binds_K (by k_in) rfl (by k_is) rfl rfl rfl | fail "no rule for these arguments"); (case c5 => decide); (case kB => exact locs rfl); (case c2 => exact rfl); (case c3 => exact rfl); (case c4 => exact rfl); k_whole; intro g' L' h' tk' hg' FG' F' N' B' X' T' l'; (clear hg'); (try k_lt l'); (try dsimp only); (try k_lift B'); (try k_fold)))
  k_with "call builtin:repr" => (k_here; (with_reducible show wpAny _ _ (call (Value.builtin "repr") [_]) _ _ _); k_dflt ((refine' Mine.ReprAs.run ?r0 ?rF ?rN ?rk ?ru ?rg ?_); (case r0 => with_reducible assumption); (case rF => k_asm); (case rN => k_asm); (case rk => first | exact (fun b o e => (Mine.keep_X (by with_reducible assumption) (by with_reducible assumption) (by with_reducible assumption) (by with_reducible assumption) b o e).1) | exact (fun _ _ e => Fr.keep (by with_reducible assumption) _ _ (Fr.keep (by with_reducible assumption) _ _ e)) | exact (fun _ _ e => Fr.keep (by with_reducible assumption) _ _ e)); (case ru => ((try simp only [units_deeper, units_in1, units_under_make, Mine.units_under_kw]); ktr_units)); (case rg => exact rfl); k_whole; intro t' k' h' F' N'))
  k_with "compareOp IsNot" => (k_here; (with_reducible show wpAny _ _ (compareOp CmpOp.IsNot _ Value.none) _ _ _); refine Mine.isNot_none' (by with_reducible assumption) ?_)
  k_with "compareOp Is" => (k_here; (with_reducible show wpAny _ _ (compareOp CmpOp.Is _ Value.none) _ _ _); refine Mine.is_none' (by with_reducible assumption) ?_)
  k_with "getMethod type:Exception" => (k_here; refine' method_type ?F ?X ?m (by decide +kernel) ?e ?h ?_; (case F => k_asm); (case X => k_asm); (case m => kernel_rfl); (case e => k_dflt k_is); (case h => k_handed))
  k_with "call builtin:Exception.__init__" => (k_here; k_dflt (refine' Mine.init_K ?k1 ?k2 ?k3 ?k4 ?k5 ?k6 ?_; (case k1 => k_asm); (case k2 => k_asm); (case k3 => k_asm); (case k6 => (intro tx'; k_upd)); (case k4 => first | (with_reducible assumption) | exact Mine.xc60 _ rfl); (case k5 => exact Nat.le_of_ble_eq_true rfl); k_whole); intro t' h' F' N' l1; (try dsimp only at N'); (try k_lt l1); (try k_sweep))
  k_with "call builtin:str.format" => (k_here; (with_reducible show wpAny _ _ (call (Value.builtin "str.format") [Value.str _ _, Value.int _ _]) _ _ _); (refine Mine.line_2d (by assumption) (by assumption) ?_); intro _ _)
  k_with "call builtin:str.join" => (k_here; (with_reducible show wpAny _ _ (call (Value.builtin "str.join") [Value.str _ _, Value.ref _]) _ _ _); k_dflt (refine' Mine.join_cat ?jN ?jm ?ji ?jB ?jn ?_; (case jN => k_asm); (case jm => k_mem); (case ji => repeat (first | exact PyProof.Rows.StrsAre.nil | apply PyProof.Rows.StrsAre.cons)); (case jB => (repeat (first | exact List.forall_mem_nil _ | refine List.forall_mem_cons.mpr ⟨by first | (with_reducible exact Mine.le5 (Mine.ReprAs.len (by assumption))) | (with_reducible exact Mine.line_len (by assumption) (by assumption)) | decide +kernel, ?_⟩))); (case jn => exact Nat.le_of_ble_eq_true rfl)); intro _ _; (try simp only [Mine.catS]))
  k_with "setAttr ref" => (k_here; k_dflt (refine' Mine.set_newK ?k1 ?k2 ?k3 ?k4 ?k5 ?k6 ?_; (case k1 => k_asm); (case k2 => k_asm); (case k3 => k_asm); (case k6 => (intro dx'; k_upd)); (case k4 => first | (with_reducible assumption) | exact Mine.xc60 _ rfl); (case k5 => k_is); k_whole; intro d' h' F' N' l1; (try dsimp only at N'); (try k_lt l1); (try k_sweep)))
  k_with "setAttr ref" => (k_here; k_dflt (refine' Mine.set_dictK ?k1 ?k2 ?k3 ?k4 ?k5 ?k6 ?k7 ?k10 ?k11 ?k12 ?k13 ?_; (case k1 => k_asm); (case k2 => k_asm); (case k3 => k_asm); (case k4 => (refine' Mine.instX ?N ?h1 ?h2; (case N => k_asm); (case h1 => k_mem); (case h2 => k_mem))); (case k5 => exact rfl); (case k6 => first | (with_reducible assumption) | exact Mine.xc60 _ rfl); (case k7 => k_is); (case k10 => k_get); (case k11 => k_put); (case k12 => k_upd); (case k13 => exact Nat.le_of_ble_eq_true rfl); k_whole; intro h' F' N'; (try k_sweep)))
  k_with "setAttr ref" => (k_here; (with_reducible show wpAny _ _ (setAttr (Value.ref _) (PySem.Str.ofString "args") (Value.ref _)) _ _ _); k_dflt (refine' Mine.set_argsK ?k1 ?k2 ?k3 ?k4 ?k5 ?k6 ?k7 ?k8 ?_; (case k1 => k_asm); (case k2 => k_asm); (case k3 => k_asm); (case k4 => (refine' Mine.instX ?N ?h1 ?h2; (case N => k_asm); (case h1 => k_mem); (case h2 => k_mem))); (case k5 => first | (with_reducible assumption) | exact Mine.xc60 _ rfl); (case k6 => k_is); (case k7 => exact News.isTup (by k_asm) (by k_mem)); (case k8 => k_upd); k_whole; intro h' F' N'; (try k_sweep)))
  k_with "getAttr ref" => (k_here; k_dflt (refine' Mine.get_ownX ?k1 ?k2 ?k3 ?k4 ?k5 ?k6 ?k7 ?k8 ?_; (case k1 => k_asm); (case k2 => k_asm); (case k3 => (refine' Mine.instX ?N ?h1 ?h2; (case N => k_asm); (case h1 => k_mem); (case h2 => k_mem))); (case k4 => first | (with_reducible assumption) | exact Mine.xc60 _ rfl); (case k5 => k_is); (case k6 => k_is); (case k7 => k_get); (case k8 => first | k_handed | with_reducible assumption); k_whole))
  k_with "getAttr ref" => (k_here; (with_reducible show wpAny _ _ (getAttr (Value.ref _) (PySem.Str.ofString "args") _) _ _ _); k_dflt (refine' Mine.get_argsX ?k1 ?k2 ?k3 ?k4 ?k5 ?k6 ?k7 ?_; (case k1 => k_asm); (case k2 => k_asm); (case k3 => (refine' Mine.instX ?N ?h1 ?h2; (case N => k_asm); (case h1 => k_mem); (case h2 => k_mem))); (case k4 => first | (with_reducible assumption) | exact Mine.xc60 _ rfl); (case k5 => k_is); (case k6 => k_is); (case k7 => k_is); k_whole))
  k_with "call ref" => (k_here; (with_reducible show wpAny _ _ (call (Value.ref 74) [_]) _ _ _); k_dflt (refine' Mine.Says.go ?hs _ _ _ _ _ _ _ _ _ _ _ _ _ _ _ _ _ _ _ _ _ _ _ _ ?kB ?kF ?kX ?kT ?kk ?kd ?ku ?hN ?_; (case hs => with_reducible assumption); (case kB => k_asm); (case kF => k_asm); (case kX => k_asm); (case kT => k_asm); (case kk => first | exact rfl | assumption); (case kd => ktr_room); (case ku => ktr_units); (case hN => ((refine' Mine.news_of ?hN1 ?hN2); (case hN1 => k_asm); (case hN2 => (repeat (first | exact List.forall_mem_nil _ | refine List.forall_mem_cons.mpr ⟨by k_mem, ?_⟩))))); k_whole); intro t' h' tk' hk' F'; (have N' := Mine.news_kept hk' (by k_asm)); (clear hk'); (try dsimp only))
  k_with "ite" => (k_here; (first | refine Mine.ite_ff ?_ | refine Mine.ite_tt ?_))
  k_with "CompEnd" => (k_here; (k_dflt ((refine' Mine.CompEnd.keep ?f ?n ?o ?s ?_); (case f => k_asm); (case n => k_asm); (case o => ((simp only [LCg.Off3, and_true]); (first | assumption | trivial))); (case s => k_mem))))
  k_with "eval ListComp" => (k_here; lcg_look; k_dflt (refine Mine.ListComp_tup (by k_asm) (by rfl) (by decide) (by rfl) (by decide) (by rfl) ?_))
  k_with "SrcT" => (k_here; k_dflt (refine Mine.SrcT.ledger (by rfl) (by k_asm) (by k_asm) (by k_mem) (by first | size_fits | exact Nat.le_of_ble_eq_true rfl) ?_; intro g'; lcg_lit))
  k_fill
  intro w a9 k v1 v2 r1 r2 hl1 hl2 hs1 hs2 loose mean mg mb dp un cn cs a ccd cl outer A₀ base h₀ L m h g d tk os Q E B F X T hk hd hu N hret
  refine wpAny_call ?_
  (refine' Mine.code_defG ?k1 ?k2 ?k3 ?k4 ?k5 ?kA ?kF ?kK ?k6 ?k7 ?k8 ?k9 ?kB ?_ ?c2 ?c3 ?c4 ?c5)
  (case kA => exact rfl)
  (case kF => exact rfl)
  (case kK => first | exact rfl | assumption)
  (case k1 => k_asm)
  (case k2 => k_asm)
  (case k3 => k_asm)
  (case k4 => exact N)
  (case k5 => k_asm)
  (case k6 => k_is)
  (case k7 => k_is)
  (case k8 => ktr_room)
  (case k9 => first | exact BindsTo.of_eq rfl | exact binds_K (by k_in) rfl (by k_is) rfl rfl rfl | fail "no rule for these arguments")
  (case c5 => decide)
  (case kB => exact locs rfl)
  (case c2 => exact rfl)
  (case c3 => exact rfl)
  (case c4 => exact rfl)
  intro g1 L1 h2 tk2 hg1 FG1 F2 N2 B2 X2 T2 l2
  (try k_lt l2)
  (try k_lift B2)
  (try k_fold)
  k_steps
  (first | rw [Mine.tup0_is] | rw [Mine.lst0_is] | rw [Mine.tup1_is] | rw [Mine.tup2_is] | rw [Mine.tup3_is])
  all_goals (exact hret _ _ _ (keep_N hg1 N (by k_asm) (by k_asm) (fun p hp => List.mem_cons_of_mem _ hp)) (by k_asm))
theorem says_tup2 : ∀ (w : World) (a9 : Addr) (k : Nat) (v1 v2 : Value) (r1 r2 : PySem.Str), r1.length ≤ 200 → r2.length ≤ 200 → Says w [] 10 160 v1 r1 → Says w [] 10 160 v2 r2 → Says w [(a9, ({ cls := .type "tuple", data := .seq ([v1, v2] : List Value).toArray k } : Obj))] 18 320 (.ref a9) (PySem.Str.ofString "(" ++ r1 ++ PySem.Str.ofString ", " ++ r2 ++ PySem.Str.ofString ")") := says_tup2'
set_option rowWalk.seconds 0 in
set_option maxRecDepth 100000 in
set_option maxHeartbeats 16000000 in
theorem says_tup3' : ∀ (w : World) (a9 aS aT aL aN : Addr) (oS oT oL oN : Obj) (k : Nat) (v1 v2 v3 : Value) (r1 r2 r3 : PySem.Str), r1.length ≤ 600 → r2.length ≤ 600 → r3.length ≤ 600 → Says w [(aS, oS)] 18 320 v1 r1 → Says w [(aT, oT), (aL, oL)] 18 320 v2 r2 → Says w [(aN, oN)] 18 320 v3 r3 → ∀ (loose : List PySem.Str) (mean : ExcName → Option Value) (mg mb : PySem.Str → Option Value) (dp un : Nat) (cn : PySem.Str) (cs : Scope) (a : Addr) (ccd : Value) (cl : List (PySem.Str × Addr)) (outer : List Env) (A₀ : Around) (base h₀ : Heap) (L : Addr) (m : PySem.Str → Option Value) (h : Heap) (g : Array GenState) (d : Drawn) (tk : Nat) (os : OsState) (Q E : Value → Shared → Prop), Below A₀ base outer h₀ → Fr h₀ L h m → (Mine.hd.heap_39 w.params).In h₀ → Top Mine.hd.view_39 loose mean mg mb h₀ → cs.kind = .function → dp + 26 < recursionLimit → un + 480 < cLine → News h₀ L h [(a9, ({ cls := .type "tuple", data := .seq ([v1, v2, v3] : List Value).toArray k } : Obj)), (aS, oS), (aT, oT), (aL, oL), (aN, oN)] →
    (∀ t h' tk', (∀ b o, h.get? b = some o → h'.get? b = some o) → Fr h₀ L h' m → Q (.str (PySem.Str.ofString "(" ++ r1 ++ PySem.Str.ofString ", " ++ r2 ++ PySem.Str.ofString ", " ++ r3 ++ PySem.Str.ofString ")") t) ⟨h', g, d, tk', os⟩) →
    wpAny (model PySem.Challenge.rw_dm0029_02.row.prog w) (ktrTop dp un (some []) cn cs L a ccd cl outer) (call (.ref 74) [.ref a9]) Q E ⟨h, g, d, tk, os⟩ := by
  k_with_none
  k_with "ne" => (first | exact Mine.ne_l1 (by assumption) | exact Mine.ne_l1' (by assumption) | exact Mine.ne_r1 (by assumption) | exact Mine.ne_r1' (by assumption) | exact Mine.ne_l2 (by assumption) | exact Mine.ne_l2' (by assumption) | exact Mine.ne_r2 (by assumption) | exact Mine.ne_r2' (by assumption) | exact Mine.ne_l3 (by assumption) | exact Mine.ne_l3' (by assumption) | exact Mine.ne_r3 (by assumption) | exact Mine.ne_r3' (by assumption) | exact Mine.ne_l4 (by assumption) | exact Mine.ne_l4' (by assumption) | exact Mine.ne_r4 (by assumption) | exact Mine.ne_r4' (by assumption) | exact Mine.ne_l5 (by assumption) | exact Mine.ne_l5' (by assumption) | exact Mine.ne_r5 (by assumption) | exact Mine.ne_r5' (by assumption) | exact Mine.ne_l6 (by assumption) | exact Mine.ne_l6' (by assumption) | exact Mine.ne_r6 (by assumption) | exact Mine.ne_r6' (by assumption) | exact Mine.ne_l7 (by assumption) | exact Mine.ne_l7' (by assumption) | exact Mine.ne_r7 (by assumption) | exact Mine.ne_r7' (by assumption) | exact Mine.ne_l8 (by assumption) | exact Mine.ne_l8' (by assumption) | exact Mine.ne_r8 (by assumption) | exact Mine.ne_r8' (by assumption) | exact Mine.ne_l9 (by assumption) | exact Mine.ne_l9' (by assumption) | exact Mine.ne_r9 (by assumption) | exact Mine.ne_r9' (by assumption))
  k_with "exec For Name BinOp cons nil" => (k_here; (rename Fr _ _ _ _ => lF'); (with_unfolding_all refine' For_invVF lF' ?k1 ?k2 ?_; (case k1 => exact rfl); (case k2 => exact rfl); k_whole))
  k_with "call ref" => (k_here; (fail_if_success (with_reducible show wpAny _ _ (call (Value.ref 74) _) _ _ _)); k_dflt ((refine wpAny_call ?_); (refine' Mine.code_defG ?k1 ?k2 ?k3 ?k4 ?k5 ?kA ?kF ?kK ?k6 ?k7 ?k8 ?k9 ?kB ?_ ?c2 ?c3 ?c4 ?c5); (case kA => exact rfl); (case kF => exact rfl); (case kK => first | exact rfl | assumption); (case k1 => k_asm); (case k2 => k_asm); (case k3 => k_asm); (case k4 => k_asm); (case k5 => k_asm); (case k6 => k_is); (case k7 => k_is); (case k8 => ktr_room); (case k9 => first | exact BindsTo.of_eq rfl | exact binds_K (by k_in) rfl (by k_is) rfl rfl rfl | fail "no rule for these arguments"); (case c5 => decide); (case kB => exact locs rfl); (case c2 => exact rfl); (case c3 => exact rfl); (case c4 => exact rfl); k_whole; intro g' L' h' tk' hg' FG' F' N' B' X' T' l'; (clear hg'); (try k_lt l'); (try dsimp only); (try k_lift B'); (try k_fold)))
  k_with "call builtin:repr" => (k_here; (with_reducible show wpAny _ _ (call (Value.builtin "repr") [_]) _ _ _); k_dflt ((refine' Mine.ReprAs.run ?r0 ?rF ?rN ?rk ?ru ?rg ?_); (case r0 => with_reducible assumption); (case rF => k_asm); (case rN => k_asm); (case rk => first | exact (fun b o e => (Mine.keep_X (by with_reducible assumption) (by with_reducible assumption) (by with_reducible assumption) (by with_reducible assumption) b o e).1) | exact (fun _ _ e => Fr.keep (by with_reducible assumption) _ _ (Fr.keep (by with_reducible assumption) _ _ e)) | exact (fun _ _ e => Fr.keep (by with_reducible assumption) _ _ e)); (case ru => ((try simp only [units_deeper, units_in1, units_under_make, Mine.units_under_kw]); ktr_units)); (case rg => exact rfl); k_whole; intro t' k' h' F' N'))
  k_with "compareOp IsNot" => (k_here; (with_reducible show wpAny _ _ (compareOp CmpOp.IsNot _ Value.none) _ _ _); refine Mine.isNot_none' (by with_reducible assumption) ?_)
  k_with "compareOp Is" => (k_here; (with_reducible show wpAny _ _ (compareOp CmpOp.Is _ Value.none) _ _ _); refine Mine.is_none' (by with_reducible assumption) ?_)
  k_with "getMethod type:Exception" => (k_here; refine' method_type ?F ?X ?m (by decide +kernel) ?e ?h ?_; (case F => k_asm); (case X => k_asm); (case m => kernel_rfl); (case e => k_dflt k_is); (case h => k_handed))
  k_with "call builtin:Exception.__init__" => (k_here; k_dflt (refine' Mine.init_K ?k1 ?k2 ?k3 ?k4 ?k5 ?k6 ?_; (case k1 => k_asm); (case k2 => k_asm); (case k3 => k_asm); (case k6 => (intro tx'; k_upd)); (case k4 => first | (with_reducible assumption) | exact Mine.xc60 _ rfl); (case k5 => exact Nat.le_of_ble_eq_true rfl); k_whole); intro t' h' F' N' l1; (try dsimp only at N'); (try k_lt l1); (try k_sweep))
  k_with "call builtin:str.format" => (k_here; (with_reducible show wpAny _ _ (call (Value.builtin "str.format") [Value.str _ _, Value.int _ _]) _ _ _); (refine Mine.line_2d (by assumption) (by assumption) ?_); intro _ _)
  k_with "call builtin:str.join" => (k_here; (with_reducible show wpAny _ _ (call (Value.builtin "str.join") [Value.str _ _, Value.ref _]) _ _ _); k_dflt (refine' Mine.join_cat ?jN ?jm ?ji ?jB ?jn ?_; (case jN => k_asm); (case jm => k_mem); (case ji => repeat (first | exact PyProof.Rows.StrsAre.nil | apply PyProof.Rows.StrsAre.cons)); (case jB => (repeat (first | exact List.forall_mem_nil _ | refine List.forall_mem_cons.mpr ⟨by first | (with_reducible exact Mine.le5 (Mine.ReprAs.len (by assumption))) | (with_reducible exact Mine.line_len (by assumption) (by assumption)) | decide +kernel, ?_⟩))); (case jn => exact Nat.le_of_ble_eq_true rfl)); intro _ _; (try simp only [Mine.catS]))
  k_with "setAttr ref" => (k_here; k_dflt (refine' Mine.set_newK ?k1 ?k2 ?k3 ?k4 ?k5 ?k6 ?_; (case k1 => k_asm); (case k2 => k_asm); (case k3 => k_asm); (case k6 => (intro dx'; k_upd)); (case k4 => first | (with_reducible assumption) | exact Mine.xc60 _ rfl); (case k5 => k_is); k_whole; intro d' h' F' N' l1; (try dsimp only at N'); (try k_lt l1); (try k_sweep)))
  k_with "setAttr ref" => (k_here; k_dflt (refine' Mine.set_dictK ?k1 ?k2 ?k3 ?k4 ?k5 ?k6 ?k7 ?k10 ?k11 ?k12 ?k13 ?_; (case k1 => k_asm); (case k2 => k_asm); (case k3 => k_asm); (case k4 => (refine' Mine.instX ?N ?h1 ?h2; (case N => k_asm); (case h1 => k_mem); (case h2 => k_mem))); (case k5 => exact rfl); (case k6 => first | (with_reducible assumption) | exact Mine.xc60 _ rfl); (case k7 => k_is); (case k10 => k_get); (case k11 => k_put); (case k12 => k_upd); (case k13 => exact Nat.le_of_ble_eq_true rfl); k_whole; intro h' F' N'; (try k_sweep)))
  k_with "setAttr ref" => (k_here; (with_reducible show wpAny _ _ (setAttr (Value.ref _) (PySem.Str.ofString "args") (Value.ref _)) _ _ _); k_dflt (refine' Mine.set_argsK ?k1 ?k2 ?k3 ?k4 ?k5 ?k6 ?k7 ?k8 ?_; (case k1 => k_asm); (case k2 => k_asm); (case k3 => k_asm); (case k4 => (refine' Mine.instX ?N ?h1 ?h2; (case N => k_asm); (case h1 => k_mem); (case h2 => k_mem))); (case k5 => first | (with_reducible assumption) | exact Mine.xc60 _ rfl); (case k6 => k_is); (case k7 => exact News.isTup (by k_asm) (by k_mem)); (case k8 => k_upd); k_whole; intro h' F' N'; (try k_sweep)))
  k_with "getAttr ref" => (k_here; k_dflt (refine' Mine.get_ownX ?k1 ?k2 ?k3 ?k4 ?k5 ?k6 ?k7 ?k8 ?_; (case k1 => k_asm); (case k2 => k_asm); (case k3 => (refine' Mine.instX ?N ?h1 ?h2; (case N => k_asm); (case h1 => k_mem); (case h2 => k_mem))); (case k4 => first | (with_reducible assumption) | exact Mine.xc60 _ rfl); (case k5 => k_is); (case k6 => k_is); (case k7 => k_get); (case k8 => first | k_handed | with_reducible assumption); k_whole))
  k_with "getAttr ref" => (k_here; (with_reducible show wpAny _ _ (getAttr (Value.ref _) (PySem.Str.ofString "args") _) _ _ _); k_dflt (refine' Mine.get_argsX ?k1 ?k2 ?k3 ?k4 ?k5 ?k6 ?k7 ?_; (case k1 => k_asm); (case k2 => k_asm); (case k3 => (refine' Mine.instX ?N ?h1 ?h2; (case N => k_asm); (case h1 => k_mem); (case h2 => k_mem))); (case k4 => first | (with_reducible assumption) | exact Mine.xc60 _ rfl); (case k5 => k_is); (case k6 => k_is); (case k7 => k_is); k_whole))
  k_with "call ref" => (k_here; (with_reducible show wpAny _ _ (call (Value.ref 74) [_]) _ _ _); k_dflt (refine' Mine.Says.go ?hs _ _ _ _ _ _ _ _ _ _ _ _ _ _ _ _ _ _ _ _ _ _ _ _ ?kB ?kF ?kX ?kT ?kk ?kd ?ku ?hN ?_; (case hs => with_reducible assumption); (case kB => k_asm); (case kF => k_asm); (case kX => k_asm); (case kT => k_asm); (case kk => first | exact rfl | assumption); (case kd => ktr_room); (case ku => ktr_units); (case hN => ((refine' Mine.news_of ?hN1 ?hN2); (case hN1 => k_asm); (case hN2 => (repeat (first | exact List.forall_mem_nil _ | refine List.forall_mem_cons.mpr ⟨by k_mem, ?_⟩))))); k_whole); intro t' h' tk' hk' F'; (have N' := Mine.news_kept hk' (by k_asm)); (clear hk'); (try dsimp only))
  k_with "ite" => (k_here; (first | refine Mine.ite_ff ?_ | refine Mine.ite_tt ?_))
  k_with "CompEnd" => (k_here; (k_dflt ((refine' Mine.CompEnd.keep ?f ?n ?o ?s ?_); (case f => k_asm); (case n => k_asm); (case o => ((simp only [LCg.Off3, and_true]); (first | assumption | trivial))); (case s => k_mem))))
  k_with "eval ListComp" => (k_here; lcg_look; k_dflt (refine Mine.ListComp_tup (by k_asm) (by rfl) (by decide) (by rfl) (by decide) (by rfl) ?_))
  k_with "SrcT" => (k_here; k_dflt (refine Mine.SrcT.ledger (by rfl) (by k_asm) (by k_asm) (by k_mem) (by first | size_fits | exact Nat.le_of_ble_eq_true rfl) ?_; intro g'; lcg_lit))
  k_fill
  intro w a9 aS aT aL aN oS oT oL oN k v1 v2 v3 r1 r2 r3 hl1 hl2 hl3 hs1 hs2 hs3 loose mean mg mb dp un cn cs a ccd cl outer A₀ base h₀ L m h g d tk os Q E B F X T hk hd hu N hret
  refine wpAny_call ?_
  (refine' Mine.code_defG ?k1 ?k2 ?k3 ?k4 ?k5 ?kA ?kF ?kK ?k6 ?k7 ?k8 ?k9 ?kB ?_ ?c2 ?c3 ?c4 ?c5)
  (case kA => exact rfl)
  (case kF => exact rfl)
  (case kK => first | exact rfl | assumption)
  (case k1 => k_asm)
  (case k2 => k_asm)
  (case k3 => k_asm)
  (case k4 => exact N)
  (case k5 => k_asm)
  (case k6 => k_is)
  (case k7 => k_is)
  (case k8 => ktr_room)
  (case k9 => first | exact BindsTo.of_eq rfl | exact binds_K (by k_in) rfl (by k_is) rfl rfl rfl | fail "no rule for these arguments")
  (case c5 => decide)
  (case kB => exact locs rfl)
  (case c2 => exact rfl)
  (case c3 => exact rfl)
  (case c4 => exact rfl)
  intro g1 L1 h2 tk2 hg1 FG1 F2 N2 B2 X2 T2 l2
  (try k_lt l2)
  (try k_lift B2)
  (try k_fold)
  k_steps
  (first | rw [Mine.tup0_is] | rw [Mine.lst0_is] | rw [Mine.tup1_is] | rw [Mine.tup2_is] | rw [Mine.tup3_is])
  all_goals (exact hret _ _ _ (keep_N hg1 N (by k_asm) (by k_asm) (fun p hp => List.mem_cons_of_mem _ hp)) (by k_asm))
local macro_rules | `(tactic| walk_at "binaryOp Mult str int") => `(tactic| k_extra "binaryOp Mult str int")
local macro_rules | `(tactic| kt_len) => `(tactic| (with_reducible exact Mine.padS_len _))
set_option rowWalk.seconds 0 in
set_option maxRecDepth 100000 in
set_option maxHeartbeats 16000000 in
theorem toldN_T : ∀ (w : World) (loose : List PySem.Str) (mean : ExcName → Option Value) (mg mb : PySem.Str → Option Value) (dp un : Nat) (cn : PySem.Str) (cs : Scope) (a : Addr) (ccd : Value) (cl : List (PySem.Str × Addr)) (outer : List Env) (A₀ : Around) (base h₀ : Heap) (L : Addr) (m : PySem.Str → Option Value) (h : Heap) (g : Array GenState) (d : Drawn) (tk : Nat) (os : OsState) (Q E : Value → Shared → Prop) (aS aT aL aN : Addr) (oS oT oL oN : Obj) (sec : Value) (r : PySem.Str) (lin : Value), Below A₀ base outer h₀ → Fr h₀ L h m → (Mine.hd.heap_39 w.params).In h₀ → Top Mine.hd.view_39 loose mean mg mb h₀ → cs.kind = .function → dp + 30 < recursionLimit → un + 600 < cLine → News h₀ L h [(aS, oS), (aT, oT), (aL, oL), (aN, oN)] → r.length ≤ 600 → Says w [(aS, oS)] 18 320 sec r → 
    (∀ t h' tk', (∀ b o, h.get? b = some o → h'.get? b = some o) → Fr h₀ L h' m → Q (.str (againMsg (PySem.Str.ofString "Section ") (PySem.Str.ofString ": section ") [r, PySem.Str.ofString " already exists"] none none) t) ⟨h', g, d, tk', os⟩) →
    wpAny (model PySem.Challenge.rw_dm0029_02.row.prog w) (ktrTop dp un (some []) cn cs L a ccd cl outer) (call (.ref 88) [sec, .none, lin]) Q E ⟨h, g, d, tk, os⟩ := by
  k_with_none
  k_with "ne" => (first | exact Mine.ne_l1 (by assumption) | exact Mine.ne_l1' (by assumption) | exact Mine.ne_r1 (by assumption) | exact Mine.ne_r1' (by assumption) | exact Mine.ne_l2 (by assumption) | exact Mine.ne_l2' (by assumption) | exact Mine.ne_r2 (by assumption) | exact Mine.ne_r2' (by assumption) | exact Mine.ne_l3 (by assumption) | exact Mine.ne_l3' (by assumption) | exact Mine.ne_r3 (by assumption) | exact Mine.ne_r3' (by assumption) | exact Mine.ne_l4 (by assumption) | exact Mine.ne_l4' (by assumption) | exact Mine.ne_r4 (by assumption) | exact Mine.ne_r4' (by assumption) | exact Mine.ne_l5 (by assumption) | exact Mine.ne_l5' (by assumption) | exact Mine.ne_r5 (by assumption) | exact Mine.ne_r5' (by assumption) | exact Mine.ne_l6 (by assumption) | exact Mine.ne_l6' (by assumption) | exact Mine.ne_r6 (by assumption) | exact Mine.ne_r6' (by assumption) | exact Mine.ne_l7 (by assumption) | exact Mine.ne_l7' (by assumption) | exact Mine.ne_r7 (by assumption) | exact Mine.ne_r7' (by assumption) | exact Mine.ne_l8 (by assumption) | exact Mine.ne_l8' (by assumption) | exact Mine.ne_r8 (by assumption) | exact Mine.ne_r8' (by assumption) | exact Mine.ne_l9 (by assumption) | exact Mine.ne_l9' (by assumption) | exact Mine.ne_r9 (by assumption) | exact Mine.ne_r9' (by assumption))
  k_with "exec For Name BinOp cons nil" => (k_here; (rename Fr _ _ _ _ => lF'); (with_unfolding_all refine' For_invVF lF' ?k1 ?k2 ?_; (case k1 => exact rfl); (case k2 => exact rfl); k_whole))
  k_with "call ref" => (k_here; (fail_if_success (with_reducible show wpAny _ _ (call (Value.ref 74) _) _ _ _)); (fail_if_success (with_reducible show wpAny _ _ (call (Value.ref 69) _) _ _ _)); k_dflt ((refine wpAny_call ?_); (refine' Mine.code_defG ?k1 ?k2 ?k3 ?k4 ?k5 ?kA ?kF ?kK ?k6 ?k7 ?k8 ?k9 ?kB ?_ ?c2 ?c3 ?c4 ?c5); (case kA => exact rfl); (case kF => exact rfl); (case kK => first | exact rfl | assumption); (case k1 => k_asm); (case k2 => k_asm); (case k3 => k_asm); (case k4 => k_asm); (case k5 => k_asm); (case k6 => k_is); (case k7 => k_is); (case k8 => ktr_room); (case k9 => first | exact BindsTo.of_eq rfl | exact binds_K (by k_in) rfl (by k_is) rfl rfl rfl | fail "no rule for these arguments"); (case c5 => decide); (case kB => exact locs rfl); (case c2 => exact rfl); (case c3 => exact rfl); (case c4 => exact rfl); k_whole; intro g' L' h' tk' hg' FG' F' N' B' X' T' l'; (clear hg'); (try k_lt l'); (try dsimp only); (try k_lift B'); (try k_fold)))
  k_with "call builtin:repr" => (k_here; (with_reducible show wpAny _ _ (call (Value.builtin "repr") [_]) _ _ _); k_dflt ((refine' Mine.ReprAs.run ?r0 ?rF ?rN ?rk ?ru ?rg ?_); (case r0 => with_reducible assumption); (case rF => k_asm); (case rN => k_asm); (case rk => first | exact (fun b o e => (Mine.keep_X (by with_reducible assumption) (by with_reducible assumption) (by with_reducible assumption) (by with_reducible assumption) b o e).1) | exact (fun _ _ e => Fr.keep (by with_reducible assumption) _ _ (Fr.keep (by with_reducible assumption) _ _ e)) | exact (fun _ _ e => Fr.keep (by with_reducible assumption) _ _ e)); (case ru => ((try simp only [units_deeper, units_in1, units_under_make, Mine.units_under_kw]); ktr_units)); (case rg => exact rfl); k_whole; intro t' k' h' F' N'))
  k_with "compareOp IsNot" => (k_here; (with_reducible show wpAny _ _ (compareOp CmpOp.IsNot _ Value.none) _ _ _); refine Mine.isNot_none' (by with_reducible assumption) ?_)
  k_with "compareOp Is" => (k_here; (with_reducible show wpAny _ _ (compareOp CmpOp.Is _ Value.none) _ _ _); refine Mine.is_none' (by with_reducible assumption) ?_)
  k_with "getMethod type:Exception" => (k_here; refine' method_type ?F ?X ?m (by decide +kernel) ?e ?h ?_; (case F => k_asm); (case X => k_asm); (case m => kernel_rfl); (case e => k_dflt k_is); (case h => k_handed))
  k_with "call builtin:Exception.__init__" => (k_here; k_dflt (refine' Mine.init_K ?k1 ?k2 ?k3 ?k4 ?k5 ?k6 ?_; (case k1 => k_asm); (case k2 => k_asm); (case k3 => k_asm); (case k6 => (intro tx'; k_upd)); (case k4 => first | (with_reducible assumption) | exact Mine.xc60 _ rfl); (case k5 => exact Nat.le_of_ble_eq_true rfl); k_whole); intro t' h' F' N' l1; (try dsimp only at N'); (try k_lt l1); (try k_sweep))
  k_with "call builtin:str.format" => (k_here; (with_reducible show wpAny _ _ (call (Value.builtin "str.format") [Value.str _ _, Value.int _ _]) _ _ _); (refine Mine.line_2d (by assumption) (by assumption) ?_); intro _ _)
  k_with "call builtin:str.join" => (k_here; (with_reducible show wpAny _ _ (call (Value.builtin "str.join") [Value.str _ _, Value.ref _]) _ _ _); k_dflt (refine' Mine.join_cat ?jN ?jm ?ji ?jB ?jn ?_; (case jN => k_asm); (case jm => k_mem); (case ji => repeat (first | exact PyProof.Rows.StrsAre.nil | apply PyProof.Rows.StrsAre.cons)); (case jB => (repeat (first | exact List.forall_mem_nil _ | refine List.forall_mem_cons.mpr ⟨by first | (with_reducible exact Mine.le5 (Mine.ReprAs.len (by assumption))) | (with_reducible exact Mine.line_len (by assumption) (by assumption)) | decide +kernel, ?_⟩))); (case jn => exact Nat.le_of_ble_eq_true rfl)); intro _ _; (try simp only [Mine.catS]))
  k_with "setAttr ref" => (k_here; k_dflt (refine' Mine.set_newK ?k1 ?k2 ?k3 ?k4 ?k5 ?k6 ?_; (case k1 => k_asm); (case k2 => k_asm); (case k3 => k_asm); (case k6 => (intro dx'; k_upd)); (case k4 => first | (with_reducible assumption) | exact Mine.xc60 _ rfl); (case k5 => k_is); k_whole; intro d' h' F' N' l1; (try dsimp only at N'); (try k_lt l1); (try k_sweep)))
  k_with "setAttr ref" => (k_here; k_dflt (refine' Mine.set_dictK ?k1 ?k2 ?k3 ?k4 ?k5 ?k6 ?k7 ?k10 ?k11 ?k12 ?k13 ?_; (case k1 => k_asm); (case k2 => k_asm); (case k3 => k_asm); (case k4 => (refine' Mine.instX ?N ?h1 ?h2; (case N => k_asm); (case h1 => k_mem); (case h2 => k_mem))); (case k5 => exact rfl); (case k6 => first | (with_reducible assumption) | exact Mine.xc60 _ rfl); (case k7 => k_is); (case k10 => k_get); (case k11 => k_put); (case k12 => k_upd); (case k13 => exact Nat.le_of_ble_eq_true rfl); k_whole; intro h' F' N'; (try k_sweep)))
  k_with "setAttr ref" => (k_here; (with_reducible show wpAny _ _ (setAttr (Value.ref _) (PySem.Str.ofString "args") (Value.ref _)) _ _ _); k_dflt (refine' Mine.set_argsK ?k1 ?k2 ?k3 ?k4 ?k5 ?k6 ?k7 ?k8 ?_; (case k1 => k_asm); (case k2 => k_asm); (case k3 => k_asm); (case k4 => (refine' Mine.instX ?N ?h1 ?h2; (case N => k_asm); (case h1 => k_mem); (case h2 => k_mem))); (case k5 => first | (with_reducible assumption) | exact Mine.xc60 _ rfl); (case k6 => k_is); (case k7 => exact News.isTup (by k_asm) (by k_mem)); (case k8 => k_upd); k_whole; intro h' F' N'; (try k_sweep)))
  k_with "getAttr ref" => (k_here; k_dflt (refine' Mine.get_ownX ?k1 ?k2 ?k3 ?k4 ?k5 ?k6 ?k7 ?k8 ?_; (case k1 => k_asm); (case k2 => k_asm); (case k3 => (refine' Mine.instX ?N ?h1 ?h2; (case N => k_asm); (case h1 => k_mem); (case h2 => k_mem))); (case k4 => first | (with_reducible assumption) | exact Mine.xc60 _ rfl); (case k5 => k_is); (case k6 => k_is); (case k7 => k_get); (case k8 => first | k_handed | with_reducible assumption); k_whole))
  k_with "getAttr ref" => (k_here; (with_reducible show wpAny _ _ (getAttr (Value.ref _) (PySem.Str.ofString "args") _) _ _ _); k_dflt (refine' Mine.get_argsX ?k1 ?k2 ?k3 ?k4 ?k5 ?k6 ?k7 ?_; (case k1 => k_asm); (case k2 => k_asm); (case k3 => (refine' Mine.instX ?N ?h1 ?h2; (case N => k_asm); (case h1 => k_mem); (case h2 => k_mem))); (case k4 => first | (with_reducible assumption) | exact Mine.xc60 _ rfl); (case k5 => k_is); (case k6 => k_is); (case k7 => k_is); k_whole))
  k_with "call ref" => (k_here; (with_reducible show wpAny _ _ (call (Value.ref 69) _) _ _ _); k_dflt (refine' Mine.figures_T _ _ _ _ _ _ _ _ _ _ _ _ _ _ _ _ _ _ _ _ _ _ _ _ _ _ _ ?kB ?kF ?kX ?kT ?kk ?kd ?ku ?n1 ?n2 ?_; (case kB => k_asm); (case kF => k_asm); (case kX => k_asm); (case kT => k_asm); (case kk => first | exact rfl | assumption); (case kd => ktr_room); (case ku => ktr_units); (case n1 => assumption); (case n2 => assumption); k_whole); intro t' h' tk' hk' F'; (have N' := Mine.news_kept hk' (by k_asm)); (clear hk'); (try dsimp only))
  k_with "call ref" => (k_here; (with_reducible show wpAny _ _ (call (Value.ref 74) [_]) _ _ _); k_dflt (refine' Mine.Says.go ?hs _ _ _ _ _ _ _ _ _ _ _ _ _ _ _ _ _ _ _ _ _ _ _ _ ?kB ?kF ?kX ?kT ?kk ?kd ?ku ?hN ?_; (case hs => with_reducible assumption); (case kB => k_asm); (case kF => k_asm); (case kX => k_asm); (case kT => k_asm); (case kk => first | exact rfl | assumption); (case kd => ktr_room); (case ku => ktr_units); (case hN => ((refine' Mine.news_of ?hN1 ?hN2); (case hN1 => k_asm); (case hN2 => (repeat (first | exact List.forall_mem_nil _ | refine List.forall_mem_cons.mpr ⟨by k_mem, ?_⟩))))); k_whole); intro t' h' tk' hk' F'; (have N' := Mine.news_kept hk' (by k_asm)); (clear hk'); (try dsimp only))
  k_with "ite" => (k_here; (first | refine Mine.ite_ff ?_ | refine Mine.ite_tt ?_))
  k_with "binaryOp Mult str int" => (k_here; (refine Mine.pad_mul (by assumption) ?_); intro _ _)
  k_fill
  intro w loose mean mg mb dp un cn cs a ccd cl outer A₀ base h₀ L m h g d tk os Q E aS aT aL aN oS oT oL oN sec r lin B F X T hk hd hu N hl1 hs1 hret
  refine wpAny_call ?_
  (refine' Mine.code_defG ?k1 ?k2 ?k3 ?k4 ?k5 ?kA ?kF ?kK ?k6 ?k7 ?k8 ?k9 ?kB ?_ ?c2 ?c3 ?c4 ?c5)
  (case kA => exact rfl)
  (case kF => exact rfl)
  (case kK => first | exact rfl | assumption)
  (case k1 => k_asm)
  (case k2 => k_asm)
  (case k3 => k_asm)
  (case k4 => exact N)
  (case k5 => k_asm)
  (case k6 => k_is)
  (case k7 => k_is)
  (case k8 => ktr_room)
  (case k9 => first | exact BindsTo.of_eq rfl | exact binds_K (by k_in) rfl (by k_is) rfl rfl rfl | fail "no rule for these arguments")
  (case c5 => decide)
  (case kB => exact locs rfl)
  (case c2 => exact rfl)
  (case c3 => exact rfl)
  (case c4 => exact rfl)
  intro g1 L1 h2 tk2 hg1 FG1 F2 N2 B2 X2 T2 l2
  (try k_lt l2)
  (try k_lift B2)
  (try k_fold)
  k_steps
  all_goals rw [Mine.sec_msg]
  all_goals (exact hret _ _ _ (keep_N hg1 N (by k_asm) (by k_asm) (fun p hp => by first | exact hp | exact List.mem_cons_of_mem _ hp)) (by k_asm))
set_option rowWalk.seconds 0 in
set_option maxRecDepth 100000 in
set_option maxHeartbeats 16000000 in
theorem toldV_T : ∀ (w : World) (loose : List PySem.Str) (mean : ExcName → Option Value) (mg mb : PySem.Str → Option Value) (dp un : Nat) (cn : PySem.Str) (cs : Scope) (a : Addr) (ccd : Value) (cl : List (PySem.Str × Addr)) (outer : List Env) (A₀ : Around) (base h₀ : Heap) (L : Addr) (m : PySem.Str → Option Value) (h : Heap) (g : Array GenState) (d : Drawn) (tk : Nat) (os : OsState) (Q E : Value → Shared → Prop) (aS aT aL aN : Addr) (oS oT oL oN : Obj) (sec : Value) (r : PySem.Str) (src : Value) (x : PySem.Str) (u : Tok), Below A₀ base outer h₀ → Fr h₀ L h m → (Mine.hd.heap_39 w.params).In h₀ → Top Mine.hd.view_39 loose mean mg mb h₀ → cs.kind = .function → dp + 30 < recursionLimit → un + 600 < cLine → News h₀ L h [(aS, oS), (aT, oT), (aL, oL), (aN, oN)] → r.length ≤ 600 → Says w [(aS, oS)] 18 320 sec r → (src == Value.none) = false →
    (∀ t h' tk', (∀ b o, h.get? b = some o → h'.get? b = some o) → Fr h₀ L h' m → Q (.str (PySem.Str.ofString "ValueError") t) ⟨h', g, d, tk', os⟩) →
    wpAny (model PySem.Challenge.rw_dm0029_02.row.prog w) (ktrTop dp un (some []) cn cs L a ccd cl outer) (call (.ref 88) [sec, src, .str x u]) Q E ⟨h, g, d, tk, os⟩ := by
  k_with_none
  k_with "ne" => (first | exact Mine.ne_l1 (by assumption) | exact Mine.ne_l1' (by assumption) | exact Mine.ne_r1 (by assumption) | exact Mine.ne_r1' (by assumption) | exact Mine.ne_l2 (by assumption) | exact Mine.ne_l2' (by assumption) | exact Mine.ne_r2 (by assumption) | exact Mine.ne_r2' (by assumption) | exact Mine.ne_l3 (by assumption) | exact Mine.ne_l3' (by assumption) | exact Mine.ne_r3 (by assumption) | exact Mine.ne_r3' (by assumption) | exact Mine.ne_l4 (by assumption) | exact Mine.ne_l4' (by assumption) | exact Mine.ne_r4 (by assumption) | exact Mine.ne_r4' (by assumption) | exact Mine.ne_l5 (by assumption) | exact Mine.ne_l5' (by assumption) | exact Mine.ne_r5 (by assumption) | exact Mine.ne_r5' (by assumption) | exact Mine.ne_l6 (by assumption) | exact Mine.ne_l6' (by assumption) | exact Mine.ne_r6 (by assumption) | exact Mine.ne_r6' (by assumption) | exact Mine.ne_l7 (by assumption) | exact Mine.ne_l7' (by assumption) | exact Mine.ne_r7 (by assumption) | exact Mine.ne_r7' (by assumption) | exact Mine.ne_l8 (by assumption) | exact Mine.ne_l8' (by assumption) | exact Mine.ne_r8 (by assumption) | exact Mine.ne_r8' (by assumption) | exact Mine.ne_l9 (by assumption) | exact Mine.ne_l9' (by assumption) | exact Mine.ne_r9 (by assumption) | exact Mine.ne_r9' (by assumption))
  k_with "exec For Name BinOp cons nil" => (k_here; (rename Fr _ _ _ _ => lF'); (with_unfolding_all refine' For_invVF lF' ?k1 ?k2 ?_; (case k1 => exact rfl); (case k2 => exact rfl); k_whole))
  k_with "call ref" => (k_here; (fail_if_success (with_reducible show wpAny _ _ (call (Value.ref 74) _) _ _ _)); (fail_if_success (with_reducible show wpAny _ _ (call (Value.ref 69) _) _ _ _)); k_dflt ((refine wpAny_call ?_); (refine' Mine.code_defG ?k1 ?k2 ?k3 ?k4 ?k5 ?kA ?kF ?kK ?k6 ?k7 ?k8 ?k9 ?kB ?_ ?c2 ?c3 ?c4 ?c5); (case kA => exact rfl); (case kF => exact rfl); (case kK => first | exact rfl | assumption); (case k1 => k_asm); (case k2 => k_asm); (case k3 => k_asm); (case k4 => k_asm); (case k5 => k_asm); (case k6 => k_is); (case k7 => k_is); (case k8 => ktr_room); (case k9 => first | exact BindsTo.of_eq rfl | exact binds_K (by k_in) rfl (by k_is) rfl rfl rfl | fail "no rule for these arguments"); (case c5 => decide); (case kB => exact locs rfl); (case c2 => exact rfl); (case c3 => exact rfl); (case c4 => exact rfl); k_whole; intro g' L' h' tk' hg' FG' F' N' B' X' T' l'; (clear hg'); (try k_lt l'); (try dsimp only); (try k_lift B'); (try k_fold)))
  k_with "call builtin:repr" => (k_here; (with_reducible show wpAny _ _ (call (Value.builtin "repr") [_]) _ _ _); k_dflt ((refine' Mine.ReprAs.run ?r0 ?rF ?rN ?rk ?ru ?rg ?_); (case r0 => with_reducible assumption); (case rF => k_asm); (case rN => k_asm); (case rk => first | exact (fun b o e => (Mine.keep_X (by with_reducible assumption) (by with_reducible assumption) (by with_reducible assumption) (by with_reducible assumption) b o e).1) | exact (fun _ _ e => Fr.keep (by with_reducible assumption) _ _ (Fr.keep (by with_reducible assumption) _ _ e)) | exact (fun _ _ e => Fr.keep (by with_reducible assumption) _ _ e)); (case ru => ((try simp only [units_deeper, units_in1, units_under_make, Mine.units_under_kw]); ktr_units)); (case rg => exact rfl); k_whole; intro t' k' h' F' N'))
  k_with "compareOp IsNot" => (k_here; (with_reducible show wpAny _ _ (compareOp CmpOp.IsNot _ Value.none) _ _ _); refine Mine.isNot_none' (by with_reducible assumption) ?_)
  k_with "compareOp Is" => (k_here; (with_reducible show wpAny _ _ (compareOp CmpOp.Is _ Value.none) _ _ _); refine Mine.is_none' (by with_reducible assumption) ?_)
  k_with "getMethod type:Exception" => (k_here; refine' method_type ?F ?X ?m (by decide +kernel) ?e ?h ?_; (case F => k_asm); (case X => k_asm); (case m => kernel_rfl); (case e => k_dflt k_is); (case h => k_handed))
  k_with "call builtin:Exception.__init__" => (k_here; k_dflt (refine' Mine.init_K ?k1 ?k2 ?k3 ?k4 ?k5 ?k6 ?_; (case k1 => k_asm); (case k2 => k_asm); (case k3 => k_asm); (case k6 => (intro tx'; k_upd)); (case k4 => first | (with_reducible assumption) | exact Mine.xc60 _ rfl); (case k5 => exact Nat.le_of_ble_eq_true rfl); k_whole); intro t' h' F' N' l1; (try dsimp only at N'); (try k_lt l1); (try k_sweep))
  k_with "call builtin:str.format" => (k_here; (with_reducible show wpAny _ _ (call (Value.builtin "str.format") [Value.str _ _, Value.int _ _]) _ _ _); (refine Mine.line_2d (by assumption) (by assumption) ?_); intro _ _)
  k_with "call builtin:str.join" => (k_here; (with_reducible show wpAny _ _ (call (Value.builtin "str.join") [Value.str _ _, Value.ref _]) _ _ _); k_dflt (refine' Mine.join_cat ?jN ?jm ?ji ?jB ?jn ?_; (case jN => k_asm); (case jm => k_mem); (case ji => repeat (first | exact PyProof.Rows.StrsAre.nil | apply PyProof.Rows.StrsAre.cons)); (case jB => (repeat (first | exact List.forall_mem_nil _ | refine List.forall_mem_cons.mpr ⟨by first | (with_reducible exact Mine.le5 (Mine.ReprAs.len (by assumption))) | (with_reducible exact Mine.line_len (by assumption) (by assumption)) | decide +kernel, ?_⟩))); (case jn => exact Nat.le_of_ble_eq_true rfl)); intro _ _; (try simp only [Mine.catS]))
  k_with "setAttr ref" => (k_here; k_dflt (refine' Mine.set_newK ?k1 ?k2 ?k3 ?k4 ?k5 ?k6 ?_; (case k1 => k_asm); (case k2 => k_asm); (case k3 => k_asm); (case k6 => (intro dx'; k_upd)); (case k4 => first | (with_reducible assumption) | exact Mine.xc60 _ rfl); (case k5 => k_is); k_whole; intro d' h' F' N' l1; (try dsimp only at N'); (try k_lt l1); (try k_sweep)))
  k_with "setAttr ref" => (k_here; k_dflt (refine' Mine.set_dictK ?k1 ?k2 ?k3 ?k4 ?k5 ?k6 ?k7 ?k10 ?k11 ?k12 ?k13 ?_; (case k1 => k_asm); (case k2 => k_asm); (case k3 => k_asm); (case k4 => (refine' Mine.instX ?N ?h1 ?h2; (case N => k_asm); (case h1 => k_mem); (case h2 => k_mem))); (case k5 => exact rfl); (case k6 => first | (with_reducible assumption) | exact Mine.xc60 _ rfl); (case k7 => k_is); (case k10 => k_get); (case k11 => k_put); (case k12 => k_upd); (case k13 => exact Nat.le_of_ble_eq_true rfl); k_whole; intro h' F' N'; (try k_sweep)))
  k_with "setAttr ref" => (k_here; (with_reducible show wpAny _ _ (setAttr (Value.ref _) (PySem.Str.ofString "args") (Value.ref _)) _ _ _); k_dflt (refine' Mine.set_argsK ?k1 ?k2 ?k3 ?k4 ?k5 ?k6 ?k7 ?k8 ?_; (case k1 => k_asm); (case k2 => k_asm); (case k3 => k_asm); (case k4 => (refine' Mine.instX ?N ?h1 ?h2; (case N => k_asm); (case h1 => k_mem); (case h2 => k_mem))); (case k5 => first | (with_reducible assumption) | exact Mine.xc60 _ rfl); (case k6 => k_is); (case k7 => exact News.isTup (by k_asm) (by k_mem)); (case k8 => k_upd); k_whole; intro h' F' N'; (try k_sweep)))
  k_with "getAttr ref" => (k_here; k_dflt (refine' Mine.get_ownX ?k1 ?k2 ?k3 ?k4 ?k5 ?k6 ?k7 ?k8 ?_; (case k1 => k_asm); (case k2 => k_asm); (case k3 => (refine' Mine.instX ?N ?h1 ?h2; (case N => k_asm); (case h1 => k_mem); (case h2 => k_mem))); (case k4 => first | (with_reducible assumption) | exact Mine.xc60 _ rfl); (case k5 => k_is); (case k6 => k_is); (case k7 => k_get); (case k8 => first | k_handed | with_reducible assumption); k_whole))
  k_with "getAttr ref" => (k_here; (with_reducible show wpAny _ _ (getAttr (Value.ref _) (PySem.Str.ofString "args") _) _ _ _); k_dflt (refine' Mine.get_argsX ?k1 ?k2 ?k3 ?k4 ?k5 ?k6 ?k7 ?_; (case k1 => k_asm); (case k2 => k_asm); (case k3 => (refine' Mine.instX ?N ?h1 ?h2; (case N => k_asm); (case h1 => k_mem); (case h2 => k_mem))); (case k4 => first | (with_reducible assumption) | exact Mine.xc60 _ rfl); (case k5 => k_is); (case k6 => k_is); (case k7 => k_is); k_whole))
  k_with "call ref" => (k_here; (with_reducible show wpAny _ _ (call (Value.ref 69) _) _ _ _); k_dflt (refine' Mine.figures_T _ _ _ _ _ _ _ _ _ _ _ _ _ _ _ _ _ _ _ _ _ _ _ _ _ _ _ ?kB ?kF ?kX ?kT ?kk ?kd ?ku ?n1 ?n2 ?_; (case kB => k_asm); (case kF => k_asm); (case kX => k_asm); (case kT => k_asm); (case kk => first | exact rfl | assumption); (case kd => ktr_room); (case ku => ktr_units); (case n1 => assumption); (case n2 => assumption); k_whole); intro t' h' tk' hk' F'; (have N' := Mine.news_kept hk' (by k_asm)); (clear hk'); (try dsimp only))
  k_with "call ref" => (k_here; (with_reducible show wpAny _ _ (call (Value.ref 74) [_]) _ _ _); k_dflt (refine' Mine.Says.go ?hs _ _ _ _ _ _ _ _ _ _ _ _ _ _ _ _ _ _ _ _ _ _ _ _ ?kB ?kF ?kX ?kT ?kk ?kd ?ku ?hN ?_; (case hs => with_reducible assumption); (case kB => k_asm); (case kF => k_asm); (case kX => k_asm); (case kT => k_asm); (case kk => first | exact rfl | assumption); (case kd => ktr_room); (case ku => ktr_units); (case hN => ((refine' Mine.news_of ?hN1 ?hN2); (case hN1 => k_asm); (case hN2 => (repeat (first | exact List.forall_mem_nil _ | refine List.forall_mem_cons.mpr ⟨by k_mem, ?_⟩))))); k_whole); intro t' h' tk' hk' F'; (have N' := Mine.news_kept hk' (by k_asm)); (clear hk'); (try dsimp only))
  k_with "ite" => (k_here; (first | refine Mine.ite_ff ?_ | refine Mine.ite_tt ?_))
  k_with "binaryOp Mult str int" => (k_here; (refine Mine.pad_mul (by assumption) ?_); intro _ _)
  k_fill
  intro w loose mean mg mb dp un cn cs a ccd cl outer A₀ base h₀ L m h g d tk os Q E aS aT aL aN oS oT oL oN sec r src x u B F X T hk hd hu N hl1 hs1 HX hret
  refine wpAny_call ?_
  (refine' Mine.code_defG ?k1 ?k2 ?k3 ?k4 ?k5 ?kA ?kF ?kK ?k6 ?k7 ?k8 ?k9 ?kB ?_ ?c2 ?c3 ?c4 ?c5)
  (case kA => exact rfl)
  (case kF => exact rfl)
  (case kK => first | exact rfl | assumption)
  (case k1 => k_asm)
  (case k2 => k_asm)
  (case k3 => k_asm)
  (case k4 => exact N)
  (case k5 => k_asm)
  (case k6 => k_is)
  (case k7 => k_is)
  (case k8 => ktr_room)
  (case k9 => first | exact BindsTo.of_eq rfl | exact binds_K (by k_in) rfl (by k_is) rfl rfl rfl | fail "no rule for these arguments")
  (case c5 => decide)
  (case kB => exact locs rfl)
  (case c2 => exact rfl)
  (case c3 => exact rfl)
  (case c4 => exact rfl)
  intro g1 L1 h2 tk2 hg1 FG1 F2 N2 B2 X2 T2 l2
  (try k_lt l2)
  (try k_lift B2)
  (try k_fold)
  k_steps
  all_goals (exact hret _ _ _ (keep_N hg1 N (by k_asm) (by k_asm) (fun p hp => by first | exact hp | exact List.mem_cons_of_mem _ hp)) (by k_asm))
set_option rowWalk.seconds 0 in
set_option maxRecDepth 100000 in
set_option maxHeartbeats 16000000 in
theorem toldY_T : ∀ (w : World) (loose : List PySem.Str) (mean : ExcName → Option Value) (mg mb : PySem.Str → Option Value) (dp un : Nat) (cn : PySem.Str) (cs : Scope) (a : Addr) (ccd : Value) (cl : List (PySem.Str × Addr)) (outer : List Env) (A₀ : Around) (base h₀ : Heap) (L : Addr) (m : PySem.Str → Option Value) (h : Heap) (g : Array GenState) (d : Drawn) (tk : Nat) (os : OsState) (Q E : Value → Shared → Prop) (aS aT aL aN : Addr) (oS oT oL oN : Obj) (sec : Value) (r : PySem.Str) (src : Value) (its : Array Value) (k : Nat), Below A₀ base outer h₀ → Fr h₀ L h m → (Mine.hd.heap_39 w.params).In h₀ → Top Mine.hd.view_39 loose mean mg mb h₀ → cs.kind = .function → dp + 30 < recursionLimit → un + 600 < cLine → News h₀ L h [(aS, oS), (aT, oT), (aL, oL), (aN, oN)] → r.length ≤ 600 → Says w [(aS, oS)] 18 320 sec r → (src == Value.none) = false → oN = tupK its k →
    (∀ t h' tk', (∀ b o, h.get? b = some o → h'.get? b = some o) → Fr h₀ L h' m → Q (.str (PySem.Str.ofString "TypeError") t) ⟨h', g, d, tk', os⟩) →
    wpAny (model PySem.Challenge.rw_dm0029_02.row.prog w) (ktrTop dp un (some []) cn cs L a ccd cl outer) (call (.ref 88) [sec, src, .ref aN]) Q E ⟨h, g, d, tk, os⟩ := by
  k_with_none
  k_with "ne" => (first | exact Mine.ne_l1 (by assumption) | exact Mine.ne_l1' (by assumption) | exact Mine.ne_r1 (by assumption) | exact Mine.ne_r1' (by assumption) | exact Mine.ne_l2 (by assumption) | exact Mine.ne_l2' (by assumption) | exact Mine.ne_r2 (by assumption) | exact Mine.ne_r2' (by assumption) | exact Mine.ne_l3 (by assumption) | exact Mine.ne_l3' (by assumption) | exact Mine.ne_r3 (by assumption) | exact Mine.ne_r3' (by assumption) | exact Mine.ne_l4 (by assumption) | exact Mine.ne_l4' (by assumption) | exact Mine.ne_r4 (by assumption) | exact Mine.ne_r4' (by assumption) | exact Mine.ne_l5 (by assumption) | exact Mine.ne_l5' (by assumption) | exact Mine.ne_r5 (by assumption) | exact Mine.ne_r5' (by assumption) | exact Mine.ne_l6 (by assumption) | exact Mine.ne_l6' (by assumption) | exact Mine.ne_r6 (by assumption) | exact Mine.ne_r6' (by assumption) | exact Mine.ne_l7 (by assumption) | exact Mine.ne_l7' (by assumption) | exact Mine.ne_r7 (by assumption) | exact Mine.ne_r7' (by assumption) | exact Mine.ne_l8 (by assumption) | exact Mine.ne_l8' (by assumption) | exact Mine.ne_r8 (by assumption) | exact Mine.ne_r8' (by assumption) | exact Mine.ne_l9 (by assumption) | exact Mine.ne_l9' (by assumption) | exact Mine.ne_r9 (by assumption) | exact Mine.ne_r9' (by assumption))
  k_with "exec For Name BinOp cons nil" => (k_here; (rename Fr _ _ _ _ => lF'); (with_unfolding_all refine' For_invVF lF' ?k1 ?k2 ?_; (case k1 => exact rfl); (case k2 => exact rfl); k_whole))
  k_with "call ref" => (k_here; (fail_if_success (with_reducible show wpAny _ _ (call (Value.ref 74) _) _ _ _)); (fail_if_success (with_reducible show wpAny _ _ (call (Value.ref 69) _) _ _ _)); k_dflt ((refine wpAny_call ?_); (refine' Mine.code_defG ?k1 ?k2 ?k3 ?k4 ?k5 ?kA ?kF ?kK ?k6 ?k7 ?k8 ?k9 ?kB ?_ ?c2 ?c3 ?c4 ?c5); (case kA => exact rfl); (case kF => exact rfl); (case kK => first | exact rfl | assumption); (case k1 => k_asm); (case k2 => k_asm); (case k3 => k_asm); (case k4 => k_asm); (case k5 => k_asm); (case k6 => k_is); (case k7 => k_is); (case k8 => ktr_room); (case k9 => first | exact BindsTo.of_eq rfl | exact binds_K (by k_in) rfl (by k_is) rfl rfl rfl | fail "no rule for these arguments"); (case c5 => decide); (case kB => exact locs rfl); (case c2 => exact rfl); (case c3 => exact rfl); (case c4 => exact rfl); k_whole; intro g' L' h' tk' hg' FG' F' N' B' X' T' l'; (clear hg'); (try k_lt l'); (try dsimp only); (try k_lift B'); (try k_fold)))
  k_with "call builtin:repr" => (k_here; (with_reducible show wpAny _ _ (call (Value.builtin "repr") [_]) _ _ _); k_dflt ((refine' Mine.ReprAs.run ?r0 ?rF ?rN ?rk ?ru ?rg ?_); (case r0 => with_reducible assumption); (case rF => k_asm); (case rN => k_asm); (case rk => first | exact (fun b o e => (Mine.keep_X (by with_reducible assumption) (by with_reducible assumption) (by with_reducible assumption) (by with_reducible assumption) b o e).1) | exact (fun _ _ e => Fr.keep (by with_reducible assumption) _ _ (Fr.keep (by with_reducible assumption) _ _ e)) | exact (fun _ _ e => Fr.keep (by with_reducible assumption) _ _ e)); (case ru => ((try simp only [units_deeper, units_in1, units_under_make, Mine.units_under_kw]); ktr_units)); (case rg => exact rfl); k_whole; intro t' k' h' F' N'))
  k_with "compareOp IsNot" => (k_here; (with_reducible show wpAny _ _ (compareOp CmpOp.IsNot _ Value.none) _ _ _); refine Mine.isNot_none' (by with_reducible assumption) ?_)
  k_with "compareOp Is" => (k_here; (with_reducible show wpAny _ _ (compareOp CmpOp.Is _ Value.none) _ _ _); refine Mine.is_none' (by with_reducible assumption) ?_)
  k_with "getMethod type:Exception" => (k_here; refine' method_type ?F ?X ?m (by decide +kernel) ?e ?h ?_; (case F => k_asm); (case X => k_asm); (case m => kernel_rfl); (case e => k_dflt k_is); (case h => k_handed))
  k_with "call builtin:Exception.__init__" => (k_here; k_dflt (refine' Mine.init_K ?k1 ?k2 ?k3 ?k4 ?k5 ?k6 ?_; (case k1 => k_asm); (case k2 => k_asm); (case k3 => k_asm); (case k6 => (intro tx'; k_upd)); (case k4 => first | (with_reducible assumption) | exact Mine.xc60 _ rfl); (case k5 => exact Nat.le_of_ble_eq_true rfl); k_whole); intro t' h' F' N' l1; (try dsimp only at N'); (try k_lt l1); (try k_sweep))
  k_with "call builtin:str.format" => (k_here; (with_reducible show wpAny _ _ (call (Value.builtin "str.format") [Value.str _ _, Value.int _ _]) _ _ _); (refine Mine.line_2d (by assumption) (by assumption) ?_); intro _ _)
  k_with "call builtin:str.join" => (k_here; (with_reducible show wpAny _ _ (call (Value.builtin "str.join") [Value.str _ _, Value.ref _]) _ _ _); k_dflt (refine' Mine.join_cat ?jN ?jm ?ji ?jB ?jn ?_; (case jN => k_asm); (case jm => k_mem); (case ji => repeat (first | exact PyProof.Rows.StrsAre.nil | apply PyProof.Rows.StrsAre.cons)); (case jB => (repeat (first | exact List.forall_mem_nil _ | refine List.forall_mem_cons.mpr ⟨by first | (with_reducible exact Mine.le5 (Mine.ReprAs.len (by assumption))) | (with_reducible exact Mine.line_len (by assumption) (by assumption)) | decide +kernel, ?_⟩))); (case jn => exact Nat.le_of_ble_eq_true rfl)); intro _ _; (try simp only [Mine.catS]))
  k_with "setAttr ref" => (k_here; k_dflt (refine' Mine.set_newK ?k1 ?k2 ?k3 ?k4 ?k5 ?k6 ?_; (case k1 => k_asm); (case k2 => k_asm); (case k3 => k_asm); (case k6 => (intro dx'; k_upd)); (case k4 => first | (with_reducible assumption) | exact Mine.xc60 _ rfl); (case k5 => k_is); k_whole; intro d' h' F' N' l1; (try dsimp only at N'); (try k_lt l1); (try k_sweep)))
  k_with "setAttr ref" => (k_here; k_dflt (refine' Mine.set_dictK ?k1 ?k2 ?k3 ?k4 ?k5 ?k6 ?k7 ?k10 ?k11 ?k12 ?k13 ?_; (case k1 => k_asm); (case k2 => k_asm); (case k3 => k_asm); (case k4 => (refine' Mine.instX ?N ?h1 ?h2; (case N => k_asm); (case h1 => k_mem); (case h2 => k_mem))); (case k5 => exact rfl); (case k6 => first | (with_reducible assumption) | exact Mine.xc60 _ rfl); (case k7 => k_is); (case k10 => k_get); (case k11 => k_put); (case k12 => k_upd); (case k13 => exact Nat.le_of_ble_eq_true rfl); k_whole; intro h' F' N'; (try k_sweep)))
  k_with "setAttr ref" => (k_here; (with_reducible show wpAny _ _ (setAttr (Value.ref _) (PySem.Str.ofString "args") (Value.ref _)) _ _ _); k_dflt (refine' Mine.set_argsK ?k1 ?k2 ?k3 ?k4 ?k5 ?k6 ?k7 ?k8 ?_; (case k1 => k_asm); (case k2 => k_asm); (case k3 => k_asm); (case k4 => (refine' Mine.instX ?N ?h1 ?h2; (case N => k_asm); (case h1 => k_mem); (case h2 => k_mem))); (case k5 => first | (with_reducible assumption) | exact Mine.xc60 _ rfl); (case k6 => k_is); (case k7 => exact News.isTup (by k_asm) (by k_mem)); (case k8 => k_upd); k_whole; intro h' F' N'; (try k_sweep)))
  k_with "getAttr ref" => (k_here; k_dflt (refine' Mine.get_ownX ?k1 ?k2 ?k3 ?k4 ?k5 ?k6 ?k7 ?k8 ?_; (case k1 => k_asm); (case k2 => k_asm); (case k3 => (refine' Mine.instX ?N ?h1 ?h2; (case N => k_asm); (case h1 => k_mem); (case h2 => k_mem))); (case k4 => first | (with_reducible assumption) | exact Mine.xc60 _ rfl); (case k5 => k_is); (case k6 => k_is); (case k7 => k_get); (case k8 => first | k_handed | with_reducible assumption); k_whole))
  k_with "getAttr ref" => (k_here; (with_reducible show wpAny _ _ (getAttr (Value.ref _) (PySem.Str.ofString "args") _) _ _ _); k_dflt (refine' Mine.get_argsX ?k1 ?k2 ?k3 ?k4 ?k5 ?k6 ?k7 ?_; (case k1 => k_asm); (case k2 => k_asm); (case k3 => (refine' Mine.instX ?N ?h1 ?h2; (case N => k_asm); (case h1 => k_mem); (case h2 => k_mem))); (case k4 => first | (with_reducible assumption) | exact Mine.xc60 _ rfl); (case k5 => k_is); (case k6 => k_is); (case k7 => k_is); k_whole))
  k_with "call ref" => (k_here; (with_reducible show wpAny _ _ (call (Value.ref 69) _) _ _ _); k_dflt (refine' Mine.figures_T _ _ _ _ _ _ _ _ _ _ _ _ _ _ _ _ _ _ _ _ _ _ _ _ _ _ _ ?kB ?kF ?kX ?kT ?kk ?kd ?ku ?n1 ?n2 ?_; (case kB => k_asm); (case kF => k_asm); (case kX => k_asm); (case kT => k_asm); (case kk => first | exact rfl | assumption); (case kd => ktr_room); (case ku => ktr_units); (case n1 => assumption); (case n2 => assumption); k_whole); intro t' h' tk' hk' F'; (have N' := Mine.news_kept hk' (by k_asm)); (clear hk'); (try dsimp only))
  k_with "call ref" => (k_here; (with_reducible show wpAny _ _ (call (Value.ref 74) [_]) _ _ _); k_dflt (refine' Mine.Says.go ?hs _ _ _ _ _ _ _ _ _ _ _ _ _ _ _ _ _ _ _ _ _ _ _ _ ?kB ?kF ?kX ?kT ?kk ?kd ?ku ?hN ?_; (case hs => with_reducible assumption); (case kB => k_asm); (case kF => k_asm); (case kX => k_asm); (case kT => k_asm); (case kk => first | exact rfl | assumption); (case kd => ktr_room); (case ku => ktr_units); (case hN => ((refine' Mine.news_of ?hN1 ?hN2); (case hN1 => k_asm); (case hN2 => (repeat (first | exact List.forall_mem_nil _ | refine List.forall_mem_cons.mpr ⟨by k_mem, ?_⟩))))); k_whole); intro t' h' tk' hk' F'; (have N' := Mine.news_kept hk' (by k_asm)); (clear hk'); (try dsimp only))
  k_with "ite" => (k_here; (first | refine Mine.ite_ff ?_ | refine Mine.ite_tt ?_))
  k_with "binaryOp Mult str int" => (k_here; (refine Mine.pad_mul (by assumption) ?_); intro _ _)
  k_fill
  intro w loose mean mg mb dp un cn cs a ccd cl outer A₀ base h₀ L m h g d tk os Q E aS aT aL aN oS oT oL oN sec r src its k B F X T hk hd hu N hl1 hs1 HX HY hret
  subst HY
  refine wpAny_call ?_
  (refine' Mine.code_defG ?k1 ?k2 ?k3 ?k4 ?k5 ?kA ?kF ?kK ?k6 ?k7 ?k8 ?k9 ?kB ?_ ?c2 ?c3 ?c4 ?c5)
  (case kA => exact rfl)
  (case kF => exact rfl)
  (case kK => first | exact rfl | assumption)
  (case k1 => k_asm)
  (case k2 => k_asm)
  (case k3 => k_asm)
  (case k4 => exact N)
  (case k5 => k_asm)
  (case k6 => k_is)
  (case k7 => k_is)
  (case k8 => ktr_room)
  (case k9 => first | exact BindsTo.of_eq rfl | exact binds_K (by k_in) rfl (by k_is) rfl rfl rfl | fail "no rule for these arguments")
  (case c5 => decide)
  (case kB => exact locs rfl)
  (case c2 => exact rfl)
  (case c3 => exact rfl)
  (case c4 => exact rfl)
  intro g1 L1 h2 tk2 hg1 FG1 F2 N2 B2 X2 T2 l2
  (try k_lt l2)
  (try k_lift B2)
  (try k_fold)
  k_steps
  all_goals (exact hret _ _ _ (keep_N hg1 N (by k_asm) (by k_asm) (fun p hp => by first | exact hp | exact List.mem_cons_of_mem _ hp)) (by k_asm))
set_option rowWalk.seconds 0 in
set_option maxRecDepth 100000 in
set_option maxHeartbeats 16000000 in
theorem toldS_T : ∀ (w : World) (loose : List PySem.Str) (mean : ExcName → Option Value) (mg mb : PySem.Str → Option Value) (dp un : Nat) (cn : PySem.Str) (cs : Scope) (a : Addr) (ccd : Value) (cl : List (PySem.Str × Addr)) (outer : List Env) (A₀ : Around) (base h₀ : Heap) (L : Addr) (m : PySem.Str → Option Value) (h : Heap) (g : Array GenState) (d : Drawn) (tk : Nat) (os : OsState) (Q E : Value → Shared → Prop) (aS aT aL aN : Addr) (oS oT oL oN : Obj) (sec : Value) (r : PySem.Str) (src lin : Value) (rv : PySem.Str) (ln : Option Int), Below A₀ base outer h₀ → Fr h₀ L h m → (Mine.hd.heap_39 w.params).In h₀ → Top Mine.hd.view_39 loose mean mg mb h₀ → cs.kind = .function → dp + 30 < recursionLimit → un + 600 < cLine → News h₀ L h [(aS, oS), (aT, oT), (aL, oL), (aN, oN)] → r.length ≤ 600 → Says w [(aS, oS)] 18 320 sec r → (src == Value.none) = false → rv.length ≤ 600 → Says w [(aT, oT), (aL, oL)] 18 320 src rv → LinIs lin ln →
    (∀ t h' tk', (∀ b o, h.get? b = some o → h'.get? b = some o) → Fr h₀ L h' m → Q (.str (againMsg (PySem.Str.ofString "Section ") (PySem.Str.ofString ": section ") [r, PySem.Str.ofString " already exists"] (some rv) ln) t) ⟨h', g, d, tk', os⟩) →
    wpAny (model PySem.Challenge.rw_dm0029_02.row.prog w) (ktrTop dp un (some []) cn cs L a ccd cl outer) (call (.ref 88) [sec, src, lin]) Q E ⟨h, g, d, tk, os⟩ := by
  k_with_none
  k_with "ne" => (first | exact Mine.ne_l1 (by assumption) | exact Mine.ne_l1' (by assumption) | exact Mine.ne_r1 (by assumption) | exact Mine.ne_r1' (by assumption) | exact Mine.ne_l2 (by assumption) | exact Mine.ne_l2' (by assumption) | exact Mine.ne_r2 (by assumption) | exact Mine.ne_r2' (by assumption) | exact Mine.ne_l3 (by assumption) | exact Mine.ne_l3' (by assumption) | exact Mine.ne_r3 (by assumption) | exact Mine.ne_r3' (by assumption) | exact Mine.ne_l4 (by assumption) | exact Mine.ne_l4' (by assumption) | exact Mine.ne_r4 (by assumption) | exact Mine.ne_r4' (by assumption) | exact Mine.ne_l5 (by assumption) | exact Mine.ne_l5' (by assumption) | exact Mine.ne_r5 (by assumption) | exact Mine.ne_r5' (by assumption) | exact Mine.ne_l6 (by assumption) | exact Mine.ne_l6' (by assumption) | exact Mine.ne_r6 (by assumption) | exact Mine.ne_r6' (by assumption) | exact Mine.ne_l7 (by assumption) | exact Mine.ne_l7' (by assumption) | exact Mine.ne_r7 (by assumption) | exact Mine.ne_r7' (by assumption) | exact Mine.ne_l8 (by assumption) | exact Mine.ne_l8' (by assumption) | exact Mine.ne_r8 (by assumption) | exact Mine.ne_r8' (by assumption) | exact Mine.ne_l9 (by assumption) | exact Mine.ne_l9' (by assumption) | exact Mine.ne_r9 (by assumption) | exact Mine.ne_r9' (by assumption))
  k_with "exec For Name BinOp cons nil" => (k_here; (rename Fr _ _ _ _ => lF'); (with_unfolding_all refine' For_invVF lF' ?k1 ?k2 ?_; (case k1 => exact rfl); (case k2 => exact rfl); k_whole))
  k_with "call ref" => (k_here; (fail_if_success (with_reducible show wpAny _ _ (call (Value.ref 74) _) _ _ _)); (fail_if_success (with_reducible show wpAny _ _ (call (Value.ref 69) _) _ _ _)); k_dflt ((refine wpAny_call ?_); (refine' Mine.code_defG ?k1 ?k2 ?k3 ?k4 ?k5 ?kA ?kF ?kK ?k6 ?k7 ?k8 ?k9 ?kB ?_ ?c2 ?c3 ?c4 ?c5); (case kA => exact rfl); (case kF => exact rfl); (case kK => first | exact rfl | assumption); (case k1 => k_asm); (case k2 => k_asm); (case k3 => k_asm); (case k4 => k_asm); (case k5 => k_asm); (case k6 => k_is); (case k7 => k_is); (case k8 => ktr_room); (case k9 => first | exact BindsTo.of_eq rfl | exact binds_K (by k_in) rfl (by k_is) rfl rfl rfl | fail "no rule for these arguments"); (case c5 => decide); (case kB => exact locs rfl); (case c2 => exact rfl); (case c3 => exact rfl); (case c4 => exact rfl); k_whole; intro g' L' h' tk' hg' FG' F' N' B' X' T' l'; (clear hg'); (try k_lt l'); (try dsimp only); (try k_lift B'); (try k_fold)))
  k_with "call builtin:repr" => (k_here; (with_reducible show wpAny _ _ (call (Value.builtin "repr") [_]) _ _ _); k_dflt ((refine' Mine.ReprAs.run ?r0 ?rF ?rN ?rk ?ru ?rg ?_); (case r0 => with_reducible assumption); (case rF => k_asm); (case rN => k_asm); (case rk => first | exact (fun b o e => (Mine.keep_X (by with_reducible assumption) (by with_reducible assumption) (by with_reducible assumption) (by with_reducible assumption) b o e).1) | exact (fun _ _ e => Fr.keep (by with_reducible assumption) _ _ (Fr.keep (by with_reducible assumption) _ _ e)) | exact (fun _ _ e => Fr.keep (by with_reducible assumption) _ _ e)); (case ru => ((try simp only [units_deeper, units_in1, units_under_make, Mine.units_under_kw]); ktr_units)); (case rg => exact rfl); k_whole; intro t' k' h' F' N'))
  k_with "compareOp IsNot" => (k_here; (with_reducible show wpAny _ _ (compareOp CmpOp.IsNot _ Value.none) _ _ _); refine Mine.isNot_none' (by with_reducible assumption) ?_)
  k_with "compareOp Is" => (k_here; (with_reducible show wpAny _ _ (compareOp CmpOp.Is _ Value.none) _ _ _); refine Mine.is_none' (by with_reducible assumption) ?_)
  k_with "getMethod type:Exception" => (k_here; refine' method_type ?F ?X ?m (by decide +kernel) ?e ?h ?_; (case F => k_asm); (case X => k_asm); (case m => kernel_rfl); (case e => k_dflt k_is); (case h => k_handed))
  k_with "call builtin:Exception.__init__" => (k_here; k_dflt (refine' Mine.init_K ?k1 ?k2 ?k3 ?k4 ?k5 ?k6 ?_; (case k1 => k_asm); (case k2 => k_asm); (case k3 => k_asm); (case k6 => (intro tx'; k_upd)); (case k4 => first | (with_reducible assumption) | exact Mine.xc60 _ rfl); (case k5 => exact Nat.le_of_ble_eq_true rfl); k_whole); intro t' h' F' N' l1; (try dsimp only at N'); (try k_lt l1); (try k_sweep))
  k_with "call builtin:str.format" => (k_here; (with_reducible show wpAny _ _ (call (Value.builtin "str.format") [Value.str _ _, Value.int _ _]) _ _ _); (refine Mine.line_2d (by assumption) (by assumption) ?_); intro _ _)
  k_with "call builtin:str.join" => (k_here; (with_reducible show wpAny _ _ (call (Value.builtin "str.join") [Value.str _ _, Value.ref _]) _ _ _); k_dflt (refine' Mine.join_cat ?jN ?jm ?ji ?jB ?jn ?_; (case jN => k_asm); (case jm => k_mem); (case ji => repeat (first | exact PyProof.Rows.StrsAre.nil | apply PyProof.Rows.StrsAre.cons)); (case jB => (repeat (first | exact List.forall_mem_nil _ | refine List.forall_mem_cons.mpr ⟨by first | (with_reducible exact Mine.le5 (Mine.ReprAs.len (by assumption))) | (with_reducible exact Mine.line_len (by assumption) (by assumption)) | decide +kernel, ?_⟩))); (case jn => exact Nat.le_of_ble_eq_true rfl)); intro _ _; (try simp only [Mine.catS]))
  k_with "setAttr ref" => (k_here; k_dflt (refine' Mine.set_newK ?k1 ?k2 ?k3 ?k4 ?k5 ?k6 ?_; (case k1 => k_asm); (case k2 => k_asm); (case k3 => k_asm); (case k6 => (intro dx'; k_upd)); (case k4 => first | (with_reducible assumption) | exact Mine.xc60 _ rfl); (case k5 => k_is); k_whole; intro d' h' F' N' l1; (try dsimp only at N'); (try k_lt l1); (try k_sweep)))
  k_with "setAttr ref" => (k_here; k_dflt (refine' Mine.set_dictK ?k1 ?k2 ?k3 ?k4 ?k5 ?k6 ?k7 ?k10 ?k11 ?k12 ?k13 ?_; (case k1 => k_asm); (case k2 => k_asm); (case k3 => k_asm); (case k4 => (refine' Mine.instX ?N ?h1 ?h2; (case N => k_asm); (case h1 => k_mem); (case h2 => k_mem))); (case k5 => exact rfl); (case k6 => first | (with_reducible assumption) | exact Mine.xc60 _ rfl); (case k7 => k_is); (case k10 => k_get); (case k11 => k_put); (case k12 => k_upd); (case k13 => exact Nat.le_of_ble_eq_true rfl); k_whole; intro h' F' N'; (try k_sweep)))
  k_with "setAttr ref" => (k_here; (with_reducible show wpAny _ _ (setAttr (Value.ref _) (PySem.Str.ofString "args") (Value.ref _)) _ _ _); k_dflt (refine' Mine.set_argsK ?k1 ?k2 ?k3 ?k4 ?k5 ?k6 ?k7 ?k8 ?_; (case k1 => k_asm); (case k2 => k_asm); (case k3 => k_asm); (case k4 => (refine' Mine.instX ?N ?h1 ?h2; (case N => k_asm); (case h1 => k_mem); (case h2 => k_mem))); (case k5 => first | (with_reducible assumption) | exact Mine.xc60 _ rfl); (case k6 => k_is); (case k7 => exact News.isTup (by k_asm) (by k_mem)); (case k8 => k_upd); k_whole; intro h' F' N'; (try k_sweep)))
  k_with "getAttr ref" => (k_here; k_dflt (refine' Mine.get_ownX ?k1 ?k2 ?k3 ?k4 ?k5 ?k6 ?k7 ?k8 ?_; (case k1 => k_asm); (case k2 => k_asm); (case k3 => (refine' Mine.instX ?N ?h1 ?h2; (case N => k_asm); (case h1 => k_mem); (case h2 => k_mem))); (case k4 => first | (with_reducible assumption) | exact Mine.xc60 _ rfl); (case k5 => k_is); (case k6 => k_is); (case k7 => k_get); (case k8 => first | k_handed | with_reducible assumption); k_whole))
  k_with "getAttr ref" => (k_here; (with_reducible show wpAny _ _ (getAttr (Value.ref _) (PySem.Str.ofString "args") _) _ _ _); k_dflt (refine' Mine.get_argsX ?k1 ?k2 ?k3 ?k4 ?k5 ?k6 ?k7 ?_; (case k1 => k_asm); (case k2 => k_asm); (case k3 => (refine' Mine.instX ?N ?h1 ?h2; (case N => k_asm); (case h1 => k_mem); (case h2 => k_mem))); (case k4 => first | (with_reducible assumption) | exact Mine.xc60 _ rfl); (case k5 => k_is); (case k6 => k_is); (case k7 => k_is); k_whole))
  k_with "call ref" => (k_here; (with_reducible show wpAny _ _ (call (Value.ref 69) _) _ _ _); k_dflt (refine' Mine.figures_T _ _ _ _ _ _ _ _ _ _ _ _ _ _ _ _ _ _ _ _ _ _ _ _ _ _ _ ?kB ?kF ?kX ?kT ?kk ?kd ?ku ?n1 ?n2 ?_; (case kB => k_asm); (case kF => k_asm); (case kX => k_asm); (case kT => k_asm); (case kk => first | exact rfl | assumption); (case kd => ktr_room); (case ku => ktr_units); (case n1 => assumption); (case n2 => assumption); k_whole); intro t' h' tk' hk' F'; (have N' := Mine.news_kept hk' (by k_asm)); (clear hk'); (try dsimp only))
  k_with "call ref" => (k_here; (with_reducible show wpAny _ _ (call (Value.ref 74) [_]) _ _ _); k_dflt (refine' Mine.Says.go ?hs _ _ _ _ _ _ _ _ _ _ _ _ _ _ _ _ _ _ _ _ _ _ _ _ ?kB ?kF ?kX ?kT ?kk ?kd ?ku ?hN ?_; (case hs => with_reducible assumption); (case kB => k_asm); (case kF => k_asm); (case kX => k_asm); (case kT => k_asm); (case kk => first | exact rfl | assumption); (case kd => ktr_room); (case ku => ktr_units); (case hN => ((refine' Mine.news_of ?hN1 ?hN2); (case hN1 => k_asm); (case hN2 => (repeat (first | exact List.forall_mem_nil _ | refine List.forall_mem_cons.mpr ⟨by k_mem, ?_⟩))))); k_whole); intro t' h' tk' hk' F'; (have N' := Mine.news_kept hk' (by k_asm)); (clear hk'); (try dsimp only))
  k_with "ite" => (k_here; (first | refine Mine.ite_ff ?_ | refine Mine.ite_tt ?_))
  k_with "binaryOp Mult str int" => (k_here; (refine Mine.pad_mul (by assumption) ?_); intro _ _)
  k_fill
  intro w loose mean mg mb dp un cn cs a ccd cl outer A₀ base h₀ L m h g d tk os Q E aS aT aL aN oS oT oL oN sec r src lin rv ln B F X T hk hd hu N hl1 hs1 HX hl2 hs2 hlin hret
  rcases hlin with _ | ⟨n, tn, hn1, hn2⟩
  all_goals (try (have hp2 := itext_len_le hn1 hn2))
  all_goals (
    refine wpAny_call ?_
    (refine' Mine.code_defG ?k1 ?k2 ?k3 ?k4 ?k5 ?kA ?kF ?kK ?k6 ?k7 ?k8 ?k9 ?kB ?_ ?c2 ?c3 ?c4 ?c5)
    (case kA => exact rfl)
    (case kF => exact rfl)
    (case kK => first | exact rfl | assumption)
    (case k1 => k_asm)
    (case k2 => k_asm)
    (case k3 => k_asm)
    (case k4 => exact N)
    (case k5 => k_asm)
    (case k6 => k_is)
    (case k7 => k_is)
    (case k8 => ktr_room)
    (case k9 => first | exact BindsTo.of_eq rfl | exact binds_K (by k_in) rfl (by k_is) rfl rfl rfl | fail "no rule for these arguments")
    (case c5 => decide)
    (case kB => exact locs rfl)
    (case c2 => exact rfl)
    (case c3 => exact rfl)
    (case c4 => exact rfl)
    intro g1 L1 h2 tk2 hg1 FG1 F2 N2 B2 X2 T2 l2
    (try k_lt l2)
    (try k_lift B2)
    (try k_fold)
    k_steps
  )
  all_goals (first | rw [Mine.told_none] | rw [show _ = _ from Mine.told_some rv r _])
  all_goals (exact hret _ _ _ (keep_N hg1 N (by k_asm) (by k_asm) (fun p hp => by first | exact hp | exact List.mem_cons_of_mem _ hp)) (by k_asm))
theorem ReprAs.up {prog : Program} {w : World} {hB hB' : Heap} {v : Value} {r : PySem.Str} (hr : ReprAs prog w hB v r) (k : ∀ b o, hB.get? b = some o → hB'.get? b = some o) : ReprAs prog w hB' v r :=
  ⟨fun {A E s Q h₀ L m news} F N kk => hr.run F N fun b o e => kk b o (k b o e), hr.len⟩
set_option maxRecDepth 100000 in
theorem binds0 (w : World) (sec src lin : Value) : BindsI (Mine.hd.heap_39 w.params) [sec, src, lin] [] sec (src) (lin) := by
  intro x s X
  with_unfolding_all (first | exact BindsTo.of_eq rfl | exact binds_K X rfl rfl rfl rfl rfl)
set_option maxRecDepth 100000 in
theorem binds1 (w : World) (sec src lin : Value) : BindsI (Mine.hd.heap_39 w.params) [] [(PySem.Str.ofString "lineno", lin), (PySem.Str.ofString "source", src), (PySem.Str.ofString "section", sec)] sec (src) (lin) := by
  intro x s X
  with_unfolding_all (first | exact BindsTo.of_eq rfl | exact binds_K X rfl rfl rfl rfl rfl)
set_option maxRecDepth 100000 in
theorem binds2 (w : World) (sec lin : Value) : BindsI (Mine.hd.heap_39 w.params) [sec] [(PySem.Str.ofString "lineno", lin)] sec (.none) (lin) := by
  intro x s X
  with_unfolding_all (first | exact BindsTo.of_eq rfl | exact binds_K X rfl rfl rfl rfl rfl)
set_option maxRecDepth 100000 in
theorem binds3 (w : World) (sec src : Value) : BindsI (Mine.hd.heap_39 w.params) [sec, src] [] sec (src) (.none) := by
  intro x s X
  with_unfolding_all (first | exact BindsTo.of_eq rfl | exact binds_K X rfl rfl rfl rfl rfl)
set_option maxRecDepth 100000 in
theorem binds4 (w : World) (sec : Value) : BindsI (Mine.hd.heap_39 w.params) [] [(PySem.Str.ofString "section", sec)] sec (.none) (.none) := by
  intro x s X
  with_unfolding_all (first | exact BindsTo.of_eq rfl | exact binds_K X rfl rfl rfl rfl rfl)
set_option rowWalk.seconds 0 in
set_option maxRecDepth 100000 in
set_option maxHeartbeats 16000000 in
theorem born0N_T : ∀ (w : World) (loose : List PySem.Str) (mean : ExcName → Option Value) (mg mb : PySem.Str → Option Value) (dp un : Nat) (cn : PySem.Str) (cs : Scope) (a : Addr) (ccd : Value) (cl : List (PySem.Str × Addr)) (outer : List Env) (A₀ : Around) (base h₀ : Heap) (L : Addr) (m : PySem.Str → Option Value) (h : Heap) (g : Array GenState) (d : Drawn) (tk : Nat) (os : OsState) (Q E : Value → Shared → Prop) (sec : Value) (r : PySem.Str) (lin : Value) (t : Tok), Below A₀ base outer h₀ → Fr h₀ L h m → (Mine.hd.heap_39 w.params).In h₀ → Top Mine.hd.view_39 loose mean mg mb h₀ → cs.kind = .function → dp + 12 < recursionLimit → un + 240 < cLine → ReprAs PySem.Challenge.rw_dm0029_02.row.prog w h sec r → 
    (∀ (x dx tx : Addr) (kt0 kt1 kt2 kt3 km : Tok) (h' : Heap) (tk' : Nat), (∀ b o, h.get? b = some o → h'.get? b = some o) → Fr h₀ L h' m → News h₀ L h' [(x, xObj 60 (some dx) (excF (.ref tx))), (dx, dictOf [⟨PyData.keyHash w.params (PySem.Str.ofString "message"), .str (PySem.Str.ofString "message") kt0, .str (againMsg (PySem.Str.ofString "Section ") (PySem.Str.ofString ": section ") [r, PySem.Str.ofString " already exists"] none none) km⟩, ⟨PyData.keyHash w.params (PySem.Str.ofString "section"), .str (PySem.Str.ofString "section") kt1, sec⟩, ⟨PyData.keyHash w.params (PySem.Str.ofString "source"), .str (PySem.Str.ofString "source") kt2, .none⟩, ⟨PyData.keyHash w.params (PySem.Str.ofString "lineno"), .str (PySem.Str.ofString "lineno") kt3, lin⟩] 4), (tx, tupObj [sec, .none, lin])] → Q (.ref x) ⟨h', g, d, tk', os⟩) →
    wpAny (model PySem.Challenge.rw_dm0029_02.row.prog w) (ktrTop dp un (some []) cn cs L a ccd cl outer) (call (.ref 81) [.int 0 t, sec, .none, lin]) Q E ⟨h, g, d, tk, os⟩ := by
  k_with_none
  k_with "ne" => (first | exact Mine.ne_l1 (by assumption) | exact Mine.ne_l1' (by assumption) | exact Mine.ne_r1 (by assumption) | exact Mine.ne_r1' (by assumption) | exact Mine.ne_l2 (by assumption) | exact Mine.ne_l2' (by assumption) | exact Mine.ne_r2 (by assumption) | exact Mine.ne_r2' (by assumption) | exact Mine.ne_l3 (by assumption) | exact Mine.ne_l3' (by assumption) | exact Mine.ne_r3 (by assumption) | exact Mine.ne_r3' (by assumption) | exact Mine.ne_l4 (by assumption) | exact Mine.ne_l4' (by assumption) | exact Mine.ne_r4 (by assumption) | exact Mine.ne_r4' (by assumption) | exact Mine.ne_l5 (by assumption) | exact Mine.ne_l5' (by assumption) | exact Mine.ne_r5 (by assumption) | exact Mine.ne_r5' (by assumption) | exact Mine.ne_l6 (by assumption) | exact Mine.ne_l6' (by assumption) | exact Mine.ne_r6 (by assumption) | exact Mine.ne_r6' (by assumption) | exact Mine.ne_l7 (by assumption) | exact Mine.ne_l7' (by assumption) | exact Mine.ne_r7 (by assumption) | exact Mine.ne_r7' (by assumption) | exact Mine.ne_l8 (by assumption) | exact Mine.ne_l8' (by assumption) | exact Mine.ne_r8 (by assumption) | exact Mine.ne_r8' (by assumption) | exact Mine.ne_l9 (by assumption) | exact Mine.ne_l9' (by assumption) | exact Mine.ne_r9 (by assumption) | exact Mine.ne_r9' (by assumption))
  k_with "exec For Name BinOp cons nil" => (k_here; (rename Fr _ _ _ _ => lF'); (with_unfolding_all refine' For_invVF lF' ?k1 ?k2 ?_; (case k1 => exact rfl); (case k2 => exact rfl); k_whole))
  k_with "call ref" => (k_here; (fail_if_success (with_reducible show wpAny _ _ (call (Value.ref 60) _) _ _ _)); k_dflt ((refine wpAny_call ?_); (refine' Mine.code_defG ?k1 ?k2 ?k3 ?k4 ?k5 ?kA ?kF ?kK ?k6 ?k7 ?k8 ?k9 ?kB ?_ ?c2 ?c3 ?c4 ?c5); (case kA => exact rfl); (case kF => exact rfl); (case kK => first | exact rfl | assumption); (case k1 => k_asm); (case k2 => k_asm); (case k3 => k_asm); (case k4 => k_asm); (case k5 => k_asm); (case k6 => k_is); (case k7 => k_is); (case k8 => ktr_room); (case k9 => first | exact BindsTo.of_eq rfl | exact binds_K (by k_in) rfl (by k_is) rfl rfl rfl | fail "no rule for these arguments"); (case c5 => decide); (case kB => exact locs rfl); (case c2 => exact rfl); (case c3 => exact rfl); (case c4 => exact rfl); k_whole; intro g' L' h' tk' hg' FG' F' N' B' X' T' l'; (clear hg'); (try k_lt l'); (try dsimp only); (try k_lift B'); (try k_fold)))
  k_with "call builtin:repr" => (k_here; (with_reducible show wpAny _ _ (call (Value.builtin "repr") [_]) _ _ _); k_dflt ((refine' Mine.ReprAs.run ?r0 ?rF ?rN ?rk ?ru ?rg ?_); (case r0 => with_reducible assumption); (case rF => k_asm); (case rN => k_asm); (case rk => first | exact (fun b o e => (Mine.keep_X (by with_reducible assumption) (by with_reducible assumption) (by with_reducible assumption) (by with_reducible assumption) b o e).1) | exact (fun _ _ e => Fr.keep (by with_reducible assumption) _ _ (Fr.keep (by with_reducible assumption) _ _ e)) | exact (fun _ _ e => Fr.keep (by with_reducible assumption) _ _ e)); (case ru => ((try simp only [units_deeper, units_in1, units_under_make, Mine.units_under_kw]); ktr_units)); (case rg => exact rfl); k_whole; intro t' k' h' F' N'))
  k_with "compareOp IsNot" => (k_here; (with_reducible show wpAny _ _ (compareOp CmpOp.IsNot _ Value.none) _ _ _); refine Mine.isNot_none' (by with_reducible assumption) ?_)
  k_with "compareOp Is" => (k_here; (with_reducible show wpAny _ _ (compareOp CmpOp.Is _ Value.none) _ _ _); refine Mine.is_none' (by with_reducible assumption) ?_)
  k_with "getMethod type:Exception" => (k_here; refine' method_type ?F ?X ?m (by decide +kernel) ?e ?h ?_; (case F => k_asm); (case X => k_asm); (case m => kernel_rfl); (case e => k_dflt k_is); (case h => k_handed))
  k_with "call builtin:Exception.__init__" => (k_here; k_dflt (refine' Mine.init_K ?k1 ?k2 ?k3 ?k4 ?k5 ?k6 ?_; (case k1 => k_asm); (case k2 => k_asm); (case k3 => k_asm); (case k6 => (intro tx'; k_upd)); (case k4 => first | (with_reducible assumption) | exact Mine.xc60 _ rfl); (case k5 => exact Nat.le_of_ble_eq_true rfl); k_whole); intro t' h' F' N' l1; (try dsimp only at N'); (try k_lt l1); (try k_sweep))
  k_with "call builtin:str.format" => (k_here; (with_reducible show wpAny _ _ (call (Value.builtin "str.format") [Value.str _ _, Value.int _ _]) _ _ _); (refine Mine.line_2d (by assumption) (by assumption) ?_); intro _ _)
  k_with "call builtin:str.join" => (k_here; (with_reducible show wpAny _ _ (call (Value.builtin "str.join") [Value.str _ _, Value.ref _]) _ _ _); k_dflt (refine' Mine.join_cat ?jN ?jm ?ji ?jB ?jn ?_; (case jN => k_asm); (case jm => k_mem); (case ji => repeat (first | exact PyProof.Rows.StrsAre.nil | apply PyProof.Rows.StrsAre.cons)); (case jB => (repeat (first | exact List.forall_mem_nil _ | refine List.forall_mem_cons.mpr ⟨by first | (with_reducible exact Mine.le5 (Mine.ReprAs.len (by assumption))) | (with_reducible exact Mine.line_len (by assumption) (by assumption)) | decide +kernel, ?_⟩))); (case jn => exact Nat.le_of_ble_eq_true rfl)); intro _ _; (try simp only [Mine.catS]))
  k_with "setAttr ref" => (k_here; k_dflt (refine' Mine.set_newK ?k1 ?k2 ?k3 ?k4 ?k5 ?k6 ?_; (case k1 => k_asm); (case k2 => k_asm); (case k3 => k_asm); (case k6 => (intro dx'; k_upd)); (case k4 => first | (with_reducible assumption) | exact Mine.xc60 _ rfl); (case k5 => k_is); k_whole; intro d' h' F' N' l1; (try dsimp only at N'); (try k_lt l1); (try k_sweep)))
  k_with "setAttr ref" => (k_here; k_dflt (refine' Mine.set_dictK ?k1 ?k2 ?k3 ?k4 ?k5 ?k6 ?k7 ?k10 ?k11 ?k12 ?k13 ?_; (case k1 => k_asm); (case k2 => k_asm); (case k3 => k_asm); (case k4 => (refine' Mine.instX ?N ?h1 ?h2; (case N => k_asm); (case h1 => k_mem); (case h2 => k_mem))); (case k5 => exact rfl); (case k6 => first | (with_reducible assumption) | exact Mine.xc60 _ rfl); (case k7 => k_is); (case k10 => k_get); (case k11 => k_put); (case k12 => k_upd); (case k13 => exact Nat.le_of_ble_eq_true rfl); k_whole; intro h' F' N'; (try k_sweep)))
  k_with "setAttr ref" => (k_here; (with_reducible show wpAny _ _ (setAttr (Value.ref _) (PySem.Str.ofString "args") (Value.ref _)) _ _ _); k_dflt (refine' Mine.set_argsK ?k1 ?k2 ?k3 ?k4 ?k5 ?k6 ?k7 ?k8 ?_; (case k1 => k_asm); (case k2 => k_asm); (case k3 => k_asm); (case k4 => (refine' Mine.instX ?N ?h1 ?h2; (case N => k_asm); (case h1 => k_mem); (case h2 => k_mem))); (case k5 => first | (with_reducible assumption) | exact Mine.xc60 _ rfl); (case k6 => k_is); (case k7 => exact News.isTup (by k_asm) (by k_mem)); (case k8 => k_upd); k_whole; intro h' F' N'; (try k_sweep)))
  k_with "getAttr ref" => (k_here; k_dflt (refine' Mine.get_ownX ?k1 ?k2 ?k3 ?k4 ?k5 ?k6 ?k7 ?k8 ?_; (case k1 => k_asm); (case k2 => k_asm); (case k3 => (refine' Mine.instX ?N ?h1 ?h2; (case N => k_asm); (case h1 => k_mem); (case h2 => k_mem))); (case k4 => first | (with_reducible assumption) | exact Mine.xc60 _ rfl); (case k5 => k_is); (case k6 => k_is); (case k7 => k_get); (case k8 => first | k_handed | with_reducible assumption); k_whole))
  k_with "getAttr ref" => (k_here; (with_reducible show wpAny _ _ (getAttr (Value.ref _) (PySem.Str.ofString "args") _) _ _ _); k_dflt (refine' Mine.get_argsX ?k1 ?k2 ?k3 ?k4 ?k5 ?k6 ?k7 ?_; (case k1 => k_asm); (case k2 => k_asm); (case k3 => (refine' Mine.instX ?N ?h1 ?h2; (case N => k_asm); (case h1 => k_mem); (case h2 => k_mem))); (case k4 => first | (with_reducible assumption) | exact Mine.xc60 _ rfl); (case k5 => k_is); (case k6 => k_is); (case k7 => k_is); k_whole))
  k_with "call ref" => (k_here; (with_reducible show wpAny _ _ (call (Value.ref 60) _ _) _ _ _); (first | (with_reducible show wpAny _ _ (call (Value.ref 60) _ []) _ _ _) | (with_unfolding_all show wpAny _ _ (call (Value.ref 60) _ [(PySem.Str.ofString "lineno", _), (PySem.Str.ofString "source", _), (PySem.Str.ofString "section", _)]) _ _ _) | (with_unfolding_all show wpAny _ _ (call (Value.ref 60) _ [(PySem.Str.ofString "lineno", _)]) _ _ _) | (with_unfolding_all show wpAny _ _ (call (Value.ref 60) _ [(PySem.Str.ofString "section", _)]) _ _ _)); k_dflt (refine' Mine.dseN_T _ _ _ _ _ _ _ _ _ _ _ _ _ _ _ _ _ _ _ _ _ _ _ _ _ _ _ _ _ _ ?kB ?kF ?kX ?kT ?kk ?kd ?ku ?pl ?hb ?r1 ?_; (case hb => first | with_reducible exact Mine.binds0 _ _ _ _ | with_reducible exact Mine.binds1 _ _ _ _ | with_reducible exact Mine.binds2 _ _ _ | with_reducible exact Mine.binds3 _ _ _ | with_reducible exact Mine.binds4 _ _); (case kB => k_asm); (case kF => k_asm); (case kX => k_asm); (case kT => k_asm); (case kk => first | exact rfl | assumption); (case kd => ktr_room); (case ku => ktr_units); (case pl => exact Nat.le_of_ble_eq_true rfl); (case r1 => (refine Mine.ReprAs.up (by with_reducible assumption) ?_; first | exact keep_0 (by assumption) (by k_asm) | exact keep_N (by assumption) (by assumption) (by k_asm) (by k_asm) (fun p hp => by first | exact hp | exact List.mem_cons_of_mem _ hp))); k_whole); intro x' dx' tx' kt0' kt1' kt2' kt3' km' h' tk' hk' F' N1'; (have N' := Mine.news_lift (by k_asm) N1' hk'); (clear N1' hk'); (try simp only [List.cons_append, List.nil_append] at N'); (try dsimp only))
  k_with "ite" => (k_here; (first | refine Mine.ite_ff ?_ | refine Mine.ite_tt ?_))
  k_fill
  intro w loose mean mg mb dp un cn cs a ccd cl outer A₀ base h₀ L m h g d tk os Q E sec r lin t B F X T hk hd hu hrs hret
  refine wpAny_call ?_
  (refine' Mine.code_defG ?k1 ?k2 ?k3 ?k4 ?k5 ?kA ?kF ?kK ?k6 ?k7 ?k8 ?k9 ?kB ?_ ?c2 ?c3 ?c4 ?c5)
  (case kA => exact rfl)
  (case kF => exact rfl)
  (case kK => first | exact rfl | assumption)
  (case k1 => k_asm)
  (case k2 => k_asm)
  (case k3 => k_asm)
  (case k4 => exact PyProof.Rows.News.nil)
  (case k5 => k_asm)
  (case k6 => k_is)
  (case k7 => k_is)
  (case k8 => ktr_room)
  (case k9 => first | exact BindsTo.of_eq rfl | exact binds_K (by k_in) rfl (by k_is) rfl rfl rfl | fail "no rule for these arguments")
  (case c5 => decide)
  (case kB => exact locs rfl)
  (case c2 => exact rfl)
  (case c3 => exact rfl)
  (case c4 => exact rfl)
  intro g1 L1 h2 tk2 hg1 FG1 F2 N2 B2 X2 T2 l2
  (try k_lt l2)
  (try k_lift B2)
  (try k_fold)
  k_steps
  all_goals (refine' hret _ _ _ _ _ _ _ _ _ _ ?keep ?F ?N; (case keep => exact keep_0 hg1 (by k_asm)); (case F => k_asm); (case N => (refine' Mine.news3 ?n0 ?n1 ?n2 ?n3; (case n0 => k_asm); (case n1 => k_mem); (case n2 => k_mem); (case n3 => k_mem))))
set_option rowWalk.seconds 0 in
set_option maxRecDepth 100000 in
set_option maxHeartbeats 16000000 in
theorem born1N_T : ∀ (w : World) (loose : List PySem.Str) (mean : ExcName → Option Value) (mg mb : PySem.Str → Option Value) (dp un : Nat) (cn : PySem.Str) (cs : Scope) (a : Addr) (ccd : Value) (cl : List (PySem.Str × Addr)) (outer : List Env) (A₀ : Around) (base h₀ : Heap) (L : Addr) (m : PySem.Str → Option Value) (h : Heap) (g : Array GenState) (d : Drawn) (tk : Nat) (os : OsState) (Q E : Value → Shared → Prop) (sec : Value) (r : PySem.Str) (lin : Value) (t : Tok), Below A₀ base outer h₀ → Fr h₀ L h m → (Mine.hd.heap_39 w.params).In h₀ → Top Mine.hd.view_39 loose mean mg mb h₀ → cs.kind = .function → dp + 12 < recursionLimit → un + 240 < cLine → ReprAs PySem.Challenge.rw_dm0029_02.row.prog w h sec r → 
    (∀ (x dx tx : Addr) (kt0 kt1 kt2 kt3 km : Tok) (h' : Heap) (tk' : Nat), (∀ b o, h.get? b = some o → h'.get? b = some o) → Fr h₀ L h' m → News h₀ L h' [(x, xObj 60 (some dx) (excF (.ref tx))), (dx, dictOf [⟨PyData.keyHash w.params (PySem.Str.ofString "message"), .str (PySem.Str.ofString "message") kt0, .str (againMsg (PySem.Str.ofString "Section ") (PySem.Str.ofString ": section ") [r, PySem.Str.ofString " already exists"] none none) km⟩, ⟨PyData.keyHash w.params (PySem.Str.ofString "section"), .str (PySem.Str.ofString "section") kt1, sec⟩, ⟨PyData.keyHash w.params (PySem.Str.ofString "source"), .str (PySem.Str.ofString "source") kt2, .none⟩, ⟨PyData.keyHash w.params (PySem.Str.ofString "lineno"), .str (PySem.Str.ofString "lineno") kt3, lin⟩] 4), (tx, tupObj [sec, .none, lin])] → Q (.ref x) ⟨h', g, d, tk', os⟩) →
    wpAny (model PySem.Challenge.rw_dm0029_02.row.prog w) (ktrTop dp un (some []) cn cs L a ccd cl outer) (call (.ref 81) [.int 1 t, sec, .none, lin]) Q E ⟨h, g, d, tk, os⟩ := by
  k_with_none
  k_with "ne" => (first | exact Mine.ne_l1 (by assumption) | exact Mine.ne_l1' (by assumption) | exact Mine.ne_r1 (by assumption) | exact Mine.ne_r1' (by assumption) | exact Mine.ne_l2 (by assumption) | exact Mine.ne_l2' (by assumption) | exact Mine.ne_r2 (by assumption) | exact Mine.ne_r2' (by assumption) | exact Mine.ne_l3 (by assumption) | exact Mine.ne_l3' (by assumption) | exact Mine.ne_r3 (by assumption) | exact Mine.ne_r3' (by assumption) | exact Mine.ne_l4 (by assumption) | exact Mine.ne_l4' (by assumption) | exact Mine.ne_r4 (by assumption) | exact Mine.ne_r4' (by assumption) | exact Mine.ne_l5 (by assumption) | exact Mine.ne_l5' (by assumption) | exact Mine.ne_r5 (by assumption) | exact Mine.ne_r5' (by assumption) | exact Mine.ne_l6 (by assumption) | exact Mine.ne_l6' (by assumption) | exact Mine.ne_r6 (by assumption) | exact Mine.ne_r6' (by assumption) | exact Mine.ne_l7 (by assumption) | exact Mine.ne_l7' (by assumption) | exact Mine.ne_r7 (by assumption) | exact Mine.ne_r7' (by assumption) | exact Mine.ne_l8 (by assumption) | exact Mine.ne_l8' (by assumption) | exact Mine.ne_r8 (by assumption) | exact Mine.ne_r8' (by assumption) | exact Mine.ne_l9 (by assumption) | exact Mine.ne_l9' (by assumption) | exact Mine.ne_r9 (by assumption) | exact Mine.ne_r9' (by assumption))
  k_with "exec For Name BinOp cons nil" => (k_here; (rename Fr _ _ _ _ => lF'); (with_unfolding_all refine' For_invVF lF' ?k1 ?k2 ?_; (case k1 => exact rfl); (case k2 => exact rfl); k_whole))
  k_with "call ref" => (k_here; (fail_if_success (with_reducible show wpAny _ _ (call (Value.ref 60) _) _ _ _)); k_dflt ((refine wpAny_call ?_); (refine' Mine.code_defG ?k1 ?k2 ?k3 ?k4 ?k5 ?kA ?kF ?kK ?k6 ?k7 ?k8 ?k9 ?kB ?_ ?c2 ?c3 ?c4 ?c5); (case kA => exact rfl); (case kF => exact rfl); (case kK => first | exact rfl | assumption); (case k1 => k_asm); (case k2 => k_asm); (case k3 => k_asm); (case k4 => k_asm); (case k5 => k_asm); (case k6 => k_is); (case k7 => k_is); (case k8 => ktr_room); (case k9 => first | exact BindsTo.of_eq rfl | exact binds_K (by k_in) rfl (by k_is) rfl rfl rfl | fail "no rule for these arguments"); (case c5 => decide); (case kB => exact locs rfl); (case c2 => exact rfl); (case c3 => exact rfl); (case c4 => exact rfl); k_whole; intro g' L' h' tk' hg' FG' F' N' B' X' T' l'; (clear hg'); (try k_lt l'); (try dsimp only); (try k_lift B'); (try k_fold)))
  k_with "call builtin:repr" => (k_here; (with_reducible show wpAny _ _ (call (Value.builtin "repr") [_]) _ _ _); k_dflt ((refine' Mine.ReprAs.run ?r0 ?rF ?rN ?rk ?ru ?rg ?_); (case r0 => with_reducible assumption); (case rF => k_asm); (case rN => k_asm); (case rk => first | exact (fun b o e => (Mine.keep_X (by with_reducible assumption) (by with_reducible assumption) (by with_reducible assumption) (by with_reducible assumption) b o e).1) | exact (fun _ _ e => Fr.keep (by with_reducible assumption) _ _ (Fr.keep (by with_reducible assumption) _ _ e)) | exact (fun _ _ e => Fr.keep (by with_reducible assumption) _ _ e)); (case ru => ((try simp only [units_deeper, units_in1, units_under_make, Mine.units_under_kw]); ktr_units)); (case rg => exact rfl); k_whole; intro t' k' h' F' N'))
  k_with "compareOp IsNot" => (k_here; (with_reducible show wpAny _ _ (compareOp CmpOp.IsNot _ Value.none) _ _ _); refine Mine.isNot_none' (by with_reducible assumption) ?_)
  k_with "compareOp Is" => (k_here; (with_reducible show wpAny _ _ (compareOp CmpOp.Is _ Value.none) _ _ _); refine Mine.is_none' (by with_reducible assumption) ?_)
  k_with "getMethod type:Exception" => (k_here; refine' method_type ?F ?X ?m (by decide +kernel) ?e ?h ?_; (case F => k_asm); (case X => k_asm); (case m => kernel_rfl); (case e => k_dflt k_is); (case h => k_handed))
  k_with "call builtin:Exception.__init__" => (k_here; k_dflt (refine' Mine.init_K ?k1 ?k2 ?k3 ?k4 ?k5 ?k6 ?_; (case k1 => k_asm); (case k2 => k_asm); (case k3 => k_asm); (case k6 => (intro tx'; k_upd)); (case k4 => first | (with_reducible assumption) | exact Mine.xc60 _ rfl); (case k5 => exact Nat.le_of_ble_eq_true rfl); k_whole); intro t' h' F' N' l1; (try dsimp only at N'); (try k_lt l1); (try k_sweep))
  k_with "call builtin:str.format" => (k_here; (with_reducible show wpAny _ _ (call (Value.builtin "str.format") [Value.str _ _, Value.int _ _]) _ _ _); (refine Mine.line_2d (by assumption) (by assumption) ?_); intro _ _)
  k_with "call builtin:str.join" => (k_here; (with_reducible show wpAny _ _ (call (Value.builtin "str.join") [Value.str _ _, Value.ref _]) _ _ _); k_dflt (refine' Mine.join_cat ?jN ?jm ?ji ?jB ?jn ?_; (case jN => k_asm); (case jm => k_mem); (case ji => repeat (first | exact PyProof.Rows.StrsAre.nil | apply PyProof.Rows.StrsAre.cons)); (case jB => (repeat (first | exact List.forall_mem_nil _ | refine List.forall_mem_cons.mpr ⟨by first | (with_reducible exact Mine.le5 (Mine.ReprAs.len (by assumption))) | (with_reducible exact Mine.line_len (by assumption) (by assumption)) | decide +kernel, ?_⟩))); (case jn => exact Nat.le_of_ble_eq_true rfl)); intro _ _; (try simp only [Mine.catS]))
  k_with "setAttr ref" => (k_here; k_dflt (refine' Mine.set_newK ?k1 ?k2 ?k3 ?k4 ?k5 ?k6 ?_; (case k1 => k_asm); (case k2 => k_asm); (case k3 => k_asm); (case k6 => (intro dx'; k_upd)); (case k4 => first | (with_reducible assumption) | exact Mine.xc60 _ rfl); (case k5 => k_is); k_whole; intro d' h' F' N' l1; (try dsimp only at N'); (try k_lt l1); (try k_sweep)))
  k_with "setAttr ref" => (k_here; k_dflt (refine' Mine.set_dictK ?k1 ?k2 ?k3 ?k4 ?k5 ?k6 ?k7 ?k10 ?k11 ?k12 ?k13 ?_; (case k1 => k_asm); (case k2 => k_asm); (case k3 => k_asm); (case k4 => (refine' Mine.instX ?N ?h1 ?h2; (case N => k_asm); (case h1 => k_mem); (case h2 => k_mem))); (case k5 => exact rfl); (case k6 => first | (with_reducible assumption) | exact Mine.xc60 _ rfl); (case k7 => k_is); (case k10 => k_get); (case k11 => k_put); (case k12 => k_upd); (case k13 => exact Nat.le_of_ble_eq_true rfl); k_whole; intro h' F' N'; (try k_sweep)))
  k_with "setAttr ref" => (k_here; (with_reducible show wpAny _ _ (setAttr (Value.ref _) (PySem.Str.ofString "args") (Value.ref _)) _ _ _); k_dflt (refine' Mine.set_argsK ?k1 ?k2 ?k3 ?k4 ?k5 ?k6 ?k7 ?k8 ?_; (case k1 => k_asm); (case k2 => k_asm); (case k3 => k_asm); (case k4 => (refine' Mine.instX ?N ?h1 ?h2; (case N => k_asm); (case h1 => k_mem); (case h2 => k_mem))); (case k5 => first | (with_reducible assumption) | exact Mine.xc60 _ rfl); (case k6 => k_is); (case k7 => exact News.isTup (by k_asm) (by k_mem)); (case k8 => k_upd); k_whole; intro h' F' N'; (try k_sweep)))
  k_with "getAttr ref" => (k_here; k_dflt (refine' Mine.get_ownX ?k1 ?k2 ?k3 ?k4 ?k5 ?k6 ?k7 ?k8 ?_; (case k1 => k_asm); (case k2 => k_asm); (case k3 => (refine' Mine.instX ?N ?h1 ?h2; (case N => k_asm); (case h1 => k_mem); (case h2 => k_mem))); (case k4 => first | (with_reducible assumption) | exact Mine.xc60 _ rfl); (case k5 => k_is); (case k6 => k_is); (case k7 => k_get); (case k8 => first | k_handed | with_reducible assumption); k_whole))
  k_with "getAttr ref" => (k_here; (with_reducible show wpAny _ _ (getAttr (Value.ref _) (PySem.Str.ofString "args") _) _ _ _); k_dflt (refine' Mine.get_argsX ?k1 ?k2 ?k3 ?k4 ?k5 ?k6 ?k7 ?_; (case k1 => k_asm); (case k2 => k_asm); (case k3 => (refine' Mine.instX ?N ?h1 ?h2; (case N => k_asm); (case h1 => k_mem); (case h2 => k_mem))); (case k4 => first | (with_reducible assumption) | exact Mine.xc60 _ rfl); (case k5 => k_is); (case k6 => k_is); (case k7 => k_is); k_whole))
  k_with "call ref" => (k_here; (with_reducible show wpAny _ _ (call (Value.ref 60) _ _) _ _ _); (first | (with_reducible show wpAny _ _ (call (Value.ref 60) _ []) _ _ _) | (with_unfolding_all show wpAny _ _ (call (Value.ref 60) _ [(PySem.Str.ofString "lineno", _), (PySem.Str.ofString "source", _), (PySem.Str.ofString "section", _)]) _ _ _) | (with_unfolding_all show wpAny _ _ (call (Value.ref 60) _ [(PySem.Str.ofString "lineno", _)]) _ _ _) | (with_unfolding_all show wpAny _ _ (call (Value.ref 60) _ [(PySem.Str.ofString "section", _)]) _ _ _)); k_dflt (refine' Mine.dseN_T _ _ _ _ _ _ _ _ _ _ _ _ _ _ _ _ _ _ _ _ _ _ _ _ _ _ _ _ _ _ ?kB ?kF ?kX ?kT ?kk ?kd ?ku ?pl ?hb ?r1 ?_; (case hb => first | with_reducible exact Mine.binds0 _ _ _ _ | with_reducible exact Mine.binds1 _ _ _ _ | with_reducible exact Mine.binds2 _ _ _ | with_reducible exact Mine.binds3 _ _ _ | with_reducible exact Mine.binds4 _ _); (case kB => k_asm); (case kF => k_asm); (case kX => k_asm); (case kT => k_asm); (case kk => first | exact rfl | assumption); (case kd => ktr_room); (case ku => ktr_units); (case pl => exact Nat.le_of_ble_eq_true rfl); (case r1 => (refine Mine.ReprAs.up (by with_reducible assumption) ?_; first | exact keep_0 (by assumption) (by k_asm) | exact keep_N (by assumption) (by assumption) (by k_asm) (by k_asm) (fun p hp => by first | exact hp | exact List.mem_cons_of_mem _ hp))); k_whole); intro x' dx' tx' kt0' kt1' kt2' kt3' km' h' tk' hk' F' N1'; (have N' := Mine.news_lift (by k_asm) N1' hk'); (clear N1' hk'); (try simp only [List.cons_append, List.nil_append] at N'); (try dsimp only))
  k_with "ite" => (k_here; (first | refine Mine.ite_ff ?_ | refine Mine.ite_tt ?_))
  k_fill
  intro w loose mean mg mb dp un cn cs a ccd cl outer A₀ base h₀ L m h g d tk os Q E sec r lin t B F X T hk hd hu hrs hret
  refine wpAny_call ?_
  (refine' Mine.code_defG ?k1 ?k2 ?k3 ?k4 ?k5 ?kA ?kF ?kK ?k6 ?k7 ?k8 ?k9 ?kB ?_ ?c2 ?c3 ?c4 ?c5)
  (case kA => exact rfl)
  (case kF => exact rfl)
  (case kK => first | exact rfl | assumption)
  (case k1 => k_asm)
  (case k2 => k_asm)
  (case k3 => k_asm)
  (case k4 => exact PyProof.Rows.News.nil)
  (case k5 => k_asm)
  (case k6 => k_is)
  (case k7 => k_is)
  (case k8 => ktr_room)
  (case k9 => first | exact BindsTo.of_eq rfl | exact binds_K (by k_in) rfl (by k_is) rfl rfl rfl | fail "no rule for these arguments")
  (case c5 => decide)
  (case kB => exact locs rfl)
  (case c2 => exact rfl)
  (case c3 => exact rfl)
  (case c4 => exact rfl)
  intro g1 L1 h2 tk2 hg1 FG1 F2 N2 B2 X2 T2 l2
  (try k_lt l2)
  (try k_lift B2)
  (try k_fold)
  k_steps
  all_goals (refine' hret _ _ _ _ _ _ _ _ _ _ ?keep ?F ?N; (case keep => exact keep_0 hg1 (by k_asm)); (case F => k_asm); (case N => (refine' Mine.news3 ?n0 ?n1 ?n2 ?n3; (case n0 => k_asm); (case n1 => k_mem); (case n2 => k_mem); (case n3 => k_mem))))
set_option rowWalk.seconds 0 in
set_option maxRecDepth 100000 in
set_option maxHeartbeats 16000000 in
theorem born2N_T : ∀ (w : World) (loose : List PySem.Str) (mean : ExcName → Option Value) (mg mb : PySem.Str → Option Value) (dp un : Nat) (cn : PySem.Str) (cs : Scope) (a : Addr) (ccd : Value) (cl : List (PySem.Str × Addr)) (outer : List Env) (A₀ : Around) (base h₀ : Heap) (L : Addr) (m : PySem.Str → Option Value) (h : Heap) (g : Array GenState) (d : Drawn) (tk : Nat) (os : OsState) (Q E : Value → Shared → Prop) (sec : Value) (r : PySem.Str) (lin : Value) (t : Tok), Below A₀ base outer h₀ → Fr h₀ L h m → (Mine.hd.heap_39 w.params).In h₀ → Top Mine.hd.view_39 loose mean mg mb h₀ → cs.kind = .function → dp + 12 < recursionLimit → un + 240 < cLine → ReprAs PySem.Challenge.rw_dm0029_02.row.prog w h sec r → 
    (∀ (x dx tx : Addr) (kt0 kt1 kt2 kt3 km : Tok) (h' : Heap) (tk' : Nat), (∀ b o, h.get? b = some o → h'.get? b = some o) → Fr h₀ L h' m → News h₀ L h' [(x, xObj 60 (some dx) (excF (.ref tx))), (dx, dictOf [⟨PyData.keyHash w.params (PySem.Str.ofString "message"), .str (PySem.Str.ofString "message") kt0, .str (againMsg (PySem.Str.ofString "Section ") (PySem.Str.ofString ": section ") [r, PySem.Str.ofString " already exists"] none none) km⟩, ⟨PyData.keyHash w.params (PySem.Str.ofString "section"), .str (PySem.Str.ofString "section") kt1, sec⟩, ⟨PyData.keyHash w.params (PySem.Str.ofString "source"), .str (PySem.Str.ofString "source") kt2, .none⟩, ⟨PyData.keyHash w.params (PySem.Str.ofString "lineno"), .str (PySem.Str.ofString "lineno") kt3, lin⟩] 4), (tx, tupObj [sec, .none, lin])] → Q (.ref x) ⟨h', g, d, tk', os⟩) →
    wpAny (model PySem.Challenge.rw_dm0029_02.row.prog w) (ktrTop dp un (some []) cn cs L a ccd cl outer) (call (.ref 81) [.int 2 t, sec, .none, lin]) Q E ⟨h, g, d, tk, os⟩ := by
  k_with_none
  k_with "ne" => (first | exact Mine.ne_l1 (by assumption) | exact Mine.ne_l1' (by assumption) | exact Mine.ne_r1 (by assumption) | exact Mine.ne_r1' (by assumption) | exact Mine.ne_l2 (by assumption) | exact Mine.ne_l2' (by assumption) | exact Mine.ne_r2 (by assumption) | exact Mine.ne_r2' (by assumption) | exact Mine.ne_l3 (by assumption) | exact Mine.ne_l3' (by assumption) | exact Mine.ne_r3 (by assumption) | exact Mine.ne_r3' (by assumption) | exact Mine.ne_l4 (by assumption) | exact Mine.ne_l4' (by assumption) | exact Mine.ne_r4 (by assumption) | exact Mine.ne_r4' (by assumption) | exact Mine.ne_l5 (by assumption) | exact Mine.ne_l5' (by assumption) | exact Mine.ne_r5 (by assumption) | exact Mine.ne_r5' (by assumption) | exact Mine.ne_l6 (by assumption) | exact Mine.ne_l6' (by assumption) | exact Mine.ne_r6 (by assumption) | exact Mine.ne_r6' (by assumption) | exact Mine.ne_l7 (by assumption) | exact Mine.ne_l7' (by assumption) | exact Mine.ne_r7 (by assumption) | exact Mine.ne_r7' (by assumption) | exact Mine.ne_l8 (by assumption) | exact Mine.ne_l8' (by assumption) | exact Mine.ne_r8 (by assumption) | exact Mine.ne_r8' (by assumption) | exact Mine.ne_l9 (by assumption) | exact Mine.ne_l9' (by assumption) | exact Mine.ne_r9 (by assumption) | exact Mine.ne_r9' (by assumption))
  k_with "exec For Name BinOp cons nil" => (k_here; (rename Fr _ _ _ _ => lF'); (with_unfolding_all refine' For_invVF lF' ?k1 ?k2 ?_; (case k1 => exact rfl); (case k2 => exact rfl); k_whole))
  k_with "call ref" => (k_here; (fail_if_success (with_reducible show wpAny _ _ (call (Value.ref 60) _) _ _ _)); k_dflt ((refine wpAny_call ?_); (refine' Mine.code_defG ?k1 ?k2 ?k3 ?k4 ?k5 ?kA ?kF ?kK ?k6 ?k7 ?k8 ?k9 ?kB ?_ ?c2 ?c3 ?c4 ?c5); (case kA => exact rfl); (case kF => exact rfl); (case kK => first | exact rfl | assumption); (case k1 => k_asm); (case k2 => k_asm); (case k3 => k_asm); (case k4 => k_asm); (case k5 => k_asm); (case k6 => k_is); (case k7 => k_is); (case k8 => ktr_room); (case k9 => first | exact BindsTo.of_eq rfl | exact binds_K (by k_in) rfl (by k_is) rfl rfl rfl | fail "no rule for these arguments"); (case c5 => decide); (case kB => exact locs rfl); (case c2 => exact rfl); (case c3 => exact rfl); (case c4 => exact rfl); k_whole; intro g' L' h' tk' hg' FG' F' N' B' X' T' l'; (clear hg'); (try k_lt l'); (try dsimp only); (try k_lift B'); (try k_fold)))
  k_with "call builtin:repr" => (k_here; (with_reducible show wpAny _ _ (call (Value.builtin "repr") [_]) _ _ _); k_dflt ((refine' Mine.ReprAs.run ?r0 ?rF ?rN ?rk ?ru ?rg ?_); (case r0 => with_reducible assumption); (case rF => k_asm); (case rN => k_asm); (case rk => first | exact (fun b o e => (Mine.keep_X (by with_reducible assumption) (by with_reducible assumption) (by with_reducible assumption) (by with_reducible assumption) b o e).1) | exact (fun _ _ e => Fr.keep (by with_reducible assumption) _ _ (Fr.keep (by with_reducible assumption) _ _ e)) | exact (fun _ _ e => Fr.keep (by with_reducible assumption) _ _ e)); (case ru => ((try simp only [units_deeper, units_in1, units_under_make, Mine.units_under_kw]); ktr_units)); (case rg => exact rfl); k_whole; intro t' k' h' F' N'))
  k_with "compareOp IsNot" => (k_here; (with_reducible show wpAny _ _ (compareOp CmpOp.IsNot _ Value.none) _ _ _); refine Mine.isNot_none' (by with_reducible assumption) ?_)
  k_with "compareOp Is" => (k_here; (with_reducible show wpAny _ _ (compareOp CmpOp.Is _ Value.none) _ _ _); refine Mine.is_none' (by with_reducible assumption) ?_)
  k_with "getMethod type:Exception" => (k_here; refine' method_type ?F ?X ?m (by decide +kernel) ?e ?h ?_; (case F => k_asm); (case X => k_asm); (case m => kernel_rfl); (case e => k_dflt k_is); (case h => k_handed))
  k_with "call builtin:Exception.__init__" => (k_here; k_dflt (refine' Mine.init_K ?k1 ?k2 ?k3 ?k4 ?k5 ?k6 ?_; (case k1 => k_asm); (case k2 => k_asm); (case k3 => k_asm); (case k6 => (intro tx'; k_upd)); (case k4 => first | (with_reducible assumption) | exact Mine.xc60 _ rfl); (case k5 => exact Nat.le_of_ble_eq_true rfl); k_whole); intro t' h' F' N' l1; (try dsimp only at N'); (try k_lt l1); (try k_sweep))
  k_with "call builtin:str.format" => (k_here; (with_reducible show wpAny _ _ (call (Value.builtin "str.format") [Value.str _ _, Value.int _ _]) _ _ _); (refine Mine.line_2d (by assumption) (by assumption) ?_); intro _ _)
  k_with "call builtin:str.join" => (k_here; (with_reducible show wpAny _ _ (call (Value.builtin "str.join") [Value.str _ _, Value.ref _]) _ _ _); k_dflt (refine' Mine.join_cat ?jN ?jm ?ji ?jB ?jn ?_; (case jN => k_asm); (case jm => k_mem); (case ji => repeat (first | exact PyProof.Rows.StrsAre.nil | apply PyProof.Rows.StrsAre.cons)); (case jB => (repeat (first | exact List.forall_mem_nil _ | refine List.forall_mem_cons.mpr ⟨by first | (with_reducible exact Mine.le5 (Mine.ReprAs.len (by assumption))) | (with_reducible exact Mine.line_len (by assumption) (by assumption)) | decide +kernel, ?_⟩))); (case jn => exact Nat.le_of_ble_eq_true rfl)); intro _ _; (try simp only [Mine.catS]))
  k_with "setAttr ref" => (k_here; k_dflt (refine' Mine.set_newK ?k1 ?k2 ?k3 ?k4 ?k5 ?k6 ?_; (case k1 => k_asm); (case k2 => k_asm); (case k3 => k_asm); (case k6 => (intro dx'; k_upd)); (case k4 => first | (with_reducible assumption) | exact Mine.xc60 _ rfl); (case k5 => k_is); k_whole; intro d' h' F' N' l1; (try dsimp only at N'); (try k_lt l1); (try k_sweep)))
  k_with "setAttr ref" => (k_here; k_dflt (refine' Mine.set_dictK ?k1 ?k2 ?k3 ?k4 ?k5 ?k6 ?k7 ?k10 ?k11 ?k12 ?k13 ?_; (case k1 => k_asm); (case k2 => k_asm); (case k3 => k_asm); (case k4 => (refine' Mine.instX ?N ?h1 ?h2; (case N => k_asm); (case h1 => k_mem); (case h2 => k_mem))); (case k5 => exact rfl); (case k6 => first | (with_reducible assumption) | exact Mine.xc60 _ rfl); (case k7 => k_is); (case k10 => k_get); (case k11 => k_put); (case k12 => k_upd); (case k13 => exact Nat.le_of_ble_eq_true rfl); k_whole; intro h' F' N'; (try k_sweep)))
  k_with "setAttr ref" => (k_here; (with_reducible show wpAny _ _ (setAttr (Value.ref _) (PySem.Str.ofString "args") (Value.ref _)) _ _ _); k_dflt (refine' Mine.set_argsK ?k1 ?k2 ?k3 ?k4 ?k5 ?k6 ?k7 ?k8 ?_; (case k1 => k_asm); (case k2 => k_asm); (case k3 => k_asm); (case k4 => (refine' Mine.instX ?N ?h1 ?h2; (case N => k_asm); (case h1 => k_mem); (case h2 => k_mem))); (case k5 => first | (with_reducible assumption) | exact Mine.xc60 _ rfl); (case k6 => k_is); (case k7 => exact News.isTup (by k_asm) (by k_mem)); (case k8 => k_upd); k_whole; intro h' F' N'; (try k_sweep)))
  k_with "getAttr ref" => (k_here; k_dflt (refine' Mine.get_ownX ?k1 ?k2 ?k3 ?k4 ?k5 ?k6 ?k7 ?k8 ?_; (case k1 => k_asm); (case k2 => k_asm); (case k3 => (refine' Mine.instX ?N ?h1 ?h2; (case N => k_asm); (case h1 => k_mem); (case h2 => k_mem))); (case k4 => first | (with_reducible assumption) | exact Mine.xc60 _ rfl); (case k5 => k_is); (case k6 => k_is); (case k7 => k_get); (case k8 => first | k_handed | with_reducible assumption); k_whole))
  k_with "getAttr ref" => (k_here; (with_reducible show wpAny _ _ (getAttr (Value.ref _) (PySem.Str.ofString "args") _) _ _ _); k_dflt (refine' Mine.get_argsX ?k1 ?k2 ?k3 ?k4 ?k5 ?k6 ?k7 ?_; (case k1 => k_asm); (case k2 => k_asm); (case k3 => (refine' Mine.instX ?N ?h1 ?h2; (case N => k_asm); (case h1 => k_mem); (case h2 => k_mem))); (case k4 => first | (with_reducible assumption) | exact Mine.xc60 _ rfl); (case k5 => k_is); (case k6 => k_is); (case k7 => k_is); k_whole))
  k_with "call ref" => (k_here; (with_reducible show wpAny _ _ (call (Value.ref 60) _ _) _ _ _); (first | (with_reducible show wpAny _ _ (call (Value.ref 60) _ []) _ _ _) | (with_unfolding_all show wpAny _ _ (call (Value.ref 60) _ [(PySem.Str.ofString "lineno", _), (PySem.Str.ofString "source", _), (PySem.Str.ofString "section", _)]) _ _ _) | (with_unfolding_all show wpAny _ _ (call (Value.ref 60) _ [(PySem.Str.ofString "lineno", _)]) _ _ _) | (with_unfolding_all show wpAny _ _ (call (Value.ref 60) _ [(PySem.Str.ofString "section", _)]) _ _ _)); k_dflt (refine' Mine.dseN_T _ _ _ _ _ _ _ _ _ _ _ _ _ _ _ _ _ _ _ _ _ _ _ _ _ _ _ _ _ _ ?kB ?kF ?kX ?kT ?kk ?kd ?ku ?pl ?hb ?r1 ?_; (case hb => first | with_reducible exact Mine.binds0 _ _ _ _ | with_reducible exact Mine.binds1 _ _ _ _ | with_reducible exact Mine.binds2 _ _ _ | with_reducible exact Mine.binds3 _ _ _ | with_reducible exact Mine.binds4 _ _); (case kB => k_asm); (case kF => k_asm); (case kX => k_asm); (case kT => k_asm); (case kk => first | exact rfl | assumption); (case kd => ktr_room); (case ku => ktr_units); (case pl => exact Nat.le_of_ble_eq_true rfl); (case r1 => (refine Mine.ReprAs.up (by with_reducible assumption) ?_; first | exact keep_0 (by assumption) (by k_asm) | exact keep_N (by assumption) (by assumption) (by k_asm) (by k_asm) (fun p hp => by first | exact hp | exact List.mem_cons_of_mem _ hp))); k_whole); intro x' dx' tx' kt0' kt1' kt2' kt3' km' h' tk' hk' F' N1'; (have N' := Mine.news_lift (by k_asm) N1' hk'); (clear N1' hk'); (try simp only [List.cons_append, List.nil_append] at N'); (try dsimp only))
  k_with "ite" => (k_here; (first | refine Mine.ite_ff ?_ | refine Mine.ite_tt ?_))
  k_fill
  intro w loose mean mg mb dp un cn cs a ccd cl outer A₀ base h₀ L m h g d tk os Q E sec r lin t B F X T hk hd hu hrs hret
  refine wpAny_call ?_
  (refine' Mine.code_defG ?k1 ?k2 ?k3 ?k4 ?k5 ?kA ?kF ?kK ?k6 ?k7 ?k8 ?k9 ?kB ?_ ?c2 ?c3 ?c4 ?c5)
  (case kA => exact rfl)
  (case kF => exact rfl)
  (case kK => first | exact rfl | assumption)
  (case k1 => k_asm)
  (case k2 => k_asm)
  (case k3 => k_asm)
  (case k4 => exact PyProof.Rows.News.nil)
  (case k5 => k_asm)
  (case k6 => k_is)
  (case k7 => k_is)
  (case k8 => ktr_room)
  (case k9 => first | exact BindsTo.of_eq rfl | exact binds_K (by k_in) rfl (by k_is) rfl rfl rfl | fail "no rule for these arguments")
  (case c5 => decide)
  (case kB => exact locs rfl)
  (case c2 => exact rfl)
  (case c3 => exact rfl)
  (case c4 => exact rfl)
  intro g1 L1 h2 tk2 hg1 FG1 F2 N2 B2 X2 T2 l2
  (try k_lt l2)
  (try k_lift B2)
  (try k_fold)
  k_steps
  all_goals (refine' hret _ _ _ _ _ _ _ _ _ _ ?keep ?F ?N; (case keep => exact keep_0 hg1 (by k_asm)); (case F => k_asm); (case N => (refine' Mine.news3 ?n0 ?n1 ?n2 ?n3; (case n0 => k_asm); (case n1 => k_mem); (case n2 => k_mem); (case n3 => k_mem))))
set_option rowWalk.seconds 0 in
set_option maxRecDepth 100000 in
set_option maxHeartbeats 16000000 in
theorem born3N_T : ∀ (w : World) (loose : List PySem.Str) (mean : ExcName → Option Value) (mg mb : PySem.Str → Option Value) (dp un : Nat) (cn : PySem.Str) (cs : Scope) (a : Addr) (ccd : Value) (cl : List (PySem.Str × Addr)) (outer : List Env) (A₀ : Around) (base h₀ : Heap) (L : Addr) (m : PySem.Str → Option Value) (h : Heap) (g : Array GenState) (d : Drawn) (tk : Nat) (os : OsState) (Q E : Value → Shared → Prop) (sec : Value) (r : PySem.Str)  (t : Tok), Below A₀ base outer h₀ → Fr h₀ L h m → (Mine.hd.heap_39 w.params).In h₀ → Top Mine.hd.view_39 loose mean mg mb h₀ → cs.kind = .function → dp + 12 < recursionLimit → un + 240 < cLine → ReprAs PySem.Challenge.rw_dm0029_02.row.prog w h sec r → 
    (∀ (x dx tx : Addr) (kt0 kt1 kt2 kt3 km : Tok) (h' : Heap) (tk' : Nat), (∀ b o, h.get? b = some o → h'.get? b = some o) → Fr h₀ L h' m → News h₀ L h' [(x, xObj 60 (some dx) (excF (.ref tx))), (dx, dictOf [⟨PyData.keyHash w.params (PySem.Str.ofString "message"), .str (PySem.Str.ofString "message") kt0, .str (againMsg (PySem.Str.ofString "Section ") (PySem.Str.ofString ": section ") [r, PySem.Str.ofString " already exists"] none none) km⟩, ⟨PyData.keyHash w.params (PySem.Str.ofString "section"), .str (PySem.Str.ofString "section") kt1, sec⟩, ⟨PyData.keyHash w.params (PySem.Str.ofString "source"), .str (PySem.Str.ofString "source") kt2, .none⟩, ⟨PyData.keyHash w.params (PySem.Str.ofString "lineno"), .str (PySem.Str.ofString "lineno") kt3, .none⟩] 4), (tx, tupObj [sec, .none, .none])] → Q (.ref x) ⟨h', g, d, tk', os⟩) →
    wpAny (model PySem.Challenge.rw_dm0029_02.row.prog w) (ktrTop dp un (some []) cn cs L a ccd cl outer) (call (.ref 81) [.int 3 t, sec, .none, .none]) Q E ⟨h, g, d, tk, os⟩ := by
  k_with_none
  k_with "ne" => (first | exact Mine.ne_l1 (by assumption) | exact Mine.ne_l1' (by assumption) | exact Mine.ne_r1 (by assumption) | exact Mine.ne_r1' (by assumption) | exact Mine.ne_l2 (by assumption) | exact Mine.ne_l2' (by assumption) | exact Mine.ne_r2 (by assumption) | exact Mine.ne_r2' (by assumption) | exact Mine.ne_l3 (by assumption) | exact Mine.ne_l3' (by assumption) | exact Mine.ne_r3 (by assumption) | exact Mine.ne_r3' (by assumption) | exact Mine.ne_l4 (by assumption) | exact Mine.ne_l4' (by assumption) | exact Mine.ne_r4 (by assumption) | exact Mine.ne_r4' (by assumption) | exact Mine.ne_l5 (by assumption) | exact Mine.ne_l5' (by assumption) | exact Mine.ne_r5 (by assumption) | exact Mine.ne_r5' (by assumption) | exact Mine.ne_l6 (by assumption) | exact Mine.ne_l6' (by assumption) | exact Mine.ne_r6 (by assumption) | exact Mine.ne_r6' (by assumption) | exact Mine.ne_l7 (by assumption) | exact Mine.ne_l7' (by assumption) | exact Mine.ne_r7 (by assumption) | exact Mine.ne_r7' (by assumption) | exact Mine.ne_l8 (by assumption) | exact Mine.ne_l8' (by assumption) | exact Mine.ne_r8 (by assumption) | exact Mine.ne_r8' (by assumption) | exact Mine.ne_l9 (by assumption) | exact Mine.ne_l9' (by assumption) | exact Mine.ne_r9 (by assumption) | exact Mine.ne_r9' (by assumption))
  k_with "exec For Name BinOp cons nil" => (k_here; (rename Fr _ _ _ _ => lF'); (with_unfolding_all refine' For_invVF lF' ?k1 ?k2 ?_; (case k1 => exact rfl); (case k2 => exact rfl); k_whole))
  k_with "call ref" => (k_here; (fail_if_success (with_reducible show wpAny _ _ (call (Value.ref 60) _) _ _ _)); k_dflt ((refine wpAny_call ?_); (refine' Mine.code_defG ?k1 ?k2 ?k3 ?k4 ?k5 ?kA ?kF ?kK ?k6 ?k7 ?k8 ?k9 ?kB ?_ ?c2 ?c3 ?c4 ?c5); (case kA => exact rfl); (case kF => exact rfl); (case kK => first | exact rfl | assumption); (case k1 => k_asm); (case k2 => k_asm); (case k3 => k_asm); (case k4 => k_asm); (case k5 => k_asm); (case k6 => k_is); (case k7 => k_is); (case k8 => ktr_room); (case k9 => first | exact BindsTo.of_eq rfl | exact binds_K (by k_in) rfl (by k_is) rfl rfl rfl | fail "no rule for these arguments"); (case c5 => decide); (case kB => exact locs rfl); (case c2 => exact rfl); (case c3 => exact rfl); (case c4 => exact rfl); k_whole; intro g' L' h' tk' hg' FG' F' N' B' X' T' l'; (clear hg'); (try k_lt l'); (try dsimp only); (try k_lift B'); (try k_fold)))
  k_with "call builtin:repr" => (k_here; (with_reducible show wpAny _ _ (call (Value.builtin "repr") [_]) _ _ _); k_dflt ((refine' Mine.ReprAs.run ?r0 ?rF ?rN ?rk ?ru ?rg ?_); (case r0 => with_reducible assumption); (case rF => k_asm); (case rN => k_asm); (case rk => first | exact (fun b o e => (Mine.keep_X (by with_reducible assumption) (by with_reducible assumption) (by with_reducible assumption) (by with_reducible assumption) b o e).1) | exact (fun _ _ e => Fr.keep (by with_reducible assumption) _ _ (Fr.keep (by with_reducible assumption) _ _ e)) | exact (fun _ _ e => Fr.keep (by with_reducible assumption) _ _ e)); (case ru => ((try simp only [units_deeper, units_in1, units_under_make, Mine.units_under_kw]); ktr_units)); (case rg => exact rfl); k_whole; intro t' k' h' F' N'))
  k_with "compareOp IsNot" => (k_here; (with_reducible show wpAny _ _ (compareOp CmpOp.IsNot _ Value.none) _ _ _); refine Mine.isNot_none' (by with_reducible assumption) ?_)
  k_with "compareOp Is" => (k_here; (with_reducible show wpAny _ _ (compareOp CmpOp.Is _ Value.none) _ _ _); refine Mine.is_none' (by with_reducible assumption) ?_)
  k_with "getMethod type:Exception" => (k_here; refine' method_type ?F ?X ?m (by decide +kernel) ?e ?h ?_; (case F => k_asm); (case X => k_asm); (case m => kernel_rfl); (case e => k_dflt k_is); (case h => k_handed))
  k_with "call builtin:Exception.__init__" => (k_here; k_dflt (refine' Mine.init_K ?k1 ?k2 ?k3 ?k4 ?k5 ?k6 ?_; (case k1 => k_asm); (case k2 => k_asm); (case k3 => k_asm); (case k6 => (intro tx'; k_upd)); (case k4 => first | (with_reducible assumption) | exact Mine.xc60 _ rfl); (case k5 => exact Nat.le_of_ble_eq_true rfl); k_whole); intro t' h' F' N' l1; (try dsimp only at N'); (try k_lt l1); (try k_sweep))
  k_with "call builtin:str.format" => (k_here; (with_reducible show wpAny _ _ (call (Value.builtin "str.format") [Value.str _ _, Value.int _ _]) _ _ _); (refine Mine.line_2d (by assumption) (by assumption) ?_); intro _ _)
  k_with "call builtin:str.join" => (k_here; (with_reducible show wpAny _ _ (call (Value.builtin "str.join") [Value.str _ _, Value.ref _]) _ _ _); k_dflt (refine' Mine.join_cat ?jN ?jm ?ji ?jB ?jn ?_; (case jN => k_asm); (case jm => k_mem); (case ji => repeat (first | exact PyProof.Rows.StrsAre.nil | apply PyProof.Rows.StrsAre.cons)); (case jB => (repeat (first | exact List.forall_mem_nil _ | refine List.forall_mem_cons.mpr ⟨by first | (with_reducible exact Mine.le5 (Mine.ReprAs.len (by assumption))) | (with_reducible exact Mine.line_len (by assumption) (by assumption)) | decide +kernel, ?_⟩))); (case jn => exact Nat.le_of_ble_eq_true rfl)); intro _ _; (try simp only [Mine.catS]))
  k_with "setAttr ref" => (k_here; k_dflt (refine' Mine.set_newK ?k1 ?k2 ?k3 ?k4 ?k5 ?k6 ?_; (case k1 => k_asm); (case k2 => k_asm); (case k3 => k_asm); (case k6 => (intro dx'; k_upd)); (case k4 => first | (with_reducible assumption) | exact Mine.xc60 _ rfl); (case k5 => k_is); k_whole; intro d' h' F' N' l1; (try dsimp only at N'); (try k_lt l1); (try k_sweep)))
  k_with "setAttr ref" => (k_here; k_dflt (refine' Mine.set_dictK ?k1 ?k2 ?k3 ?k4 ?k5 ?k6 ?k7 ?k10 ?k11 ?k12 ?k13 ?_; (case k1 => k_asm); (case k2 => k_asm); (case k3 => k_asm); (case k4 => (refine' Mine.instX ?N ?h1 ?h2; (case N => k_asm); (case h1 => k_mem); (case h2 => k_mem))); (case k5 => exact rfl); (case k6 => first | (with_reducible assumption) | exact Mine.xc60 _ rfl); (case k7 => k_is); (case k10 => k_get); (case k11 => k_put); (case k12 => k_upd); (case k13 => exact Nat.le_of_ble_eq_true rfl); k_whole; intro h' F' N'; (try k_sweep)))
  k_with "setAttr ref" => (k_here; (with_reducible show wpAny _ _ (setAttr (Value.ref _) (PySem.Str.ofString "args") (Value.ref _)) _ _ _); k_dflt (refine' Mine.set_argsK ?k1 ?k2 ?k3 ?k4 ?k5 ?k6 ?k7 ?k8 ?_; (case k1 => k_asm); (case k2 => k_asm); (case k3 => k_asm); (case k4 => (refine' Mine.instX ?N ?h1 ?h2; (case N => k_asm); (case h1 => k_mem); (case h2 => k_mem))); (case k5 => first | (with_reducible assumption) | exact Mine.xc60 _ rfl); (case k6 => k_is); (case k7 => exact News.isTup (by k_asm) (by k_mem)); (case k8 => k_upd); k_whole; intro h' F' N'; (try k_sweep)))
  k_with "getAttr ref" => (k_here; k_dflt (refine' Mine.get_ownX ?k1 ?k2 ?k3 ?k4 ?k5 ?k6 ?k7 ?k8 ?_; (case k1 => k_asm); (case k2 => k_asm); (case k3 => (refine' Mine.instX ?N ?h1 ?h2; (case N => k_asm); (case h1 => k_mem); (case h2 => k_mem))); (case k4 => first | (with_reducible assumption) | exact Mine.xc60 _ rfl); (case k5 => k_is); (case k6 => k_is); (case k7 => k_get); (case k8 => first | k_handed | with_reducible assumption); k_whole))
  k_with "getAttr ref" => (k_here; (with_reducible show wpAny _ _ (getAttr (Value.ref _) (PySem.Str.ofString "args") _) _ _ _); k_dflt (refine' Mine.get_argsX ?k1 ?k2 ?k3 ?k4 ?k5 ?k6 ?k7 ?_; (case k1 => k_asm); (case k2 => k_asm); (case k3 => (refine' Mine.instX ?N ?h1 ?h2; (case N => k_asm); (case h1 => k_mem); (case h2 => k_mem))); (case k4 => first | (with_reducible assumption) | exact Mine.xc60 _ rfl); (case k5 => k_is); (case k6 => k_is); (case k7 => k_is); k_whole))
  k_with "call ref" => (k_here; (with_reducible show wpAny _ _ (call (Value.ref 60) _ _) _ _ _); (first | (with_reducible show wpAny _ _ (call (Value.ref 60) _ []) _ _ _) | (with_unfolding_all show wpAny _ _ (call (Value.ref 60) _ [(PySem.Str.ofString "lineno", _), (PySem.Str.ofString "source", _), (PySem.Str.ofString "section", _)]) _ _ _) | (with_unfolding_all show wpAny _ _ (call (Value.ref 60) _ [(PySem.Str.ofString "lineno", _)]) _ _ _) | (with_unfolding_all show wpAny _ _ (call (Value.ref 60) _ [(PySem.Str.ofString "section", _)]) _ _ _)); k_dflt (refine' Mine.dseN_T _ _ _ _ _ _ _ _ _ _ _ _ _ _ _ _ _ _ _ _ _ _ _ _ _ _ _ _ _ _ ?kB ?kF ?kX ?kT ?kk ?kd ?ku ?pl ?hb ?r1 ?_; (case hb => first | with_reducible exact Mine.binds0 _ _ _ _ | with_reducible exact Mine.binds1 _ _ _ _ | with_reducible exact Mine.binds2 _ _ _ | with_reducible exact Mine.binds3 _ _ _ | with_reducible exact Mine.binds4 _ _); (case kB => k_asm); (case kF => k_asm); (case kX => k_asm); (case kT => k_asm); (case kk => first | exact rfl | assumption); (case kd => ktr_room); (case ku => ktr_units); (case pl => exact Nat.le_of_ble_eq_true rfl); (case r1 => (refine Mine.ReprAs.up (by with_reducible assumption) ?_; first | exact keep_0 (by assumption) (by k_asm) | exact keep_N (by assumption) (by assumption) (by k_asm) (by k_asm) (fun p hp => by first | exact hp | exact List.mem_cons_of_mem _ hp))); k_whole); intro x' dx' tx' kt0' kt1' kt2' kt3' km' h' tk' hk' F' N1'; (have N' := Mine.news_lift (by k_asm) N1' hk'); (clear N1' hk'); (try simp only [List.cons_append, List.nil_append] at N'); (try dsimp only))
  k_with "ite" => (k_here; (first | refine Mine.ite_ff ?_ | refine Mine.ite_tt ?_))
  k_fill
  intro w loose mean mg mb dp un cn cs a ccd cl outer A₀ base h₀ L m h g d tk os Q E sec r  t B F X T hk hd hu hrs hret
  refine wpAny_call ?_
  (refine' Mine.code_defG ?k1 ?k2 ?k3 ?k4 ?k5 ?kA ?kF ?kK ?k6 ?k7 ?k8 ?k9 ?kB ?_ ?c2 ?c3 ?c4 ?c5)
  (case kA => exact rfl)
  (case kF => exact rfl)
  (case kK => first | exact rfl | assumption)
  (case k1 => k_asm)
  (case k2 => k_asm)
  (case k3 => k_asm)
  (case k4 => exact PyProof.Rows.News.nil)
  (case k5 => k_asm)
  (case k6 => k_is)
  (case k7 => k_is)
  (case k8 => ktr_room)
  (case k9 => first | exact BindsTo.of_eq rfl | exact binds_K (by k_in) rfl (by k_is) rfl rfl rfl | fail "no rule for these arguments")
  (case c5 => decide)
  (case kB => exact locs rfl)
  (case c2 => exact rfl)
  (case c3 => exact rfl)
  (case c4 => exact rfl)
  intro g1 L1 h2 tk2 hg1 FG1 F2 N2 B2 X2 T2 l2
  (try k_lt l2)
  (try k_lift B2)
  (try k_fold)
  k_steps
  all_goals (refine' hret _ _ _ _ _ _ _ _ _ _ ?keep ?F ?N; (case keep => exact keep_0 hg1 (by k_asm)); (case F => k_asm); (case N => (refine' Mine.news3 ?n0 ?n1 ?n2 ?n3; (case n0 => k_asm); (case n1 => k_mem); (case n2 => k_mem); (case n3 => k_mem))))
set_option rowWalk.seconds 0 in
set_option maxRecDepth 100000 in
set_option maxHeartbeats 16000000 in
theorem born4N_T : ∀ (w : World) (loose : List PySem.Str) (mean : ExcName → Option Value) (mg mb : PySem.Str → Option Value) (dp un : Nat) (cn : PySem.Str) (cs : Scope) (a : Addr) (ccd : Value) (cl : List (PySem.Str × Addr)) (outer : List Env) (A₀ : Around) (base h₀ : Heap) (L : Addr) (m : PySem.Str → Option Value) (h : Heap) (g : Array GenState) (d : Drawn) (tk : Nat) (os : OsState) (Q E : Value → Shared → Prop) (sec : Value) (r : PySem.Str)  (t : Tok), Below A₀ base outer h₀ → Fr h₀ L h m → (Mine.hd.heap_39 w.params).In h₀ → Top Mine.hd.view_39 loose mean mg mb h₀ → cs.kind = .function → dp + 12 < recursionLimit → un + 240 < cLine → ReprAs PySem.Challenge.rw_dm0029_02.row.prog w h sec r → 
    (∀ (x dx tx : Addr) (kt0 kt1 kt2 kt3 km : Tok) (h' : Heap) (tk' : Nat), (∀ b o, h.get? b = some o → h'.get? b = some o) → Fr h₀ L h' m → News h₀ L h' [(x, xObj 60 (some dx) (excF (.ref tx))), (dx, dictOf [⟨PyData.keyHash w.params (PySem.Str.ofString "message"), .str (PySem.Str.ofString "message") kt0, .str (againMsg (PySem.Str.ofString "Section ") (PySem.Str.ofString ": section ") [r, PySem.Str.ofString " already exists"] none none) km⟩, ⟨PyData.keyHash w.params (PySem.Str.ofString "section"), .str (PySem.Str.ofString "section") kt1, sec⟩, ⟨PyData.keyHash w.params (PySem.Str.ofString "source"), .str (PySem.Str.ofString "source") kt2, .none⟩, ⟨PyData.keyHash w.params (PySem.Str.ofString "lineno"), .str (PySem.Str.ofString "lineno") kt3, .none⟩] 4), (tx, tupObj [sec, .none, .none])] → Q (.ref x) ⟨h', g, d, tk', os⟩) →
    wpAny (model PySem.Challenge.rw_dm0029_02.row.prog w) (ktrTop dp un (some []) cn cs L a ccd cl outer) (call (.ref 81) [.int 4 t, sec, .none, .none]) Q E ⟨h, g, d, tk, os⟩ := by
  k_with_none
  k_with "ne" => (first | exact Mine.ne_l1 (by assumption) | exact Mine.ne_l1' (by assumption) | exact Mine.ne_r1 (by assumption) | exact Mine.ne_r1' (by assumption) | exact Mine.ne_l2 (by assumption) | exact Mine.ne_l2' (by assumption) | exact Mine.ne_r2 (by assumption) | exact Mine.ne_r2' (by assumption) | exact Mine.ne_l3 (by assumption) | exact Mine.ne_l3' (by assumption) | exact Mine.ne_r3 (by assumption) | exact Mine.ne_r3' (by assumption) | exact Mine.ne_l4 (by assumption) | exact Mine.ne_l4' (by assumption) | exact Mine.ne_r4 (by assumption) | exact Mine.ne_r4' (by assumption) | exact Mine.ne_l5 (by assumption) | exact Mine.ne_l5' (by assumption) | exact Mine.ne_r5 (by assumption) | exact Mine.ne_r5' (by assumption) | exact Mine.ne_l6 (by assumption) | exact Mine.ne_l6' (by assumption) | exact Mine.ne_r6 (by assumption) | exact Mine.ne_r6' (by assumption) | exact Mine.ne_l7 (by assumption) | exact Mine.ne_l7' (by assumption) | exact Mine.ne_r7 (by assumption) | exact Mine.ne_r7' (by assumption) | exact Mine.ne_l8 (by assumption) | exact Mine.ne_l8' (by assumption) | exact Mine.ne_r8 (by assumption) | exact Mine.ne_r8' (by assumption) | exact Mine.ne_l9 (by assumption) | exact Mine.ne_l9' (by assumption) | exact Mine.ne_r9 (by assumption) | exact Mine.ne_r9' (by assumption))
  k_with "exec For Name BinOp cons nil" => (k_here; (rename Fr _ _ _ _ => lF'); (with_unfolding_all refine' For_invVF lF' ?k1 ?k2 ?_; (case k1 => exact rfl); (case k2 => exact rfl); k_whole))
  k_with "call ref" => (k_here; (fail_if_success (with_reducible show wpAny _ _ (call (Value.ref 60) _) _ _ _)); k_dflt ((refine wpAny_call ?_); (refine' Mine.code_defG ?k1 ?k2 ?k3 ?k4 ?k5 ?kA ?kF ?kK ?k6 ?k7 ?k8 ?k9 ?kB ?_ ?c2 ?c3 ?c4 ?c5); (case kA => exact rfl); (case kF => exact rfl); (case kK => first | exact rfl | assumption); (case k1 => k_asm); (case k2 => k_asm); (case k3 => k_asm); (case k4 => k_asm); (case k5 => k_asm); (case k6 => k_is); (case k7 => k_is); (case k8 => ktr_room); (case k9 => first | exact BindsTo.of_eq rfl | exact binds_K (by k_in) rfl (by k_is) rfl rfl rfl | fail "no rule for these arguments"); (case c5 => decide); (case kB => exact locs rfl); (case c2 => exact rfl); (case c3 => exact rfl); (case c4 => exact rfl); k_whole; intro g' L' h' tk' hg' FG' F' N' B' X' T' l'; (clear hg'); (try k_lt l'); (try dsimp only); (try k_lift B'); (try k_fold)))
  k_with "call builtin:repr" => (k_here; (with_reducible show wpAny _ _ (call (Value.builtin "repr") [_]) _ _ _); k_dflt ((refine' Mine.ReprAs.run ?r0 ?rF ?rN ?rk ?ru ?rg ?_); (case r0 => with_reducible assumption); (case rF => k_asm); (case rN => k_asm); (case rk => first | exact (fun b o e => (Mine.keep_X (by with_reducible assumption) (by with_reducible assumption) (by with_reducible assumption) (by with_reducible assumption) b o e).1) | exact (fun _ _ e => Fr.keep (by with_reducible assumption) _ _ (Fr.keep (by with_reducible assumption) _ _ e)) | exact (fun _ _ e => Fr.keep (by with_reducible assumption) _ _ e)); (case ru => ((try simp only [units_deeper, units_in1, units_under_make, Mine.units_under_kw]); ktr_units)); (case rg => exact rfl); k_whole; intro t' k' h' F' N'))
  k_with "compareOp IsNot" => (k_here; (with_reducible show wpAny _ _ (compareOp CmpOp.IsNot _ Value.none) _ _ _); refine Mine.isNot_none' (by with_reducible assumption) ?_)
  k_with "compareOp Is" => (k_here; (with_reducible show wpAny _ _ (compareOp CmpOp.Is _ Value.none) _ _ _); refine Mine.is_none' (by with_reducible assumption) ?_)
  k_with "getMethod type:Exception" => (k_here; refine' method_type ?F ?X ?m (by decide +kernel) ?e ?h ?_; (case F => k_asm); (case X => k_asm); (case m => kernel_rfl); (case e => k_dflt k_is); (case h => k_handed))
  k_with "call builtin:Exception.__init__" => (k_here; k_dflt (refine' Mine.init_K ?k1 ?k2 ?k3 ?k4 ?k5 ?k6 ?_; (case k1 => k_asm); (case k2 => k_asm); (case k3 => k_asm); (case k6 => (intro tx'; k_upd)); (case k4 => first | (with_reducible assumption) | exact Mine.xc60 _ rfl); (case k5 => exact Nat.le_of_ble_eq_true rfl); k_whole); intro t' h' F' N' l1; (try dsimp only at N'); (try k_lt l1); (try k_sweep))
  k_with "call builtin:str.format" => (k_here; (with_reducible show wpAny _ _ (call (Value.builtin "str.format") [Value.str _ _, Value.int _ _]) _ _ _); (refine Mine.line_2d (by assumption) (by assumption) ?_); intro _ _)
  k_with "call builtin:str.join" => (k_here; (with_reducible show wpAny _ _ (call (Value.builtin "str.join") [Value.str _ _, Value.ref _]) _ _ _); k_dflt (refine' Mine.join_cat ?jN ?jm ?ji ?jB ?jn ?_; (case jN => k_asm); (case jm => k_mem); (case ji => repeat (first | exact PyProof.Rows.StrsAre.nil | apply PyProof.Rows.StrsAre.cons)); (case jB => (repeat (first | exact List.forall_mem_nil _ | refine List.forall_mem_cons.mpr ⟨by first | (with_reducible exact Mine.le5 (Mine.ReprAs.len (by assumption))) | (with_reducible exact Mine.line_len (by assumption) (by assumption)) | decide +kernel, ?_⟩))); (case jn => exact Nat.le_of_ble_eq_true rfl)); intro _ _; (try simp only [Mine.catS]))
  k_with "setAttr ref" => (k_here; k_dflt (refine' Mine.set_newK ?k1 ?k2 ?k3 ?k4 ?k5 ?k6 ?_; (case k1 => k_asm); (case k2 => k_asm); (case k3 => k_asm); (case k6 => (intro dx'; k_upd)); (case k4 => first | (with_reducible assumption) | exact Mine.xc60 _ rfl); (case k5 => k_is); k_whole; intro d' h' F' N' l1; (try dsimp only at N'); (try k_lt l1); (try k_sweep)))
  k_with "setAttr ref" => (k_here; k_dflt (refine' Mine.set_dictK ?k1 ?k2 ?k3 ?k4 ?k5 ?k6 ?k7 ?k10 ?k11 ?k12 ?k13 ?_; (case k1 => k_asm); (case k2 => k_asm); (case k3 => k_asm); (case k4 => (refine' Mine.instX ?N ?h1 ?h2; (case N => k_asm); (case h1 => k_mem); (case h2 => k_mem))); (case k5 => exact rfl); (case k6 => first | (with_reducible assumption) | exact Mine.xc60 _ rfl); (case k7 => k_is); (case k10 => k_get); (case k11 => k_put); (case k12 => k_upd); (case k13 => exact Nat.le_of_ble_eq_true rfl); k_whole; intro h' F' N'; (try k_sweep)))
  k_with "setAttr ref" => (k_here; (with_reducible show wpAny _ _ (setAttr (Value.ref _) (PySem.Str.ofString "args") (Value.ref _)) _ _ _); k_dflt (refine' Mine.set_argsK ?k1 ?k2 ?k3 ?k4 ?k5 ?k6 ?k7 ?k8 ?_; (case k1 => k_asm); (case k2 => k_asm); (case k3 => k_asm); (case k4 => (refine' Mine.instX ?N ?h1 ?h2; (case N => k_asm); (case h1 => k_mem); (case h2 => k_mem))); (case k5 => first | (with_reducible assumption) | exact Mine.xc60 _ rfl); (case k6 => k_is); (case k7 => exact News.isTup (by k_asm) (by k_mem)); (case k8 => k_upd); k_whole; intro h' F' N'; (try k_sweep)))
  k_with "getAttr ref" => (k_here; k_dflt (refine' Mine.get_ownX ?k1 ?k2 ?k3 ?k4 ?k5 ?k6 ?k7 ?k8 ?_; (case k1 => k_asm); (case k2 => k_asm); (case k3 => (refine' Mine.instX ?N ?h1 ?h2; (case N => k_asm); (case h1 => k_mem); (case h2 => k_mem))); (case k4 => first | (with_reducible assumption) | exact Mine.xc60 _ rfl); (case k5 => k_is); (case k6 => k_is); (case k7 => k_get); (case k8 => first | k_handed | with_reducible assumption); k_whole))
  k_with "getAttr ref" => (k_here; (with_reducible show wpAny _ _ (getAttr (Value.ref _) (PySem.Str.ofString "args") _) _ _ _); k_dflt (refine' Mine.get_argsX ?k1 ?k2 ?k3 ?k4 ?k5 ?k6 ?k7 ?_; (case k1 => k_asm); (case k2 => k_asm); (case k3 => (refine' Mine.instX ?N ?h1 ?h2; (case N => k_asm); (case h1 => k_mem); (case h2 => k_mem))); (case k4 => first | (with_reducible assumption) | exact Mine.xc60 _ rfl); (case k5 => k_is); (case k6 => k_is); (case k7 => k_is); k_whole))
  k_with "call ref" => (k_here; (with_reducible show wpAny _ _ (call (Value.ref 60) _ _) _ _ _); (first | (with_reducible show wpAny _ _ (call (Value.ref 60) _ []) _ _ _) | (with_unfolding_all show wpAny _ _ (call (Value.ref 60) _ [(PySem.Str.ofString "lineno", _), (PySem.Str.ofString "source", _), (PySem.Str.ofString "section", _)]) _ _ _) | (with_unfolding_all show wpAny _ _ (call (Value.ref 60) _ [(PySem.Str.ofString "lineno", _)]) _ _ _) | (with_unfolding_all show wpAny _ _ (call (Value.ref 60) _ [(PySem.Str.ofString "section", _)]) _ _ _)); k_dflt (refine' Mine.dseN_T _ _ _ _ _ _ _ _ _ _ _ _ _ _ _ _ _ _ _ _ _ _ _ _ _ _ _ _ _ _ ?kB ?kF ?kX ?kT ?kk ?kd ?ku ?pl ?hb ?r1 ?_; (case hb => first | with_reducible exact Mine.binds0 _ _ _ _ | with_reducible exact Mine.binds1 _ _ _ _ | with_reducible exact Mine.binds2 _ _ _ | with_reducible exact Mine.binds3 _ _ _ | with_reducible exact Mine.binds4 _ _); (case kB => k_asm); (case kF => k_asm); (case kX => k_asm); (case kT => k_asm); (case kk => first | exact rfl | assumption); (case kd => ktr_room); (case ku => ktr_units); (case pl => exact Nat.le_of_ble_eq_true rfl); (case r1 => (refine Mine.ReprAs.up (by with_reducible assumption) ?_; first | exact keep_0 (by assumption) (by k_asm) | exact keep_N (by assumption) (by assumption) (by k_asm) (by k_asm) (fun p hp => by first | exact hp | exact List.mem_cons_of_mem _ hp))); k_whole); intro x' dx' tx' kt0' kt1' kt2' kt3' km' h' tk' hk' F' N1'; (have N' := Mine.news_lift (by k_asm) N1' hk'); (clear N1' hk'); (try simp only [List.cons_append, List.nil_append] at N'); (try dsimp only))
  k_with "ite" => (k_here; (first | refine Mine.ite_ff ?_ | refine Mine.ite_tt ?_))
  k_fill
  intro w loose mean mg mb dp un cn cs a ccd cl outer A₀ base h₀ L m h g d tk os Q E sec r  t B F X T hk hd hu hrs hret
  refine wpAny_call ?_
  (refine' Mine.code_defG ?k1 ?k2 ?k3 ?k4 ?k5 ?kA ?kF ?kK ?k6 ?k7 ?k8 ?k9 ?kB ?_ ?c2 ?c3 ?c4 ?c5)
  (case kA => exact rfl)
  (case kF => exact rfl)
  (case kK => first | exact rfl | assumption)
  (case k1 => k_asm)
  (case k2 => k_asm)
  (case k3 => k_asm)
  (case k4 => exact PyProof.Rows.News.nil)
  (case k5 => k_asm)
  (case k6 => k_is)
  (case k7 => k_is)
  (case k8 => ktr_room)
  (case k9 => first | exact BindsTo.of_eq rfl | exact binds_K (by k_in) rfl (by k_is) rfl rfl rfl | fail "no rule for these arguments")
  (case c5 => decide)
  (case kB => exact locs rfl)
  (case c2 => exact rfl)
  (case c3 => exact rfl)
  (case c4 => exact rfl)
  intro g1 L1 h2 tk2 hg1 FG1 F2 N2 B2 X2 T2 l2
  (try k_lt l2)
  (try k_lift B2)
  (try k_fold)
  k_steps
  all_goals (refine' hret _ _ _ _ _ _ _ _ _ _ ?keep ?F ?N; (case keep => exact keep_0 hg1 (by k_asm)); (case F => k_asm); (case N => (refine' Mine.news3 ?n0 ?n1 ?n2 ?n3; (case n0 => k_asm); (case n1 => k_mem); (case n2 => k_mem); (case n3 => k_mem))))
set_option rowWalk.seconds 0 in
set_option maxRecDepth 100000 in
set_option maxHeartbeats 16000000 in
theorem born0S_T : ∀ (w : World) (loose : List PySem.Str) (mean : ExcName → Option Value) (mg mb : PySem.Str → Option Value) (dp un : Nat) (cn : PySem.Str) (cs : Scope) (a : Addr) (ccd : Value) (cl : List (PySem.Str × Addr)) (outer : List Env) (A₀ : Around) (base h₀ : Heap) (L : Addr) (m : PySem.Str → Option Value) (h : Heap) (g : Array GenState) (d : Drawn) (tk : Nat) (os : OsState) (Q E : Value → Shared → Prop) (sec : Value) (r : PySem.Str) (src lin : Value) (rv : PySem.Str) (ln : Option Int) (t : Tok), Below A₀ base outer h₀ → Fr h₀ L h m → (Mine.hd.heap_39 w.params).In h₀ → Top Mine.hd.view_39 loose mean mg mb h₀ → cs.kind = .function → dp + 12 < recursionLimit → un + 240 < cLine → ReprAs PySem.Challenge.rw_dm0029_02.row.prog w h sec r → (src == Value.none) = false → ReprAs PySem.Challenge.rw_dm0029_02.row.prog w h src rv → LinIs lin ln →
    (∀ (x dx tx : Addr) (kt0 kt1 kt2 kt3 km : Tok) (h' : Heap) (tk' : Nat), (∀ b o, h.get? b = some o → h'.get? b = some o) → Fr h₀ L h' m → News h₀ L h' [(x, xObj 60 (some dx) (excF (.ref tx))), (dx, dictOf [⟨PyData.keyHash w.params (PySem.Str.ofString "message"), .str (PySem.Str.ofString "message") kt0, .str (againMsg (PySem.Str.ofString "Section ") (PySem.Str.ofString ": section ") [r, PySem.Str.ofString " already exists"] (some rv) ln) km⟩, ⟨PyData.keyHash w.params (PySem.Str.ofString "section"), .str (PySem.Str.ofString "section") kt1, sec⟩, ⟨PyData.keyHash w.params (PySem.Str.ofString "source"), .str (PySem.Str.ofString "source") kt2, src⟩, ⟨PyData.keyHash w.params (PySem.Str.ofString "lineno"), .str (PySem.Str.ofString "lineno") kt3, lin⟩] 4), (tx, tupObj [sec, src, lin])] → Q (.ref x) ⟨h', g, d, tk', os⟩) →
    wpAny (model PySem.Challenge.rw_dm0029_02.row.prog w) (ktrTop dp un (some []) cn cs L a ccd cl outer) (call (.ref 81) [.int 0 t, sec, src, lin]) Q E ⟨h, g, d, tk, os⟩ := by
  k_with_none
  k_with "ne" => (first | exact Mine.ne_l1 (by assumption) | exact Mine.ne_l1' (by assumption) | exact Mine.ne_r1 (by assumption) | exact Mine.ne_r1' (by assumption) | exact Mine.ne_l2 (by assumption) | exact Mine.ne_l2' (by assumption) | exact Mine.ne_r2 (by assumption) | exact Mine.ne_r2' (by assumption) | exact Mine.ne_l3 (by assumption) | exact Mine.ne_l3' (by assumption) | exact Mine.ne_r3 (by assumption) | exact Mine.ne_r3' (by assumption) | exact Mine.ne_l4 (by assumption) | exact Mine.ne_l4' (by assumption) | exact Mine.ne_r4 (by assumption) | exact Mine.ne_r4' (by assumption) | exact Mine.ne_l5 (by assumption) | exact Mine.ne_l5' (by assumption) | exact Mine.ne_r5 (by assumption) | exact Mine.ne_r5' (by assumption) | exact Mine.ne_l6 (by assumption) | exact Mine.ne_l6' (by assumption) | exact Mine.ne_r6 (by assumption) | exact Mine.ne_r6' (by assumption) | exact Mine.ne_l7 (by assumption) | exact Mine.ne_l7' (by assumption) | exact Mine.ne_r7 (by assumption) | exact Mine.ne_r7' (by assumption) | exact Mine.ne_l8 (by assumption) | exact Mine.ne_l8' (by assumption) | exact Mine.ne_r8 (by assumption) | exact Mine.ne_r8' (by assumption) | exact Mine.ne_l9 (by assumption) | exact Mine.ne_l9' (by assumption) | exact Mine.ne_r9 (by assumption) | exact Mine.ne_r9' (by assumption))
  k_with "exec For Name BinOp cons nil" => (k_here; (rename Fr _ _ _ _ => lF'); (with_unfolding_all refine' For_invVF lF' ?k1 ?k2 ?_; (case k1 => exact rfl); (case k2 => exact rfl); k_whole))
  k_with "call ref" => (k_here; (fail_if_success (with_reducible show wpAny _ _ (call (Value.ref 60) _) _ _ _)); k_dflt ((refine wpAny_call ?_); (refine' Mine.code_defG ?k1 ?k2 ?k3 ?k4 ?k5 ?kA ?kF ?kK ?k6 ?k7 ?k8 ?k9 ?kB ?_ ?c2 ?c3 ?c4 ?c5); (case kA => exact rfl); (case kF => exact rfl); (case kK => first | exact rfl | assumption); (case k1 => k_asm); (case k2 => k_asm); (case k3 => k_asm); (case k4 => k_asm); (case k5 => k_asm); (case k6 => k_is); (case k7 => k_is); (case k8 => ktr_room); (case k9 => first | exact BindsTo.of_eq rfl | exact binds_K (by k_in) rfl (by k_is) rfl rfl rfl | fail "no rule for these arguments"); (case c5 => decide); (case kB => exact locs rfl); (case c2 => exact rfl); (case c3 => exact rfl); (case c4 => exact rfl); k_whole; intro g' L' h' tk' hg' FG' F' N' B' X' T' l'; (clear hg'); (try k_lt l'); (try dsimp only); (try k_lift B'); (try k_fold)))
  k_with "call builtin:repr" => (k_here; (with_reducible show wpAny _ _ (call (Value.builtin "repr") [_]) _ _ _); k_dflt ((refine' Mine.ReprAs.run ?r0 ?rF ?rN ?rk ?ru ?rg ?_); (case r0 => with_reducible assumption); (case rF => k_asm); (case rN => k_asm); (case rk => first | exact (fun b o e => (Mine.keep_X (by with_reducible assumption) (by with_reducible assumption) (by with_reducible assumption) (by with_reducible assumption) b o e).1) | exact (fun _ _ e => Fr.keep (by with_reducible assumption) _ _ (Fr.keep (by with_reducible assumption) _ _ e)) | exact (fun _ _ e => Fr.keep (by with_reducible assumption) _ _ e)); (case ru => ((try simp only [units_deeper, units_in1, units_under_make, Mine.units_under_kw]); ktr_units)); (case rg => exact rfl); k_whole; intro t' k' h' F' N'))
  k_with "compareOp IsNot" => (k_here; (with_reducible show wpAny _ _ (compareOp CmpOp.IsNot _ Value.none) _ _ _); refine Mine.isNot_none' (by with_reducible assumption) ?_)
  k_with "compareOp Is" => (k_here; (with_reducible show wpAny _ _ (compareOp CmpOp.Is _ Value.none) _ _ _); refine Mine.is_none' (by with_reducible assumption) ?_)
  k_with "getMethod type:Exception" => (k_here; refine' method_type ?F ?X ?m (by decide +kernel) ?e ?h ?_; (case F => k_asm); (case X => k_asm); (case m => kernel_rfl); (case e => k_dflt k_is); (case h => k_handed))
  k_with "call builtin:Exception.__init__" => (k_here; k_dflt (refine' Mine.init_K ?k1 ?k2 ?k3 ?k4 ?k5 ?k6 ?_; (case k1 => k_asm); (case k2 => k_asm); (case k3 => k_asm); (case k6 => (intro tx'; k_upd)); (case k4 => first | (with_reducible assumption) | exact Mine.xc60 _ rfl); (case k5 => exact Nat.le_of_ble_eq_true rfl); k_whole); intro t' h' F' N' l1; (try dsimp only at N'); (try k_lt l1); (try k_sweep))
  k_with "call builtin:str.format" => (k_here; (with_reducible show wpAny _ _ (call (Value.builtin "str.format") [Value.str _ _, Value.int _ _]) _ _ _); (refine Mine.line_2d (by assumption) (by assumption) ?_); intro _ _)
  k_with "call builtin:str.join" => (k_here; (with_reducible show wpAny _ _ (call (Value.builtin "str.join") [Value.str _ _, Value.ref _]) _ _ _); k_dflt (refine' Mine.join_cat ?jN ?jm ?ji ?jB ?jn ?_; (case jN => k_asm); (case jm => k_mem); (case ji => repeat (first | exact PyProof.Rows.StrsAre.nil | apply PyProof.Rows.StrsAre.cons)); (case jB => (repeat (first | exact List.forall_mem_nil _ | refine List.forall_mem_cons.mpr ⟨by first | (with_reducible exact Mine.le5 (Mine.ReprAs.len (by assumption))) | (with_reducible exact Mine.line_len (by assumption) (by assumption)) | decide +kernel, ?_⟩))); (case jn => exact Nat.le_of_ble_eq_true rfl)); intro _ _; (try simp only [Mine.catS]))
  k_with "setAttr ref" => (k_here; k_dflt (refine' Mine.set_newK ?k1 ?k2 ?k3 ?k4 ?k5 ?k6 ?_; (case k1 => k_asm); (case k2 => k_asm); (case k3 => k_asm); (case k6 => (intro dx'; k_upd)); (case k4 => first | (with_reducible assumption) | exact Mine.xc60 _ rfl); (case k5 => k_is); k_whole; intro d' h' F' N' l1; (try dsimp only at N'); (try k_lt l1); (try k_sweep)))
  k_with "setAttr ref" => (k_here; k_dflt (refine' Mine.set_dictK ?k1 ?k2 ?k3 ?k4 ?k5 ?k6 ?k7 ?k10 ?k11 ?k12 ?k13 ?_; (case k1 => k_asm); (case k2 => k_asm); (case k3 => k_asm); (case k4 => (refine' Mine.instX ?N ?h1 ?h2; (case N => k_asm); (case h1 => k_mem); (case h2 => k_mem))); (case k5 => exact rfl); (case k6 => first | (with_reducible assumption) | exact Mine.xc60 _ rfl); (case k7 => k_is); (case k10 => k_get); (case k11 => k_put); (case k12 => k_upd); (case k13 => exact Nat.le_of_ble_eq_true rfl); k_whole; intro h' F' N'; (try k_sweep)))
  k_with "setAttr ref" => (k_here; (with_reducible show wpAny _ _ (setAttr (Value.ref _) (PySem.Str.ofString "args") (Value.ref _)) _ _ _); k_dflt (refine' Mine.set_argsK ?k1 ?k2 ?k3 ?k4 ?k5 ?k6 ?k7 ?k8 ?_; (case k1 => k_asm); (case k2 => k_asm); (case k3 => k_asm); (case k4 => (refine' Mine.instX ?N ?h1 ?h2; (case N => k_asm); (case h1 => k_mem); (case h2 => k_mem))); (case k5 => first | (with_reducible assumption) | exact Mine.xc60 _ rfl); (case k6 => k_is); (case k7 => exact News.isTup (by k_asm) (by k_mem)); (case k8 => k_upd); k_whole; intro h' F' N'; (try k_sweep)))
  k_with "getAttr ref" => (k_here; k_dflt (refine' Mine.get_ownX ?k1 ?k2 ?k3 ?k4 ?k5 ?k6 ?k7 ?k8 ?_; (case k1 => k_asm); (case k2 => k_asm); (case k3 => (refine' Mine.instX ?N ?h1 ?h2; (case N => k_asm); (case h1 => k_mem); (case h2 => k_mem))); (case k4 => first | (with_reducible assumption) | exact Mine.xc60 _ rfl); (case k5 => k_is); (case k6 => k_is); (case k7 => k_get); (case k8 => first | k_handed | with_reducible assumption); k_whole))
  k_with "getAttr ref" => (k_here; (with_reducible show wpAny _ _ (getAttr (Value.ref _) (PySem.Str.ofString "args") _) _ _ _); k_dflt (refine' Mine.get_argsX ?k1 ?k2 ?k3 ?k4 ?k5 ?k6 ?k7 ?_; (case k1 => k_asm); (case k2 => k_asm); (case k3 => (refine' Mine.instX ?N ?h1 ?h2; (case N => k_asm); (case h1 => k_mem); (case h2 => k_mem))); (case k4 => first | (with_reducible assumption) | exact Mine.xc60 _ rfl); (case k5 => k_is); (case k6 => k_is); (case k7 => k_is); k_whole))
  k_with "call ref" => (k_here; (with_reducible show wpAny _ _ (call (Value.ref 60) _ _) _ _ _); (first | (with_reducible show wpAny _ _ (call (Value.ref 60) _ []) _ _ _) | (with_unfolding_all show wpAny _ _ (call (Value.ref 60) _ [(PySem.Str.ofString "lineno", _), (PySem.Str.ofString "source", _), (PySem.Str.ofString "section", _)]) _ _ _) | (with_unfolding_all show wpAny _ _ (call (Value.ref 60) _ [(PySem.Str.ofString "lineno", _)]) _ _ _) | (with_unfolding_all show wpAny _ _ (call (Value.ref 60) _ [(PySem.Str.ofString "section", _)]) _ _ _)); k_dflt (refine' Mine.dseN_T _ _ _ _ _ _ _ _ _ _ _ _ _ _ _ _ _ _ _ _ _ _ _ _ _ _ _ _ _ _ ?kB ?kF ?kX ?kT ?kk ?kd ?ku ?pl ?hb ?r1 ?_; (case hb => first | with_reducible exact Mine.binds0 _ _ _ _ | with_reducible exact Mine.binds1 _ _ _ _ | with_reducible exact Mine.binds2 _ _ _ | with_reducible exact Mine.binds3 _ _ _ | with_reducible exact Mine.binds4 _ _); (case kB => k_asm); (case kF => k_asm); (case kX => k_asm); (case kT => k_asm); (case kk => first | exact rfl | assumption); (case kd => ktr_room); (case ku => ktr_units); (case pl => exact Nat.le_of_ble_eq_true rfl); (case r1 => (refine Mine.ReprAs.up (by with_reducible assumption) ?_; first | exact keep_0 (by assumption) (by k_asm) | exact keep_N (by assumption) (by assumption) (by k_asm) (by k_asm) (fun p hp => by first | exact hp | exact List.mem_cons_of_mem _ hp))); k_whole); intro x' dx' tx' kt0' kt1' kt2' kt3' km' h' tk' hk' F' N1'; (have N' := Mine.news_lift (by k_asm) N1' hk'); (clear N1' hk'); (try simp only [List.cons_append, List.nil_append] at N'); (try dsimp only))
  k_with "ite" => (k_here; (first | refine Mine.ite_ff ?_ | refine Mine.ite_tt ?_))
  k_with "call ref" => (k_here; (with_reducible show wpAny _ _ (call (Value.ref 60) _ _) _ _ _); (first | (with_reducible show wpAny _ _ (call (Value.ref 60) _ []) _ _ _) | (with_unfolding_all show wpAny _ _ (call (Value.ref 60) _ [(PySem.Str.ofString "lineno", _), (PySem.Str.ofString "source", _), (PySem.Str.ofString "section", _)]) _ _ _) | (with_unfolding_all show wpAny _ _ (call (Value.ref 60) _ [(PySem.Str.ofString "lineno", _)]) _ _ _) | (with_unfolding_all show wpAny _ _ (call (Value.ref 60) _ [(PySem.Str.ofString "section", _)]) _ _ _)); k_dflt (refine' Mine.dseS_T _ _ _ _ _ _ _ _ _ _ _ _ _ _ _ _ _ _ _ _ _ _ _ _ _ _ _ _ _ _ _ _ _ ?kB ?kF ?kX ?kT ?kk ?kd ?ku ?pl ?hb ?r1 ?sn ?r2 ?li ?_; (case hb => first | with_reducible exact Mine.binds0 _ _ _ _ | with_reducible exact Mine.binds1 _ _ _ _ | with_reducible exact Mine.binds3 _ _ _); (case sn => with_reducible assumption); (case kB => k_asm); (case kF => k_asm); (case kX => k_asm); (case kT => k_asm); (case kk => first | exact rfl | assumption); (case kd => ktr_room); (case ku => ktr_units); (case pl => exact Nat.le_of_ble_eq_true rfl); (case r1 => (refine Mine.ReprAs.up (by with_reducible assumption) ?_; first | exact keep_0 (by assumption) (by k_asm) | exact keep_N (by assumption) (by assumption) (by k_asm) (by k_asm) (fun p hp => by first | exact hp | exact List.mem_cons_of_mem _ hp))); (case r2 => (refine Mine.ReprAs.up (by with_reducible assumption) ?_; first | exact keep_0 (by assumption) (by k_asm) | exact keep_N (by assumption) (by assumption) (by k_asm) (by k_asm) (fun p hp => by first | exact hp | exact List.mem_cons_of_mem _ hp))); (case li => first | with_reducible assumption | exact Mine.LinIs.none); k_whole); intro x' dx' tx' kt0' kt1' kt2' kt3' km' h' tk' hk' F' N1'; (have N' := Mine.news_lift (by k_asm) N1' hk'); (clear N1' hk'); (try simp only [List.cons_append, List.nil_append] at N'); (try dsimp only))
  k_fill
  intro w loose mean mg mb dp un cn cs a ccd cl outer A₀ base h₀ L m h g d tk os Q E sec r src lin rv ln t B F X T hk hd hu hrs hsn hsr hlin hret
  refine wpAny_call ?_
  (refine' Mine.code_defG ?k1 ?k2 ?k3 ?k4 ?k5 ?kA ?kF ?kK ?k6 ?k7 ?k8 ?k9 ?kB ?_ ?c2 ?c3 ?c4 ?c5)
  (case kA => exact rfl)
  (case kF => exact rfl)
  (case kK => first | exact rfl | assumption)
  (case k1 => k_asm)
  (case k2 => k_asm)
  (case k3 => k_asm)
  (case k4 => exact PyProof.Rows.News.nil)
  (case k5 => k_asm)
  (case k6 => k_is)
  (case k7 => k_is)
  (case k8 => ktr_room)
  (case k9 => first | exact BindsTo.of_eq rfl | exact binds_K (by k_in) rfl (by k_is) rfl rfl rfl | fail "no rule for these arguments")
  (case c5 => decide)
  (case kB => exact locs rfl)
  (case c2 => exact rfl)
  (case c3 => exact rfl)
  (case c4 => exact rfl)
  intro g1 L1 h2 tk2 hg1 FG1 F2 N2 B2 X2 T2 l2
  (try k_lt l2)
  (try k_lift B2)
  (try k_fold)
  k_steps
  all_goals (refine' hret _ _ _ _ _ _ _ _ _ _ ?keep ?F ?N; (case keep => exact keep_0 hg1 (by k_asm)); (case F => k_asm); (case N => (refine' Mine.news3 ?n0 ?n1 ?n2 ?n3; (case n0 => k_asm); (case n1 => k_mem); (case n2 => k_mem); (case n3 => k_mem))))
set_option rowWalk.seconds 0 in
set_option maxRecDepth 100000 in
set_option maxHeartbeats 16000000 in
theorem born1S_T : ∀ (w : World) (loose : List PySem.Str) (mean : ExcName → Option Value) (mg mb : PySem.Str → Option Value) (dp un : Nat) (cn : PySem.Str) (cs : Scope) (a : Addr) (ccd : Value) (cl : List (PySem.Str × Addr)) (outer : List Env) (A₀ : Around) (base h₀ : Heap) (L : Addr) (m : PySem.Str → Option Value) (h : Heap) (g : Array GenState) (d : Drawn) (tk : Nat) (os : OsState) (Q E : Value → Shared → Prop) (sec : Value) (r : PySem.Str) (src lin : Value) (rv : PySem.Str) (ln : Option Int) (t : Tok), Below A₀ base outer h₀ → Fr h₀ L h m → (Mine.hd.heap_39 w.params).In h₀ → Top Mine.hd.view_39 loose mean mg mb h₀ → cs.kind = .function → dp + 12 < recursionLimit → un + 240 < cLine → ReprAs PySem.Challenge.rw_dm0029_02.row.prog w h sec r → (src == Value.none) = false → ReprAs PySem.Challenge.rw_dm0029_02.row.prog w h src rv → LinIs lin ln →
    (∀ (x dx tx : Addr) (kt0 kt1 kt2 kt3 km : Tok) (h' : Heap) (tk' : Nat), (∀ b o, h.get? b = some o → h'.get? b = some o) → Fr h₀ L h' m → News h₀ L h' [(x, xObj 60 (some dx) (excF (.ref tx))), (dx, dictOf [⟨PyData.keyHash w.params (PySem.Str.ofString "message"), .str (PySem.Str.ofString "message") kt0, .str (againMsg (PySem.Str.ofString "Section ") (PySem.Str.ofString ": section ") [r, PySem.Str.ofString " already exists"] (some rv) ln) km⟩, ⟨PyData.keyHash w.params (PySem.Str.ofString "section"), .str (PySem.Str.ofString "section") kt1, sec⟩, ⟨PyData.keyHash w.params (PySem.Str.ofString "source"), .str (PySem.Str.ofString "source") kt2, src⟩, ⟨PyData.keyHash w.params (PySem.Str.ofString "lineno"), .str (PySem.Str.ofString "lineno") kt3, lin⟩] 4), (tx, tupObj [sec, src, lin])] → Q (.ref x) ⟨h', g, d, tk', os⟩) →
    wpAny (model PySem.Challenge.rw_dm0029_02.row.prog w) (ktrTop dp un (some []) cn cs L a ccd cl outer) (call (.ref 81) [.int 1 t, sec, src, lin]) Q E ⟨h, g, d, tk, os⟩ := by
  k_with_none
  k_with "ne" => (first | exact Mine.ne_l1 (by assumption) | exact Mine.ne_l1' (by assumption) | exact Mine.ne_r1 (by assumption) | exact Mine.ne_r1' (by assumption) | exact Mine.ne_l2 (by assumption) | exact Mine.ne_l2' (by assumption) | exact Mine.ne_r2 (by assumption) | exact Mine.ne_r2' (by assumption) | exact Mine.ne_l3 (by assumption) | exact Mine.ne_l3' (by assumption) | exact Mine.ne_r3 (by assumption) | exact Mine.ne_r3' (by assumption) | exact Mine.ne_l4 (by assumption) | exact Mine.ne_l4' (by assumption) | exact Mine.ne_r4 (by assumption) | exact Mine.ne_r4' (by assumption) | exact Mine.ne_l5 (by assumption) | exact Mine.ne_l5' (by assumption) | exact Mine.ne_r5 (by assumption) | exact Mine.ne_r5' (by assumption) | exact Mine.ne_l6 (by assumption) | exact Mine.ne_l6' (by assumption) | exact Mine.ne_r6 (by assumption) | exact Mine.ne_r6' (by assumption) | exact Mine.ne_l7 (by assumption) | exact Mine.ne_l7' (by assumption) | exact Mine.ne_r7 (by assumption) | exact Mine.ne_r7' (by assumption) | exact Mine.ne_l8 (by assumption) | exact Mine.ne_l8' (by assumption) | exact Mine.ne_r8 (by assumption) | exact Mine.ne_r8' (by assumption) | exact Mine.ne_l9 (by assumption) | exact Mine.ne_l9' (by assumption) | exact Mine.ne_r9 (by assumption) | exact Mine.ne_r9' (by assumption))
  k_with "exec For Name BinOp cons nil" => (k_here; (rename Fr _ _ _ _ => lF'); (with_unfolding_all refine' For_invVF lF' ?k1 ?k2 ?_; (case k1 => exact rfl); (case k2 => exact rfl); k_whole))
  k_with "call ref" => (k_here; (fail_if_success (with_reducible show wpAny _ _ (call (Value.ref 60) _) _ _ _)); k_dflt ((refine wpAny_call ?_); (refine' Mine.code_defG ?k1 ?k2 ?k3 ?k4 ?k5 ?kA ?kF ?kK ?k6 ?k7 ?k8 ?k9 ?kB ?_ ?c2 ?c3 ?c4 ?c5); (case kA => exact rfl); (case kF => exact rfl); (case kK => first | exact rfl | assumption); (case k1 => k_asm); (case k2 => k_asm); (case k3 => k_asm); (case k4 => k_asm); (case k5 => k_asm); (case k6 => k_is); (case k7 => k_is); (case k8 => ktr_room); (case k9 => first | exact BindsTo.of_eq rfl | exact binds_K (by k_in) rfl (by k_is) rfl rfl rfl | fail "no rule for these arguments"); (case c5 => decide); (case kB => exact locs rfl); (case c2 => exact rfl); (case c3 => exact rfl); (case c4 => exact rfl); k_whole; intro g' L' h' tk' hg' FG' F' N' B' X' T' l'; (clear hg'); (try k_lt l'); (try dsimp only); (try k_lift B'); (try k_fold)))
  k_with "call builtin:repr" => (k_here; (with_reducible show wpAny _ _ (call (Value.builtin "repr") [_]) _ _ _); k_dflt ((refine' Mine.ReprAs.run ?r0 ?rF ?rN ?rk ?ru ?rg ?_); (case r0 => with_reducible assumption); (case rF => k_asm); (case rN => k_asm); (case rk => first | exact (fun b o e => (Mine.keep_X (by with_reducible assumption) (by with_reducible assumption) (by with_reducible assumption) (by with_reducible assumption) b o e).1) | exact (fun _ _ e => Fr.keep (by with_reducible assumption) _ _ (Fr.keep (by with_reducible assumption) _ _ e)) | exact (fun _ _ e => Fr.keep (by with_reducible assumption) _ _ e)); (case ru => ((try simp only [units_deeper, units_in1, units_under_make, Mine.units_under_kw]); ktr_units)); (case rg => exact rfl); k_whole; intro t' k' h' F' N'))
  k_with "compareOp IsNot" => (k_here; (with_reducible show wpAny _ _ (compareOp CmpOp.IsNot _ Value.none) _ _ _); refine Mine.isNot_none' (by with_reducible assumption) ?_)
  k_with "compareOp Is" => (k_here; (with_reducible show wpAny _ _ (compareOp CmpOp.Is _ Value.none) _ _ _); refine Mine.is_none' (by with_reducible assumption) ?_)
  k_with "getMethod type:Exception" => (k_here; refine' method_type ?F ?X ?m (by decide +kernel) ?e ?h ?_; (case F => k_asm); (case X => k_asm); (case m => kernel_rfl); (case e => k_dflt k_is); (case h => k_handed))
  k_with "call builtin:Exception.__init__" => (k_here; k_dflt (refine' Mine.init_K ?k1 ?k2 ?k3 ?k4 ?k5 ?k6 ?_; (case k1 => k_asm); (case k2 => k_asm); (case k3 => k_asm); (case k6 => (intro tx'; k_upd)); (case k4 => first | (with_reducible assumption) | exact Mine.xc60 _ rfl); (case k5 => exact Nat.le_of_ble_eq_true rfl); k_whole); intro t' h' F' N' l1; (try dsimp only at N'); (try k_lt l1); (try k_sweep))
  k_with "call builtin:str.format" => (k_here; (with_reducible show wpAny _ _ (call (Value.builtin "str.format") [Value.str _ _, Value.int _ _]) _ _ _); (refine Mine.line_2d (by assumption) (by assumption) ?_); intro _ _)
  k_with "call builtin:str.join" => (k_here; (with_reducible show wpAny _ _ (call (Value.builtin "str.join") [Value.str _ _, Value.ref _]) _ _ _); k_dflt (refine' Mine.join_cat ?jN ?jm ?ji ?jB ?jn ?_; (case jN => k_asm); (case jm => k_mem); (case ji => repeat (first | exact PyProof.Rows.StrsAre.nil | apply PyProof.Rows.StrsAre.cons)); (case jB => (repeat (first | exact List.forall_mem_nil _ | refine List.forall_mem_cons.mpr ⟨by first | (with_reducible exact Mine.le5 (Mine.ReprAs.len (by assumption))) | (with_reducible exact Mine.line_len (by assumption) (by assumption)) | decide +kernel, ?_⟩))); (case jn => exact Nat.le_of_ble_eq_true rfl)); intro _ _; (try simp only [Mine.catS]))
  k_with "setAttr ref" => (k_here; k_dflt (refine' Mine.set_newK ?k1 ?k2 ?k3 ?k4 ?k5 ?k6 ?_; (case k1 => k_asm); (case k2 => k_asm); (case k3 => k_asm); (case k6 => (intro dx'; k_upd)); (case k4 => first | (with_reducible assumption) | exact Mine.xc60 _ rfl); (case k5 => k_is); k_whole; intro d' h' F' N' l1; (try dsimp only at N'); (try k_lt l1); (try k_sweep)))
  k_with "setAttr ref" => (k_here; k_dflt (refine' Mine.set_dictK ?k1 ?k2 ?k3 ?k4 ?k5 ?k6 ?k7 ?k10 ?k11 ?k12 ?k13 ?_; (case k1 => k_asm); (case k2 => k_asm); (case k3 => k_asm); (case k4 => (refine' Mine.instX ?N ?h1 ?h2; (case N => k_asm); (case h1 => k_mem); (case h2 => k_mem))); (case k5 => exact rfl); (case k6 => first | (with_reducible assumption) | exact Mine.xc60 _ rfl); (case k7 => k_is); (case k10 => k_get); (case k11 => k_put); (case k12 => k_upd); (case k13 => exact Nat.le_of_ble_eq_true rfl); k_whole; intro h' F' N'; (try k_sweep)))
  k_with "setAttr ref" => (k_here; (with_reducible show wpAny _ _ (setAttr (Value.ref _) (PySem.Str.ofString "args") (Value.ref _)) _ _ _); k_dflt (refine' Mine.set_argsK ?k1 ?k2 ?k3 ?k4 ?k5 ?k6 ?k7 ?k8 ?_; (case k1 => k_asm); (case k2 => k_asm); (case k3 => k_asm); (case k4 => (refine' Mine.instX ?N ?h1 ?h2; (case N => k_asm); (case h1 => k_mem); (case h2 => k_mem))); (case k5 => first | (with_reducible assumption) | exact Mine.xc60 _ rfl); (case k6 => k_is); (case k7 => exact News.isTup (by k_asm) (by k_mem)); (case k8 => k_upd); k_whole; intro h' F' N'; (try k_sweep)))
  k_with "getAttr ref" => (k_here; k_dflt (refine' Mine.get_ownX ?k1 ?k2 ?k3 ?k4 ?k5 ?k6 ?k7 ?k8 ?_; (case k1 => k_asm); (case k2 => k_asm); (case k3 => (refine' Mine.instX ?N ?h1 ?h2; (case N => k_asm); (case h1 => k_mem); (case h2 => k_mem))); (case k4 => first | (with_reducible assumption) | exact Mine.xc60 _ rfl); (case k5 => k_is); (case k6 => k_is); (case k7 => k_get); (case k8 => first | k_handed | with_reducible assumption); k_whole))
  k_with "getAttr ref" => (k_here; (with_reducible show wpAny _ _ (getAttr (Value.ref _) (PySem.Str.ofString "args") _) _ _ _); k_dflt (refine' Mine.get_argsX ?k1 ?k2 ?k3 ?k4 ?k5 ?k6 ?k7 ?_; (case k1 => k_asm); (case k2 => k_asm); (case k3 => (refine' Mine.instX ?N ?h1 ?h2; (case N => k_asm); (case h1 => k_mem); (case h2 => k_mem))); (case k4 => first | (with_reducible assumption) | exact Mine.xc60 _ rfl); (case k5 => k_is); (case k6 => k_is); (case k7 => k_is); k_whole))
  k_with "call ref" => (k_here; (with_reducible show wpAny _ _ (call (Value.ref 60) _ _) _ _ _); (first | (with_reducible show wpAny _ _ (call (Value.ref 60) _ []) _ _ _) | (with_unfolding_all show wpAny _ _ (call (Value.ref 60) _ [(PySem.Str.ofString "lineno", _), (PySem.Str.ofString "source", _), (PySem.Str.ofString "section", _)]) _ _ _) | (with_unfolding_all show wpAny _ _ (call (Value.ref 60) _ [(PySem.Str.ofString "lineno", _)]) _ _ _) | (with_unfolding_all show wpAny _ _ (call (Value.ref 60) _ [(PySem.Str.ofString "section", _)]) _ _ _)); k_dflt (refine' Mine.dseN_T _ _ _ _ _ _ _ _ _ _ _ _ _ _ _ _ _ _ _ _ _ _ _ _ _ _ _ _ _ _ ?kB ?kF ?kX ?kT ?kk ?kd ?ku ?pl ?hb ?r1 ?_; (case hb => first | with_reducible exact Mine.binds0 _ _ _ _ | with_reducible exact Mine.binds1 _ _ _ _ | with_reducible exact Mine.binds2 _ _ _ | with_reducible exact Mine.binds3 _ _ _ | with_reducible exact Mine.binds4 _ _); (case kB => k_asm); (case kF => k_asm); (case kX => k_asm); (case kT => k_asm); (case kk => first | exact rfl | assumption); (case kd => ktr_room); (case ku => ktr_units); (case pl => exact Nat.le_of_ble_eq_true rfl); (case r1 => (refine Mine.ReprAs.up (by with_reducible assumption) ?_; first | exact keep_0 (by assumption) (by k_asm) | exact keep_N (by assumption) (by assumption) (by k_asm) (by k_asm) (fun p hp => by first | exact hp | exact List.mem_cons_of_mem _ hp))); k_whole); intro x' dx' tx' kt0' kt1' kt2' kt3' km' h' tk' hk' F' N1'; (have N' := Mine.news_lift (by k_asm) N1' hk'); (clear N1' hk'); (try simp only [List.cons_append, List.nil_append] at N'); (try dsimp only))
  k_with "ite" => (k_here; (first | refine Mine.ite_ff ?_ | refine Mine.ite_tt ?_))
  k_with "call ref" => (k_here; (with_reducible show wpAny _ _ (call (Value.ref 60) _ _) _ _ _); (first | (with_reducible show wpAny _ _ (call (Value.ref 60) _ []) _ _ _) | (with_unfolding_all show wpAny _ _ (call (Value.ref 60) _ [(PySem.Str.ofString "lineno", _), (PySem.Str.ofString "source", _), (PySem.Str.ofString "section", _)]) _ _ _) | (with_unfolding_all show wpAny _ _ (call (Value.ref 60) _ [(PySem.Str.ofString "lineno", _)]) _ _ _) | (with_unfolding_all show wpAny _ _ (call (Value.ref 60) _ [(PySem.Str.ofString "section", _)]) _ _ _)); k_dflt (refine' Mine.dseS_T _ _ _ _ _ _ _ _ _ _ _ _ _ _ _ _ _ _ _ _ _ _ _ _ _ _ _ _ _ _ _ _ _ ?kB ?kF ?kX ?kT ?kk ?kd ?ku ?pl ?hb ?r1 ?sn ?r2 ?li ?_; (case hb => first | with_reducible exact Mine.binds0 _ _ _ _ | with_reducible exact Mine.binds1 _ _ _ _ | with_reducible exact Mine.binds3 _ _ _); (case sn => with_reducible assumption); (case kB => k_asm); (case kF => k_asm); (case kX => k_asm); (case kT => k_asm); (case kk => first | exact rfl | assumption); (case kd => ktr_room); (case ku => ktr_units); (case pl => exact Nat.le_of_ble_eq_true rfl); (case r1 => (refine Mine.ReprAs.up (by with_reducible assumption) ?_; first | exact keep_0 (by assumption) (by k_asm) | exact keep_N (by assumption) (by assumption) (by k_asm) (by k_asm) (fun p hp => by first | exact hp | exact List.mem_cons_of_mem _ hp))); (case r2 => (refine Mine.ReprAs.up (by with_reducible assumption) ?_; first | exact keep_0 (by assumption) (by k_asm) | exact keep_N (by assumption) (by assumption) (by k_asm) (by k_asm) (fun p hp => by first | exact hp | exact List.mem_cons_of_mem _ hp))); (case li => first | with_reducible assumption | exact Mine.LinIs.none); k_whole); intro x' dx' tx' kt0' kt1' kt2' kt3' km' h' tk' hk' F' N1'; (have N' := Mine.news_lift (by k_asm) N1' hk'); (clear N1' hk'); (try simp only [List.cons_append, List.nil_append] at N'); (try dsimp only))
  k_fill
  intro w loose mean mg mb dp un cn cs a ccd cl outer A₀ base h₀ L m h g d tk os Q E sec r src lin rv ln t B F X T hk hd hu hrs hsn hsr hlin hret
  refine wpAny_call ?_
  (refine' Mine.code_defG ?k1 ?k2 ?k3 ?k4 ?k5 ?kA ?kF ?kK ?k6 ?k7 ?k8 ?k9 ?kB ?_ ?c2 ?c3 ?c4 ?c5)
  (case kA => exact rfl)
  (case kF => exact rfl)
  (case kK => first | exact rfl | assumption)
  (case k1 => k_asm)
  (case k2 => k_asm)
  (case k3 => k_asm)
  (case k4 => exact PyProof.Rows.News.nil)
  (case k5 => k_asm)
  (case k6 => k_is)
  (case k7 => k_is)
  (case k8 => ktr_room)
  (case k9 => first | exact BindsTo.of_eq rfl | exact binds_K (by k_in) rfl (by k_is) rfl rfl rfl | fail "no rule for these arguments")
  (case c5 => decide)
  (case kB => exact locs rfl)
  (case c2 => exact rfl)
  (case c3 => exact rfl)
  (case c4 => exact rfl)
  intro g1 L1 h2 tk2 hg1 FG1 F2 N2 B2 X2 T2 l2
  (try k_lt l2)
  (try k_lift B2)
  (try k_fold)
  k_steps
  all_goals (refine' hret _ _ _ _ _ _ _ _ _ _ ?keep ?F ?N; (case keep => exact keep_0 hg1 (by k_asm)); (case F => k_asm); (case N => (refine' Mine.news3 ?n0 ?n1 ?n2 ?n3; (case n0 => k_asm); (case n1 => k_mem); (case n2 => k_mem); (case n3 => k_mem))))
set_option rowWalk.seconds 0 in
set_option maxRecDepth 100000 in
set_option maxHeartbeats 16000000 in
theorem born3S_T : ∀ (w : World) (loose : List PySem.Str) (mean : ExcName → Option Value) (mg mb : PySem.Str → Option Value) (dp un : Nat) (cn : PySem.Str) (cs : Scope) (a : Addr) (ccd : Value) (cl : List (PySem.Str × Addr)) (outer : List Env) (A₀ : Around) (base h₀ : Heap) (L : Addr) (m : PySem.Str → Option Value) (h : Heap) (g : Array GenState) (d : Drawn) (tk : Nat) (os : OsState) (Q E : Value → Shared → Prop) (sec : Value) (r : PySem.Str) (src : Value) (rv : PySem.Str) (t : Tok), Below A₀ base outer h₀ → Fr h₀ L h m → (Mine.hd.heap_39 w.params).In h₀ → Top Mine.hd.view_39 loose mean mg mb h₀ → cs.kind = .function → dp + 12 < recursionLimit → un + 240 < cLine → ReprAs PySem.Challenge.rw_dm0029_02.row.prog w h sec r → (src == Value.none) = false → ReprAs PySem.Challenge.rw_dm0029_02.row.prog w h src rv →
    (∀ (x dx tx : Addr) (kt0 kt1 kt2 kt3 km : Tok) (h' : Heap) (tk' : Nat), (∀ b o, h.get? b = some o → h'.get? b = some o) → Fr h₀ L h' m → News h₀ L h' [(x, xObj 60 (some dx) (excF (.ref tx))), (dx, dictOf [⟨PyData.keyHash w.params (PySem.Str.ofString "message"), .str (PySem.Str.ofString "message") kt0, .str (againMsg (PySem.Str.ofString "Section ") (PySem.Str.ofString ": section ") [r, PySem.Str.ofString " already exists"] (some rv) none) km⟩, ⟨PyData.keyHash w.params (PySem.Str.ofString "section"), .str (PySem.Str.ofString "section") kt1, sec⟩, ⟨PyData.keyHash w.params (PySem.Str.ofString "source"), .str (PySem.Str.ofString "source") kt2, src⟩, ⟨PyData.keyHash w.params (PySem.Str.ofString "lineno"), .str (PySem.Str.ofString "lineno") kt3, .none⟩] 4), (tx, tupObj [sec, src, .none])] → Q (.ref x) ⟨h', g, d, tk', os⟩) →
    wpAny (model PySem.Challenge.rw_dm0029_02.row.prog w) (ktrTop dp un (some []) cn cs L a ccd cl outer) (call (.ref 81) [.int 3 t, sec, src, .none]) Q E ⟨h, g, d, tk, os⟩ := by
  k_with_none
  k_with "ne" => (first | exact Mine.ne_l1 (by assumption) | exact Mine.ne_l1' (by assumption) | exact Mine.ne_r1 (by assumption) | exact Mine.ne_r1' (by assumption) | exact Mine.ne_l2 (by assumption) | exact Mine.ne_l2' (by assumption) | exact Mine.ne_r2 (by assumption) | exact Mine.ne_r2' (by assumption) | exact Mine.ne_l3 (by assumption) | exact Mine.ne_l3' (by assumption) | exact Mine.ne_r3 (by assumption) | exact Mine.ne_r3' (by assumption) | exact Mine.ne_l4 (by assumption) | exact Mine.ne_l4' (by assumption) | exact Mine.ne_r4 (by assumption) | exact Mine.ne_r4' (by assumption) | exact Mine.ne_l5 (by assumption) | exact Mine.ne_l5' (by assumption) | exact Mine.ne_r5 (by assumption) | exact Mine.ne_r5' (by assumption) | exact Mine.ne_l6 (by assumption) | exact Mine.ne_l6' (by assumption) | exact Mine.ne_r6 (by assumption) | exact Mine.ne_r6' (by assumption) | exact Mine.ne_l7 (by assumption) | exact Mine.ne_l7' (by assumption) | exact Mine.ne_r7 (by assumption) | exact Mine.ne_r7' (by assumption) | exact Mine.ne_l8 (by assumption) | exact Mine.ne_l8' (by assumption) | exact Mine.ne_r8 (by assumption) | exact Mine.ne_r8' (by assumption) | exact Mine.ne_l9 (by assumption) | exact Mine.ne_l9' (by assumption) | exact Mine.ne_r9 (by assumption) | exact Mine.ne_r9' (by assumption))
  k_with "exec For Name BinOp cons nil" => (k_here; (rename Fr _ _ _ _ => lF'); (with_unfolding_all refine' For_invVF lF' ?k1 ?k2 ?_; (case k1 => exact rfl); (case k2 => exact rfl); k_whole))
  k_with "call ref" => (k_here; (fail_if_success (with_reducible show wpAny _ _ (call (Value.ref 60) _) _ _ _)); k_dflt ((refine wpAny_call ?_); (refine' Mine.code_defG ?k1 ?k2 ?k3 ?k4 ?k5 ?kA ?kF ?kK ?k6 ?k7 ?k8 ?k9 ?kB ?_ ?c2 ?c3 ?c4 ?c5); (case kA => exact rfl); (case kF => exact rfl); (case kK => first | exact rfl | assumption); (case k1 => k_asm); (case k2 => k_asm); (case k3 => k_asm); (case k4 => k_asm); (case k5 => k_asm); (case k6 => k_is); (case k7 => k_is); (case k8 => ktr_room); (case k9 => first | exact BindsTo.of_eq rfl | exact binds_K (by k_in) rfl (by k_is) rfl rfl rfl | fail "no rule for these arguments"); (case c5 => decide); (case kB => exact locs rfl); (case c2 => exact rfl); (case c3 => exact rfl); (case c4 => exact rfl); k_whole; intro g' L' h' tk' hg' FG' F' N' B' X' T' l'; (clear hg'); (try k_lt l'); (try dsimp only); (try k_lift B'); (try k_fold)))
  k_with "call builtin:repr" => (k_here; (with_reducible show wpAny _ _ (call (Value.builtin "repr") [_]) _ _ _); k_dflt ((refine' Mine.ReprAs.run ?r0 ?rF ?rN ?rk ?ru ?rg ?_); (case r0 => with_reducible assumption); (case rF => k_asm); (case rN => k_asm); (case rk => first | exact (fun b o e => (Mine.keep_X (by with_reducible assumption) (by with_reducible assumption) (by with_reducible assumption) (by with_reducible assumption) b o e).1) | exact (fun _ _ e => Fr.keep (by with_reducible assumption) _ _ (Fr.keep (by with_reducible assumption) _ _ e)) | exact (fun _ _ e => Fr.keep (by with_reducible assumption) _ _ e)); (case ru => ((try simp only [units_deeper, units_in1, units_under_make, Mine.units_under_kw]); ktr_units)); (case rg => exact rfl); k_whole; intro t' k' h' F' N'))
  k_with "compareOp IsNot" => (k_here; (with_reducible show wpAny _ _ (compareOp CmpOp.IsNot _ Value.none) _ _ _); refine Mine.isNot_none' (by with_reducible assumption) ?_)
  k_with "compareOp Is" => (k_here; (with_reducible show wpAny _ _ (compareOp CmpOp.Is _ Value.none) _ _ _); refine Mine.is_none' (by with_reducible assumption) ?_)
  k_with "getMethod type:Exception" => (k_here; refine' method_type ?F ?X ?m (by decide +kernel) ?e ?h ?_; (case F => k_asm); (case X => k_asm); (case m => kernel_rfl); (case e => k_dflt k_is); (case h => k_handed))
  k_with "call builtin:Exception.__init__" => (k_here; k_dflt (refine' Mine.init_K ?k1 ?k2 ?k3 ?k4 ?k5 ?k6 ?_; (case k1 => k_asm); (case k2 => k_asm); (case k3 => k_asm); (case k6 => (intro tx'; k_upd)); (case k4 => first | (with_reducible assumption) | exact Mine.xc60 _ rfl); (case k5 => exact Nat.le_of_ble_eq_true rfl); k_whole); intro t' h' F' N' l1; (try dsimp only at N'); (try k_lt l1); (try k_sweep))
  k_with "call builtin:str.format" => (k_here; (with_reducible show wpAny _ _ (call (Value.builtin "str.format") [Value.str _ _, Value.int _ _]) _ _ _); (refine Mine.line_2d (by assumption) (by assumption) ?_); intro _ _)
  k_with "call builtin:str.join" => (k_here; (with_reducible show wpAny _ _ (call (Value.builtin "str.join") [Value.str _ _, Value.ref _]) _ _ _); k_dflt (refine' Mine.join_cat ?jN ?jm ?ji ?jB ?jn ?_; (case jN => k_asm); (case jm => k_mem); (case ji => repeat (first | exact PyProof.Rows.StrsAre.nil | apply PyProof.Rows.StrsAre.cons)); (case jB => (repeat (first | exact List.forall_mem_nil _ | refine List.forall_mem_cons.mpr ⟨by first | (with_reducible exact Mine.le5 (Mine.ReprAs.len (by assumption))) | (with_reducible exact Mine.line_len (by assumption) (by assumption)) | decide +kernel, ?_⟩))); (case jn => exact Nat.le_of_ble_eq_true rfl)); intro _ _; (try simp only [Mine.catS]))
  k_with "setAttr ref" => (k_here; k_dflt (refine' Mine.set_newK ?k1 ?k2 ?k3 ?k4 ?k5 ?k6 ?_; (case k1 => k_asm); (case k2 => k_asm); (case k3 => k_asm); (case k6 => (intro dx'; k_upd)); (case k4 => first | (with_reducible assumption) | exact Mine.xc60 _ rfl); (case k5 => k_is); k_whole; intro d' h' F' N' l1; (try dsimp only at N'); (try k_lt l1); (try k_sweep)))
  k_with "setAttr ref" => (k_here; k_dflt (refine' Mine.set_dictK ?k1 ?k2 ?k3 ?k4 ?k5 ?k6 ?k7 ?k10 ?k11 ?k12 ?k13 ?_; (case k1 => k_asm); (case k2 => k_asm); (case k3 => k_asm); (case k4 => (refine' Mine.instX ?N ?h1 ?h2; (case N => k_asm); (case h1 => k_mem); (case h2 => k_mem))); (case k5 => exact rfl); (case k6 => first | (with_reducible assumption) | exact Mine.xc60 _ rfl); (case k7 => k_is); (case k10 => k_get); (case k11 => k_put); (case k12 => k_upd); (case k13 => exact Nat.le_of_ble_eq_true rfl); k_whole; intro h' F' N'; (try k_sweep)))
  k_with "setAttr ref" => (k_here; (with_reducible show wpAny _ _ (setAttr (Value.ref _) (PySem.Str.ofString "args") (Value.ref _)) _ _ _); k_dflt (refine' Mine.set_argsK ?k1 ?k2 ?k3 ?k4 ?k5 ?k6 ?k7 ?k8 ?_; (case k1 => k_asm); (case k2 => k_asm); (case k3 => k_asm); (case k4 => (refine' Mine.instX ?N ?h1 ?h2; (case N => k_asm); (case h1 => k_mem); (case h2 => k_mem))); (case k5 => first | (with_reducible assumption) | exact Mine.xc60 _ rfl); (case k6 => k_is); (case k7 => exact News.isTup (by k_asm) (by k_mem)); (case k8 => k_upd); k_whole; intro h' F' N'; (try k_sweep)))
  k_with "getAttr ref" => (k_here; k_dflt (refine' Mine.get_ownX ?k1 ?k2 ?k3 ?k4 ?k5 ?k6 ?k7 ?k8 ?_; (case k1 => k_asm); (case k2 => k_asm); (case k3 => (refine' Mine.instX ?N ?h1 ?h2; (case N => k_asm); (case h1 => k_mem); (case h2 => k_mem))); (case k4 => first | (with_reducible assumption) | exact Mine.xc60 _ rfl); (case k5 => k_is); (case k6 => k_is); (case k7 => k_get); (case k8 => first | k_handed | with_reducible assumption); k_whole))
  k_with "getAttr ref" => (k_here; (with_reducible show wpAny _ _ (getAttr (Value.ref _) (PySem.Str.ofString "args") _) _ _ _); k_dflt (refine' Mine.get_argsX ?k1 ?k2 ?k3 ?k4 ?k5 ?k6 ?k7 ?_; (case k1 => k_asm); (case k2 => k_asm); (case k3 => (refine' Mine.instX ?N ?h1 ?h2; (case N => k_asm); (case h1 => k_mem); (case h2 => k_mem))); (case k4 => first | (with_reducible assumption) | exact Mine.xc60 _ rfl); (case k5 => k_is); (case k6 => k_is); (case k7 => k_is); k_whole))
  k_with "call ref" => (k_here; (with_reducible show wpAny _ _ (call (Value.ref 60) _ _) _ _ _); (first | (with_reducible show wpAny _ _ (call (Value.ref 60) _ []) _ _ _) | (with_unfolding_all show wpAny _ _ (call (Value.ref 60) _ [(PySem.Str.ofString "lineno", _), (PySem.Str.ofString "source", _), (PySem.Str.ofString "section", _)]) _ _ _) | (with_unfolding_all show wpAny _ _ (call (Value.ref 60) _ [(PySem.Str.ofString "lineno", _)]) _ _ _) | (with_unfolding_all show wpAny _ _ (call (Value.ref 60) _ [(PySem.Str.ofString "section", _)]) _ _ _)); k_dflt (refine' Mine.dseN_T _ _ _ _ _ _ _ _ _ _ _ _ _ _ _ _ _ _ _ _ _ _ _ _ _ _ _ _ _ _ ?kB ?kF ?kX ?kT ?kk ?kd ?ku ?pl ?hb ?r1 ?_; (case hb => first | with_reducible exact Mine.binds0 _ _ _ _ | with_reducible exact Mine.binds1 _ _ _ _ | with_reducible exact Mine.binds2 _ _ _ | with_reducible exact Mine.binds3 _ _ _ | with_reducible exact Mine.binds4 _ _); (case kB => k_asm); (case kF => k_asm); (case kX => k_asm); (case kT => k_asm); (case kk => first | exact rfl | assumption); (case kd => ktr_room); (case ku => ktr_units); (case pl => exact Nat.le_of_ble_eq_true rfl); (case r1 => (refine Mine.ReprAs.up (by with_reducible assumption) ?_; first | exact keep_0 (by assumption) (by k_asm) | exact keep_N (by assumption) (by assumption) (by k_asm) (by k_asm) (fun p hp => by first | exact hp | exact List.mem_cons_of_mem _ hp))); k_whole); intro x' dx' tx' kt0' kt1' kt2' kt3' km' h' tk' hk' F' N1'; (have N' := Mine.news_lift (by k_asm) N1' hk'); (clear N1' hk'); (try simp only [List.cons_append, List.nil_append] at N'); (try dsimp only))
  k_with "ite" => (k_here; (first | refine Mine.ite_ff ?_ | refine Mine.ite_tt ?_))
  k_with "call ref" => (k_here; (with_reducible show wpAny _ _ (call (Value.ref 60) _ _) _ _ _); (first | (with_reducible show wpAny _ _ (call (Value.ref 60) _ []) _ _ _) | (with_unfolding_all show wpAny _ _ (call (Value.ref 60) _ [(PySem.Str.ofString "lineno", _), (PySem.Str.ofString "source", _), (PySem.Str.ofString "section", _)]) _ _ _) | (with_unfolding_all show wpAny _ _ (call (Value.ref 60) _ [(PySem.Str.ofString "lineno", _)]) _ _ _) | (with_unfolding_all show wpAny _ _ (call (Value.ref 60) _ [(PySem.Str.ofString "section", _)]) _ _ _)); k_dflt (refine' Mine.dseS_T _ _ _ _ _ _ _ _ _ _ _ _ _ _ _ _ _ _ _ _ _ _ _ _ _ _ _ _ _ _ _ _ _ ?kB ?kF ?kX ?kT ?kk ?kd ?ku ?pl ?hb ?r1 ?sn ?r2 ?li ?_; (case hb => first | with_reducible exact Mine.binds0 _ _ _ _ | with_reducible exact Mine.binds1 _ _ _ _ | with_reducible exact Mine.binds3 _ _ _); (case sn => with_reducible assumption); (case kB => k_asm); (case kF => k_asm); (case kX => k_asm); (case kT => k_asm); (case kk => first | exact rfl | assumption); (case kd => ktr_room); (case ku => ktr_units); (case pl => exact Nat.le_of_ble_eq_true rfl); (case r1 => (refine Mine.ReprAs.up (by with_reducible assumption) ?_; first | exact keep_0 (by assumption) (by k_asm) | exact keep_N (by assumption) (by assumption) (by k_asm) (by k_asm) (fun p hp => by first | exact hp | exact List.mem_cons_of_mem _ hp))); (case r2 => (refine Mine.ReprAs.up (by with_reducible assumption) ?_; first | exact keep_0 (by assumption) (by k_asm) | exact keep_N (by assumption) (by assumption) (by k_asm) (by k_asm) (fun p hp => by first | exact hp | exact List.mem_cons_of_mem _ hp))); (case li => first | with_reducible assumption | exact Mine.LinIs.none); k_whole); intro x' dx' tx' kt0' kt1' kt2' kt3' km' h' tk' hk' F' N1'; (have N' := Mine.news_lift (by k_asm) N1' hk'); (clear N1' hk'); (try simp only [List.cons_append, List.nil_append] at N'); (try dsimp only))
  k_fill
  intro w loose mean mg mb dp un cn cs a ccd cl outer A₀ base h₀ L m h g d tk os Q E sec r src rv t B F X T hk hd hu hrs hsn hsr hret
  refine wpAny_call ?_
  (refine' Mine.code_defG ?k1 ?k2 ?k3 ?k4 ?k5 ?kA ?kF ?kK ?k6 ?k7 ?k8 ?k9 ?kB ?_ ?c2 ?c3 ?c4 ?c5)
  (case kA => exact rfl)
  (case kF => exact rfl)
  (case kK => first | exact rfl | assumption)
  (case k1 => k_asm)
  (case k2 => k_asm)
  (case k3 => k_asm)
  (case k4 => exact PyProof.Rows.News.nil)
  (case k5 => k_asm)
  (case k6 => k_is)
  (case k7 => k_is)
  (case k8 => ktr_room)
  (case k9 => first | exact BindsTo.of_eq rfl | exact binds_K (by k_in) rfl (by k_is) rfl rfl rfl | fail "no rule for these arguments")
  (case c5 => decide)
  (case kB => exact locs rfl)
  (case c2 => exact rfl)
  (case c3 => exact rfl)
  (case c4 => exact rfl)
  intro g1 L1 h2 tk2 hg1 FG1 F2 N2 B2 X2 T2 l2
  (try k_lt l2)
  (try k_lift B2)
  (try k_fold)
  k_steps
  all_goals (refine' hret _ _ _ _ _ _ _ _ _ _ ?keep ?F ?N; (case keep => exact keep_0 hg1 (by k_asm)); (case F => k_asm); (case N => (refine' Mine.news3 ?n0 ?n1 ?n2 ?n3; (case n0 => k_asm); (case n1 => k_mem); (case n2 => k_mem); (case n3 => k_mem))))
set_option rowWalk.seconds 0 in
set_option maxRecDepth 100000 in
set_option maxHeartbeats 16000000 in
theorem born0V_T : ∀ (w : World) (loose : List PySem.Str) (mean : ExcName → Option Value) (mg mb : PySem.Str → Option Value) (dp un : Nat) (cn : PySem.Str) (cs : Scope) (a : Addr) (ccd : Value) (cl : List (PySem.Str × Addr)) (outer : List Env) (A₀ : Around) (base h₀ : Heap) (L : Addr) (m : PySem.Str → Option Value) (h : Heap) (g : Array GenState) (d : Drawn) (tk : Nat) (os : OsState) (Q E : Value → Shared → Prop) (news : List (Addr × Obj)) (sec src : Value) (r rv : PySem.Str) (u : Tok) (t : Tok), Below A₀ base outer h₀ → Fr h₀ L h m → (Mine.hd.heap_39 w.params).In h₀ → Top Mine.hd.view_39 loose mean mg mb h₀ → cs.kind = .function → dp + 12 < recursionLimit → un + 240 < cLine → News h₀ L h (news) → ReprIn PySem.Challenge.rw_dm0029_02.row.prog w news sec r → r.length ≤ 4000 → (src == Value.none) = false → ReprIn PySem.Challenge.rw_dm0029_02.row.prog w news src rv → rv.length ≤ 4000 →
    (∀ g₂ e h' tk', Fr h₀ L g₂ m → RaisedN base (envX cn cs L a ccd cl :: outer) e (.type "ValueError") (news) h' → g₂.UpToSlots h' → E (.ref e) ⟨h', g, d, tk', os⟩) →
    wpAny (model PySem.Challenge.rw_dm0029_02.row.prog w) (ktrTop dp un (some []) cn cs L a ccd cl outer) (call (.ref 81) [.int 0 t, sec, src, .str (PySem.Str.ofString "7") u]) Q E ⟨h, g, d, tk, os⟩ := by
  k_with_none
  k_with "ne" => (first | exact Mine.ne_l1 (by assumption) | exact Mine.ne_l1' (by assumption) | exact Mine.ne_r1 (by assumption) | exact Mine.ne_r1' (by assumption) | exact Mine.ne_l2 (by assumption) | exact Mine.ne_l2' (by assumption) | exact Mine.ne_r2 (by assumption) | exact Mine.ne_r2' (by assumption) | exact Mine.ne_l3 (by assumption) | exact Mine.ne_l3' (by assumption) | exact Mine.ne_r3 (by assumption) | exact Mine.ne_r3' (by assumption) | exact Mine.ne_l4 (by assumption) | exact Mine.ne_l4' (by assumption) | exact Mine.ne_r4 (by assumption) | exact Mine.ne_r4' (by assumption) | exact Mine.ne_l5 (by assumption) | exact Mine.ne_l5' (by assumption) | exact Mine.ne_r5 (by assumption) | exact Mine.ne_r5' (by assumption) | exact Mine.ne_l6 (by assumption) | exact Mine.ne_l6' (by assumption) | exact Mine.ne_r6 (by assumption) | exact Mine.ne_r6' (by assumption) | exact Mine.ne_l7 (by assumption) | exact Mine.ne_l7' (by assumption) | exact Mine.ne_r7 (by assumption) | exact Mine.ne_r7' (by assumption) | exact Mine.ne_l8 (by assumption) | exact Mine.ne_l8' (by assumption) | exact Mine.ne_r8 (by assumption) | exact Mine.ne_r8' (by assumption) | exact Mine.ne_l9 (by assumption) | exact Mine.ne_l9' (by assumption) | exact Mine.ne_r9 (by assumption) | exact Mine.ne_r9' (by assumption))
  k_with "exec For Name BinOp cons nil" => (k_here; (rename Fr _ _ _ _ => lF'); (with_unfolding_all refine' For_invVF lF' ?k1 ?k2 ?_; (case k1 => exact rfl); (case k2 => exact rfl); k_whole))
  k_with "call ref" => (k_here; (fail_if_success (with_reducible show wpAny _ _ (call (Value.ref 60) _) _ _ _)); k_dflt ((refine wpAny_call ?_); (refine' Mine.code_defG ?k1 ?k2 ?k3 ?k4 ?k5 ?kA ?kF ?kK ?k6 ?k7 ?k8 ?k9 ?kB ?_ ?c2 ?c3 ?c4 ?c5); (case kA => exact rfl); (case kF => exact rfl); (case kK => first | exact rfl | assumption); (case k1 => k_asm); (case k2 => k_asm); (case k3 => k_asm); (case k4 => k_asm); (case k5 => k_asm); (case k6 => k_is); (case k7 => k_is); (case k8 => ktr_room); (case k9 => first | exact BindsTo.of_eq rfl | exact binds_K (by k_in) rfl (by k_is) rfl rfl rfl | fail "no rule for these arguments"); (case c5 => decide); (case kB => exact locs rfl); (case c2 => exact rfl); (case c3 => exact rfl); (case c4 => exact rfl); k_whole; intro g' L' h' tk' hg' FG' F' N' B' X' T' l'; (clear hg'); (try k_lt l'); (try dsimp only); (try k_lift B'); (try k_fold)))
  k_with "call builtin:repr" => (k_here; (with_reducible show wpAny _ _ (call (Value.builtin "repr") [_]) _ _ _); k_dflt ((refine' Mine.ReprAs.run ?r0 ?rF ?rN ?rk ?ru ?rg ?_); (case r0 => with_reducible assumption); (case rF => k_asm); (case rN => k_asm); (case rk => first | exact (fun b o e => (Mine.keep_X (by with_reducible assumption) (by with_reducible assumption) (by with_reducible assumption) (by with_reducible assumption) b o e).1) | exact (fun _ _ e => Fr.keep (by with_reducible assumption) _ _ (Fr.keep (by with_reducible assumption) _ _ e)) | exact (fun _ _ e => Fr.keep (by with_reducible assumption) _ _ e)); (case ru => ((try simp only [units_deeper, units_in1, units_under_make, Mine.units_under_kw]); ktr_units)); (case rg => exact rfl); k_whole; intro t' k' h' F' N'))
  k_with "compareOp IsNot" => (k_here; (with_reducible show wpAny _ _ (compareOp CmpOp.IsNot _ Value.none) _ _ _); refine Mine.isNot_none' (by with_reducible assumption) ?_)
  k_with "compareOp Is" => (k_here; (with_reducible show wpAny _ _ (compareOp CmpOp.Is _ Value.none) _ _ _); refine Mine.is_none' (by with_reducible assumption) ?_)
  k_with "getMethod type:Exception" => (k_here; refine' method_type ?F ?X ?m (by decide +kernel) ?e ?h ?_; (case F => k_asm); (case X => k_asm); (case m => kernel_rfl); (case e => k_dflt k_is); (case h => k_handed))
  k_with "call builtin:Exception.__init__" => (k_here; k_dflt (refine' Mine.init_K ?k1 ?k2 ?k3 ?k4 ?k5 ?k6 ?_; (case k1 => k_asm); (case k2 => k_asm); (case k3 => k_asm); (case k6 => (intro tx'; k_upd)); (case k4 => first | (with_reducible assumption) | exact Mine.xc60 _ rfl); (case k5 => exact Nat.le_of_ble_eq_true rfl); k_whole); intro t' h' F' N' l1; (try dsimp only at N'); (try k_lt l1); (try k_sweep))
  k_with "call builtin:str.format" => (k_here; (with_reducible show wpAny _ _ (call (Value.builtin "str.format") [Value.str _ _, Value.int _ _]) _ _ _); (refine Mine.line_2d (by assumption) (by assumption) ?_); intro _ _)
  k_with "call builtin:str.join" => (k_here; (with_reducible show wpAny _ _ (call (Value.builtin "str.join") [Value.str _ _, Value.ref _]) _ _ _); k_dflt (refine' Mine.join_cat ?jN ?jm ?ji ?jB ?jn ?_; (case jN => k_asm); (case jm => k_mem); (case ji => repeat (first | exact PyProof.Rows.StrsAre.nil | apply PyProof.Rows.StrsAre.cons)); (case jB => (repeat (first | exact List.forall_mem_nil _ | refine List.forall_mem_cons.mpr ⟨by first | (with_reducible exact Mine.le5 (Mine.ReprAs.len (by assumption))) | (with_reducible exact Mine.line_len (by assumption) (by assumption)) | decide +kernel, ?_⟩))); (case jn => exact Nat.le_of_ble_eq_true rfl)); intro _ _; (try simp only [Mine.catS]))
  k_with "setAttr ref" => (k_here; k_dflt (refine' Mine.set_newK ?k1 ?k2 ?k3 ?k4 ?k5 ?k6 ?_; (case k1 => k_asm); (case k2 => k_asm); (case k3 => k_asm); (case k6 => (intro dx'; k_upd)); (case k4 => first | (with_reducible assumption) | exact Mine.xc60 _ rfl); (case k5 => k_is); k_whole; intro d' h' F' N' l1; (try dsimp only at N'); (try k_lt l1); (try k_sweep)))
  k_with "setAttr ref" => (k_here; k_dflt (refine' Mine.set_dictK ?k1 ?k2 ?k3 ?k4 ?k5 ?k6 ?k7 ?k10 ?k11 ?k12 ?k13 ?_; (case k1 => k_asm); (case k2 => k_asm); (case k3 => k_asm); (case k4 => (refine' Mine.instX ?N ?h1 ?h2; (case N => k_asm); (case h1 => k_mem); (case h2 => k_mem))); (case k5 => exact rfl); (case k6 => first | (with_reducible assumption) | exact Mine.xc60 _ rfl); (case k7 => k_is); (case k10 => k_get); (case k11 => k_put); (case k12 => k_upd); (case k13 => exact Nat.le_of_ble_eq_true rfl); k_whole; intro h' F' N'; (try k_sweep)))
  k_with "setAttr ref" => (k_here; (with_reducible show wpAny _ _ (setAttr (Value.ref _) (PySem.Str.ofString "args") (Value.ref _)) _ _ _); k_dflt (refine' Mine.set_argsK ?k1 ?k2 ?k3 ?k4 ?k5 ?k6 ?k7 ?k8 ?_; (case k1 => k_asm); (case k2 => k_asm); (case k3 => k_asm); (case k4 => (refine' Mine.instX ?N ?h1 ?h2; (case N => k_asm); (case h1 => k_mem); (case h2 => k_mem))); (case k5 => first | (with_reducible assumption) | exact Mine.xc60 _ rfl); (case k6 => k_is); (case k7 => exact News.isTup (by k_asm) (by k_mem)); (case k8 => k_upd); k_whole; intro h' F' N'; (try k_sweep)))
  k_with "getAttr ref" => (k_here; k_dflt (refine' Mine.get_ownX ?k1 ?k2 ?k3 ?k4 ?k5 ?k6 ?k7 ?k8 ?_; (case k1 => k_asm); (case k2 => k_asm); (case k3 => (refine' Mine.instX ?N ?h1 ?h2; (case N => k_asm); (case h1 => k_mem); (case h2 => k_mem))); (case k4 => first | (with_reducible assumption) | exact Mine.xc60 _ rfl); (case k5 => k_is); (case k6 => k_is); (case k7 => k_get); (case k8 => first | k_handed | with_reducible assumption); k_whole))
  k_with "getAttr ref" => (k_here; (with_reducible show wpAny _ _ (getAttr (Value.ref _) (PySem.Str.ofString "args") _) _ _ _); k_dflt (refine' Mine.get_argsX ?k1 ?k2 ?k3 ?k4 ?k5 ?k6 ?k7 ?_; (case k1 => k_asm); (case k2 => k_asm); (case k3 => (refine' Mine.instX ?N ?h1 ?h2; (case N => k_asm); (case h1 => k_mem); (case h2 => k_mem))); (case k4 => first | (with_reducible assumption) | exact Mine.xc60 _ rfl); (case k5 => k_is); (case k6 => k_is); (case k7 => k_is); k_whole))
  k_with "call ref" => (k_here; (with_reducible show wpAny _ _ (call (Value.ref 60) _ _) _ _ _); (first | (with_reducible show wpAny _ _ (call (Value.ref 60) _ []) _ _ _) | (with_unfolding_all show wpAny _ _ (call (Value.ref 60) _ [(PySem.Str.ofString "lineno", _), (PySem.Str.ofString "source", _), (PySem.Str.ofString "section", _)]) _ _ _) | (with_unfolding_all show wpAny _ _ (call (Value.ref 60) _ [(PySem.Str.ofString "lineno", _)]) _ _ _) | (with_unfolding_all show wpAny _ _ (call (Value.ref 60) _ [(PySem.Str.ofString "section", _)]) _ _ _)); k_dflt (refine' Mine.call_X ?k1 ?k2 ?kN ?k4 ?k5 ?k6 ?k7 ?_; (case k1 => k_asm); (case k2 => k_asm); (case kN => k_asm); (case k4 => first | (with_reducible assumption) | exact Mine.xc60 _ rfl); (case k5 => k_is); (case k6 => k_is); (case k7 => exact Nat.le_of_ble_eq_true rfl); k_whole; intro x0 tx0 h1 F1 N1 l1 l2; (refine' Mine.code_defG ?k1 ?k2 ?k3 ?k4 ?k5 ?kA ?kF ?kK ?k6 ?k7 ?k8 ?k9 ?kB ?_ ?c2 ?c3 ?c4 ?c5); (case kA => exact rfl); (case kF => exact rfl); (case kK => first | exact rfl | assumption); (case k1 => k_asm); (case k2 => k_asm); (case k3 => k_asm); (case k4 => k_asm); (case k5 => k_asm); (case k6 => k_is); (case k7 => k_is); (case k8 => ktr_room); (case k9 => first | exact BindsTo.of_eq rfl | exact binds_K (by k_in) rfl (by k_is) rfl rfl rfl | fail "no rule for these arguments"); (case c5 => decide); (case kB => exact locs rfl); (case c2 => exact rfl); (case c3 => exact rfl); (case c4 => exact rfl); k_whole; intro g' L' h' tk' hg' FG' F' N' B' X' T' l'; (clear hg'); (try k_lt l'); (try dsimp only); (try k_lift B'); (try k_fold)))
  k_with "call builtin:str.format" => (k_here; first | ((refine Mine.line_bad7 (by rfl) ?_); intro h' tk' e' x') | (k_dflt (refine' Mine.line_badT ?bN ?bm ?bA ?_; (case bN => k_asm); (case bm => k_mem); (case bA => exact rfl)); intro h' tk' e' x'))
  k_with "ite" => (k_here; (first | refine Mine.ite_ff ?_ | refine Mine.ite_tt ?_))
  k_with "call builtin:repr" => (k_here; (with_reducible show wpAny _ _ (call (Value.builtin "repr") [_]) _ _ _); k_dflt ((refine' Mine.ReprIn.run ?r0 ?rF ?rN ?rk ?ru ?rg ?_); (case r0 => with_reducible assumption); (case rF => k_asm); (case rN => k_asm); (case rk => (intro p hp; repeat (first | exact hp | refine List.mem_cons_of_mem _ ?_))); (case ru => ((try simp only [units_deeper, units_in1, units_under_make, Mine.units_under_kw]); ktr_units)); (case rg => exact rfl); k_whole; intro t' k' h' F' N'))
  k_fill
  intro w loose mean mg mb dp un cn cs a ccd cl outer A₀ base h₀ L m h g d tk os Q E news sec src r rv u t B F X T hk hd hu N hrs hr1 hsn hsr hr2 hret
  refine wpAny_call ?_
  (refine' Mine.code_defG ?k1 ?k2 ?k3 ?k4 ?k5 ?kA ?kF ?kK ?k6 ?k7 ?k8 ?k9 ?kB ?_ ?c2 ?c3 ?c4 ?c5)
  (case kA => exact rfl)
  (case kF => exact rfl)
  (case kK => first | exact rfl | assumption)
  (case k1 => k_asm)
  (case k2 => k_asm)
  (case k3 => k_asm)
  (case k4 => exact N)
  (case k5 => k_asm)
  (case k6 => k_is)
  (case k7 => k_is)
  (case k8 => ktr_room)
  (case k9 => first | exact BindsTo.of_eq rfl | exact binds_K (by k_in) rfl (by k_is) rfl rfl rfl | fail "no rule for these arguments")
  (case c5 => decide)
  (case kB => exact locs rfl)
  (case c2 => exact rfl)
  (case c3 => exact rfl)
  (case c4 => exact rfl)
  intro g1 L1 h2 tk2 hg1 FG1 F2 N2 B2 X2 T2 l2
  (try k_lt l2)
  (try k_lift B2)
  (try k_fold)
  k_steps
  all_goals (try dsimp only [PySem.W.InitBack])
  all_goals k_steps
  all_goals (rename RaisedN _ _ _ _ _ _ => rk9)
  all_goals (exact hret _ _ _ _ FG1 (Mine.raisedN_sub rk9 (by intro p hp; repeat (first | exact hp | refine List.mem_cons_of_mem _ ?_))) (by assumption))
set_option rowWalk.seconds 0 in
set_option maxRecDepth 100000 in
set_option maxHeartbeats 16000000 in
theorem born1V_T : ∀ (w : World) (loose : List PySem.Str) (mean : ExcName → Option Value) (mg mb : PySem.Str → Option Value) (dp un : Nat) (cn : PySem.Str) (cs : Scope) (a : Addr) (ccd : Value) (cl : List (PySem.Str × Addr)) (outer : List Env) (A₀ : Around) (base h₀ : Heap) (L : Addr) (m : PySem.Str → Option Value) (h : Heap) (g : Array GenState) (d : Drawn) (tk : Nat) (os : OsState) (Q E : Value → Shared → Prop) (news : List (Addr × Obj)) (sec src : Value) (r rv : PySem.Str) (u : Tok) (t : Tok), Below A₀ base outer h₀ → Fr h₀ L h m → (Mine.hd.heap_39 w.params).In h₀ → Top Mine.hd.view_39 loose mean mg mb h₀ → cs.kind = .function → dp + 12 < recursionLimit → un + 240 < cLine → News h₀ L h (news) → ReprIn PySem.Challenge.rw_dm0029_02.row.prog w news sec r → r.length ≤ 4000 → (src == Value.none) = false → ReprIn PySem.Challenge.rw_dm0029_02.row.prog w news src rv → rv.length ≤ 4000 →
    (∀ g₂ e h' tk', Fr h₀ L g₂ m → RaisedN base (envX cn cs L a ccd cl :: outer) e (.type "ValueError") (news) h' → g₂.UpToSlots h' → E (.ref e) ⟨h', g, d, tk', os⟩) →
    wpAny (model PySem.Challenge.rw_dm0029_02.row.prog w) (ktrTop dp un (some []) cn cs L a ccd cl outer) (call (.ref 81) [.int 1 t, sec, src, .str (PySem.Str.ofString "7") u]) Q E ⟨h, g, d, tk, os⟩ := by
  k_with_none
  k_with "ne" => (first | exact Mine.ne_l1 (by assumption) | exact Mine.ne_l1' (by assumption) | exact Mine.ne_r1 (by assumption) | exact Mine.ne_r1' (by assumption) | exact Mine.ne_l2 (by assumption) | exact Mine.ne_l2' (by assumption) | exact Mine.ne_r2 (by assumption) | exact Mine.ne_r2' (by assumption) | exact Mine.ne_l3 (by assumption) | exact Mine.ne_l3' (by assumption) | exact Mine.ne_r3 (by assumption) | exact Mine.ne_r3' (by assumption) | exact Mine.ne_l4 (by assumption) | exact Mine.ne_l4' (by assumption) | exact Mine.ne_r4 (by assumption) | exact Mine.ne_r4' (by assumption) | exact Mine.ne_l5 (by assumption) | exact Mine.ne_l5' (by assumption) | exact Mine.ne_r5 (by assumption) | exact Mine.ne_r5' (by assumption) | exact Mine.ne_l6 (by assumption) | exact Mine.ne_l6' (by assumption) | exact Mine.ne_r6 (by assumption) | exact Mine.ne_r6' (by assumption) | exact Mine.ne_l7 (by assumption) | exact Mine.ne_l7' (by assumption) | exact Mine.ne_r7 (by assumption) | exact Mine.ne_r7' (by assumption) | exact Mine.ne_l8 (by assumption) | exact Mine.ne_l8' (by assumption) | exact Mine.ne_r8 (by assumption) | exact Mine.ne_r8' (by assumption) | exact Mine.ne_l9 (by assumption) | exact Mine.ne_l9' (by assumption) | exact Mine.ne_r9 (by assumption) | exact Mine.ne_r9' (by assumption))
  k_with "exec For Name BinOp cons nil" => (k_here; (rename Fr _ _ _ _ => lF'); (with_unfolding_all refine' For_invVF lF' ?k1 ?k2 ?_; (case k1 => exact rfl); (case k2 => exact rfl); k_whole))
  k_with "call ref" => (k_here; (fail_if_success (with_reducible show wpAny _ _ (call (Value.ref 60) _) _ _ _)); k_dflt ((refine wpAny_call ?_); (refine' Mine.code_defG ?k1 ?k2 ?k3 ?k4 ?k5 ?kA ?kF ?kK ?k6 ?k7 ?k8 ?k9 ?kB ?_ ?c2 ?c3 ?c4 ?c5); (case kA => exact rfl); (case kF => exact rfl); (case kK => first | exact rfl | assumption); (case k1 => k_asm); (case k2 => k_asm); (case k3 => k_asm); (case k4 => k_asm); (case k5 => k_asm); (case k6 => k_is); (case k7 => k_is); (case k8 => ktr_room); (case k9 => first | exact BindsTo.of_eq rfl | exact binds_K (by k_in) rfl (by k_is) rfl rfl rfl | fail "no rule for these arguments"); (case c5 => decide); (case kB => exact locs rfl); (case c2 => exact rfl); (case c3 => exact rfl); (case c4 => exact rfl); k_whole; intro g' L' h' tk' hg' FG' F' N' B' X' T' l'; (clear hg'); (try k_lt l'); (try dsimp only); (try k_lift B'); (try k_fold)))
  k_with "call builtin:repr" => (k_here; (with_reducible show wpAny _ _ (call (Value.builtin "repr") [_]) _ _ _); k_dflt ((refine' Mine.ReprAs.run ?r0 ?rF ?rN ?rk ?ru ?rg ?_); (case r0 => with_reducible assumption); (case rF => k_asm); (case rN => k_asm); (case rk => first | exact (fun b o e => (Mine.keep_X (by with_reducible assumption) (by with_reducible assumption) (by with_reducible assumption) (by with_reducible assumption) b o e).1) | exact (fun _ _ e => Fr.keep (by with_reducible assumption) _ _ (Fr.keep (by with_reducible assumption) _ _ e)) | exact (fun _ _ e => Fr.keep (by with_reducible assumption) _ _ e)); (case ru => ((try simp only [units_deeper, units_in1, units_under_make, Mine.units_under_kw]); ktr_units)); (case rg => exact rfl); k_whole; intro t' k' h' F' N'))
  k_with "compareOp IsNot" => (k_here; (with_reducible show wpAny _ _ (compareOp CmpOp.IsNot _ Value.none) _ _ _); refine Mine.isNot_none' (by with_reducible assumption) ?_)
  k_with "compareOp Is" => (k_here; (with_reducible show wpAny _ _ (compareOp CmpOp.Is _ Value.none) _ _ _); refine Mine.is_none' (by with_reducible assumption) ?_)
  k_with "getMethod type:Exception" => (k_here; refine' method_type ?F ?X ?m (by decide +kernel) ?e ?h ?_; (case F => k_asm); (case X => k_asm); (case m => kernel_rfl); (case e => k_dflt k_is); (case h => k_handed))
  k_with "call builtin:Exception.__init__" => (k_here; k_dflt (refine' Mine.init_K ?k1 ?k2 ?k3 ?k4 ?k5 ?k6 ?_; (case k1 => k_asm); (case k2 => k_asm); (case k3 => k_asm); (case k6 => (intro tx'; k_upd)); (case k4 => first | (with_reducible assumption) | exact Mine.xc60 _ rfl); (case k5 => exact Nat.le_of_ble_eq_true rfl); k_whole); intro t' h' F' N' l1; (try dsimp only at N'); (try k_lt l1); (try k_sweep))
  k_with "call builtin:str.format" => (k_here; (with_reducible show wpAny _ _ (call (Value.builtin "str.format") [Value.str _ _, Value.int _ _]) _ _ _); (refine Mine.line_2d (by assumption) (by assumption) ?_); intro _ _)
  k_with "call builtin:str.join" => (k_here; (with_reducible show wpAny _ _ (call (Value.builtin "str.join") [Value.str _ _, Value.ref _]) _ _ _); k_dflt (refine' Mine.join_cat ?jN ?jm ?ji ?jB ?jn ?_; (case jN => k_asm); (case jm => k_mem); (case ji => repeat (first | exact PyProof.Rows.StrsAre.nil | apply PyProof.Rows.StrsAre.cons)); (case jB => (repeat (first | exact List.forall_mem_nil _ | refine List.forall_mem_cons.mpr ⟨by first | (with_reducible exact Mine.le5 (Mine.ReprAs.len (by assumption))) | (with_reducible exact Mine.line_len (by assumption) (by assumption)) | decide +kernel, ?_⟩))); (case jn => exact Nat.le_of_ble_eq_true rfl)); intro _ _; (try simp only [Mine.catS]))
  k_with "setAttr ref" => (k_here; k_dflt (refine' Mine.set_newK ?k1 ?k2 ?k3 ?k4 ?k5 ?k6 ?_; (case k1 => k_asm); (case k2 => k_asm); (case k3 => k_asm); (case k6 => (intro dx'; k_upd)); (case k4 => first | (with_reducible assumption) | exact Mine.xc60 _ rfl); (case k5 => k_is); k_whole; intro d' h' F' N' l1; (try dsimp only at N'); (try k_lt l1); (try k_sweep)))
  k_with "setAttr ref" => (k_here; k_dflt (refine' Mine.set_dictK ?k1 ?k2 ?k3 ?k4 ?k5 ?k6 ?k7 ?k10 ?k11 ?k12 ?k13 ?_; (case k1 => k_asm); (case k2 => k_asm); (case k3 => k_asm); (case k4 => (refine' Mine.instX ?N ?h1 ?h2; (case N => k_asm); (case h1 => k_mem); (case h2 => k_mem))); (case k5 => exact rfl); (case k6 => first | (with_reducible assumption) | exact Mine.xc60 _ rfl); (case k7 => k_is); (case k10 => k_get); (case k11 => k_put); (case k12 => k_upd); (case k13 => exact Nat.le_of_ble_eq_true rfl); k_whole; intro h' F' N'; (try k_sweep)))
  k_with "setAttr ref" => (k_here; (with_reducible show wpAny _ _ (setAttr (Value.ref _) (PySem.Str.ofString "args") (Value.ref _)) _ _ _); k_dflt (refine' Mine.set_argsK ?k1 ?k2 ?k3 ?k4 ?k5 ?k6 ?k7 ?k8 ?_; (case k1 => k_asm); (case k2 => k_asm); (case k3 => k_asm); (case k4 => (refine' Mine.instX ?N ?h1 ?h2; (case N => k_asm); (case h1 => k_mem); (case h2 => k_mem))); (case k5 => first | (with_reducible assumption) | exact Mine.xc60 _ rfl); (case k6 => k_is); (case k7 => exact News.isTup (by k_asm) (by k_mem)); (case k8 => k_upd); k_whole; intro h' F' N'; (try k_sweep)))
  k_with "getAttr ref" => (k_here; k_dflt (refine' Mine.get_ownX ?k1 ?k2 ?k3 ?k4 ?k5 ?k6 ?k7 ?k8 ?_; (case k1 => k_asm); (case k2 => k_asm); (case k3 => (refine' Mine.instX ?N ?h1 ?h2; (case N => k_asm); (case h1 => k_mem); (case h2 => k_mem))); (case k4 => first | (with_reducible assumption) | exact Mine.xc60 _ rfl); (case k5 => k_is); (case k6 => k_is); (case k7 => k_get); (case k8 => first | k_handed | with_reducible assumption); k_whole))
  k_with "getAttr ref" => (k_here; (with_reducible show wpAny _ _ (getAttr (Value.ref _) (PySem.Str.ofString "args") _) _ _ _); k_dflt (refine' Mine.get_argsX ?k1 ?k2 ?k3 ?k4 ?k5 ?k6 ?k7 ?_; (case k1 => k_asm); (case k2 => k_asm); (case k3 => (refine' Mine.instX ?N ?h1 ?h2; (case N => k_asm); (case h1 => k_mem); (case h2 => k_mem))); (case k4 => first | (with_reducible assumption) | exact Mine.xc60 _ rfl); (case k5 => k_is); (case k6 => k_is); (case k7 => k_is); k_whole))
  k_with "call ref" => (k_here; (with_reducible show wpAny _ _ (call (Value.ref 60) _ _) _ _ _); (first | (with_reducible show wpAny _ _ (call (Value.ref 60) _ []) _ _ _) | (with_unfolding_all show wpAny _ _ (call (Value.ref 60) _ [(PySem.Str.ofString "lineno", _), (PySem.Str.ofString "source", _), (PySem.Str.ofString "section", _)]) _ _ _) | (with_unfolding_all show wpAny _ _ (call (Value.ref 60) _ [(PySem.Str.ofString "lineno", _)]) _ _ _) | (with_unfolding_all show wpAny _ _ (call (Value.ref 60) _ [(PySem.Str.ofString "section", _)]) _ _ _)); k_dflt (refine' Mine.call_X ?k1 ?k2 ?kN ?k4 ?k5 ?k6 ?k7 ?_; (case k1 => k_asm); (case k2 => k_asm); (case kN => k_asm); (case k4 => first | (with_reducible assumption) | exact Mine.xc60 _ rfl); (case k5 => k_is); (case k6 => k_is); (case k7 => exact Nat.le_of_ble_eq_true rfl); k_whole; intro x0 tx0 h1 F1 N1 l1 l2; (refine' Mine.code_defG ?k1 ?k2 ?k3 ?k4 ?k5 ?kA ?kF ?kK ?k6 ?k7 ?k8 ?k9 ?kB ?_ ?c2 ?c3 ?c4 ?c5); (case kA => exact rfl); (case kF => exact rfl); (case kK => first | exact rfl | assumption); (case k1 => k_asm); (case k2 => k_asm); (case k3 => k_asm); (case k4 => k_asm); (case k5 => k_asm); (case k6 => k_is); (case k7 => k_is); (case k8 => ktr_room); (case k9 => first | exact BindsTo.of_eq rfl | exact binds_K (by k_in) rfl (by k_is) rfl rfl rfl | fail "no rule for these arguments"); (case c5 => decide); (case kB => exact locs rfl); (case c2 => exact rfl); (case c3 => exact rfl); (case c4 => exact rfl); k_whole; intro g' L' h' tk' hg' FG' F' N' B' X' T' l'; (clear hg'); (try k_lt l'); (try dsimp only); (try k_lift B'); (try k_fold)))
  k_with "call builtin:str.format" => (k_here; first | ((refine Mine.line_bad7 (by rfl) ?_); intro h' tk' e' x') | (k_dflt (refine' Mine.line_badT ?bN ?bm ?bA ?_; (case bN => k_asm); (case bm => k_mem); (case bA => exact rfl)); intro h' tk' e' x'))
  k_with "ite" => (k_here; (first | refine Mine.ite_ff ?_ | refine Mine.ite_tt ?_))
  k_with "call builtin:repr" => (k_here; (with_reducible show wpAny _ _ (call (Value.builtin "repr") [_]) _ _ _); k_dflt ((refine' Mine.ReprIn.run ?r0 ?rF ?rN ?rk ?ru ?rg ?_); (case r0 => with_reducible assumption); (case rF => k_asm); (case rN => k_asm); (case rk => (intro p hp; repeat (first | exact hp | refine List.mem_cons_of_mem _ ?_))); (case ru => ((try simp only [units_deeper, units_in1, units_under_make, Mine.units_under_kw]); ktr_units)); (case rg => exact rfl); k_whole; intro t' k' h' F' N'))
  k_fill
  intro w loose mean mg mb dp un cn cs a ccd cl outer A₀ base h₀ L m h g d tk os Q E news sec src r rv u t B F X T hk hd hu N hrs hr1 hsn hsr hr2 hret
  refine wpAny_call ?_
  (refine' Mine.code_defG ?k1 ?k2 ?k3 ?k4 ?k5 ?kA ?kF ?kK ?k6 ?k7 ?k8 ?k9 ?kB ?_ ?c2 ?c3 ?c4 ?c5)
  (case kA => exact rfl)
  (case kF => exact rfl)
  (case kK => first | exact rfl | assumption)
  (case k1 => k_asm)
  (case k2 => k_asm)
  (case k3 => k_asm)
  (case k4 => exact N)
  (case k5 => k_asm)
  (case k6 => k_is)
  (case k7 => k_is)
  (case k8 => ktr_room)
  (case k9 => first | exact BindsTo.of_eq rfl | exact binds_K (by k_in) rfl (by k_is) rfl rfl rfl | fail "no rule for these arguments")
  (case c5 => decide)
  (case kB => exact locs rfl)
  (case c2 => exact rfl)
  (case c3 => exact rfl)
  (case c4 => exact rfl)
  intro g1 L1 h2 tk2 hg1 FG1 F2 N2 B2 X2 T2 l2
  (try k_lt l2)
  (try k_lift B2)
  (try k_fold)
  k_steps
  all_goals (try dsimp only [PySem.W.InitBack])
  all_goals k_steps
  all_goals (rename RaisedN _ _ _ _ _ _ => rk9)
  all_goals (exact hret _ _ _ _ FG1 (Mine.raisedN_sub rk9 (by intro p hp; repeat (first | exact hp | refine List.mem_cons_of_mem _ ?_))) (by assumption))
set_option rowWalk.seconds 0 in
set_option maxRecDepth 100000 in
set_option maxHeartbeats 16000000 in
theorem born0Y_T : ∀ (w : World) (loose : List PySem.Str) (mean : ExcName → Option Value) (mg mb : PySem.Str → Option Value) (dp un : Nat) (cn : PySem.Str) (cs : Scope) (a : Addr) (ccd : Value) (cl : List (PySem.Str × Addr)) (outer : List Env) (A₀ : Around) (base h₀ : Heap) (L : Addr) (m : PySem.Str → Option Value) (h : Heap) (g : Array GenState) (d : Drawn) (tk : Nat) (os : OsState) (Q E : Value → Shared → Prop) (news : List (Addr × Obj)) (sec src : Value) (r rv : PySem.Str) (aN : Addr) (its : Array Value) (k : Nat) (t : Tok), Below A₀ base outer h₀ → Fr h₀ L h m → (Mine.hd.heap_39 w.params).In h₀ → Top Mine.hd.view_39 loose mean mg mb h₀ → cs.kind = .function → dp + 12 < recursionLimit → un + 240 < cLine → News h₀ L h ((aN, tupK its k) :: news) → ReprIn PySem.Challenge.rw_dm0029_02.row.prog w ((aN, tupK its k) :: news) sec r → r.length ≤ 4000 → (src == Value.none) = false → ReprIn PySem.Challenge.rw_dm0029_02.row.prog w ((aN, tupK its k) :: news) src rv → rv.length ≤ 4000 →
    (∀ g₂ e h' tk', Fr h₀ L g₂ m → RaisedN base (envX cn cs L a ccd cl :: outer) e (.type "TypeError") ((aN, tupK its k) :: news) h' → g₂.UpToSlots h' → E (.ref e) ⟨h', g, d, tk', os⟩) →
    wpAny (model PySem.Challenge.rw_dm0029_02.row.prog w) (ktrTop dp un (some []) cn cs L a ccd cl outer) (call (.ref 81) [.int 0 t, sec, src, .ref aN]) Q E ⟨h, g, d, tk, os⟩ := by
  k_with_none
  k_with "ne" => (first | exact Mine.ne_l1 (by assumption) | exact Mine.ne_l1' (by assumption) | exact Mine.ne_r1 (by assumption) | exact Mine.ne_r1' (by assumption) | exact Mine.ne_l2 (by assumption) | exact Mine.ne_l2' (by assumption) | exact Mine.ne_r2 (by assumption) | exact Mine.ne_r2' (by assumption) | exact Mine.ne_l3 (by assumption) | exact Mine.ne_l3' (by assumption) | exact Mine.ne_r3 (by assumption) | exact Mine.ne_r3' (by assumption) | exact Mine.ne_l4 (by assumption) | exact Mine.ne_l4' (by assumption) | exact Mine.ne_r4 (by assumption) | exact Mine.ne_r4' (by assumption) | exact Mine.ne_l5 (by assumption) | exact Mine.ne_l5' (by assumption) | exact Mine.ne_r5 (by assumption) | exact Mine.ne_r5' (by assumption) | exact Mine.ne_l6 (by assumption) | exact Mine.ne_l6' (by assumption) | exact Mine.ne_r6 (by assumption) | exact Mine.ne_r6' (by assumption) | exact Mine.ne_l7 (by assumption) | exact Mine.ne_l7' (by assumption) | exact Mine.ne_r7 (by assumption) | exact Mine.ne_r7' (by assumption) | exact Mine.ne_l8 (by assumption) | exact Mine.ne_l8' (by assumption) | exact Mine.ne_r8 (by assumption) | exact Mine.ne_r8' (by assumption) | exact Mine.ne_l9 (by assumption) | exact Mine.ne_l9' (by assumption) | exact Mine.ne_r9 (by assumption) | exact Mine.ne_r9' (by assumption))
  k_with "exec For Name BinOp cons nil" => (k_here; (rename Fr _ _ _ _ => lF'); (with_unfolding_all refine' For_invVF lF' ?k1 ?k2 ?_; (case k1 => exact rfl); (case k2 => exact rfl); k_whole))
  k_with "call ref" => (k_here; (fail_if_success (with_reducible show wpAny _ _ (call (Value.ref 60) _) _ _ _)); k_dflt ((refine wpAny_call ?_); (refine' Mine.code_defG ?k1 ?k2 ?k3 ?k4 ?k5 ?kA ?kF ?kK ?k6 ?k7 ?k8 ?k9 ?kB ?_ ?c2 ?c3 ?c4 ?c5); (case kA => exact rfl); (case kF => exact rfl); (case kK => first | exact rfl | assumption); (case k1 => k_asm); (case k2 => k_asm); (case k3 => k_asm); (case k4 => k_asm); (case k5 => k_asm); (case k6 => k_is); (case k7 => k_is); (case k8 => ktr_room); (case k9 => first | exact BindsTo.of_eq rfl | exact binds_K (by k_in) rfl (by k_is) rfl rfl rfl | fail "no rule for these arguments"); (case c5 => decide); (case kB => exact locs rfl); (case c2 => exact rfl); (case c3 => exact rfl); (case c4 => exact rfl); k_whole; intro g' L' h' tk' hg' FG' F' N' B' X' T' l'; (clear hg'); (try k_lt l'); (try dsimp only); (try k_lift B'); (try k_fold)))
  k_with "call builtin:repr" => (k_here; (with_reducible show wpAny _ _ (call (Value.builtin "repr") [_]) _ _ _); k_dflt ((refine' Mine.ReprAs.run ?r0 ?rF ?rN ?rk ?ru ?rg ?_); (case r0 => with_reducible assumption); (case rF => k_asm); (case rN => k_asm); (case rk => first | exact (fun b o e => (Mine.keep_X (by with_reducible assumption) (by with_reducible assumption) (by with_reducible assumption) (by with_reducible assumption) b o e).1) | exact (fun _ _ e => Fr.keep (by with_reducible assumption) _ _ (Fr.keep (by with_reducible assumption) _ _ e)) | exact (fun _ _ e => Fr.keep (by with_reducible assumption) _ _ e)); (case ru => ((try simp only [units_deeper, units_in1, units_under_make, Mine.units_under_kw]); ktr_units)); (case rg => exact rfl); k_whole; intro t' k' h' F' N'))
  k_with "compareOp IsNot" => (k_here; (with_reducible show wpAny _ _ (compareOp CmpOp.IsNot _ Value.none) _ _ _); refine Mine.isNot_none' (by with_reducible assumption) ?_)
  k_with "compareOp Is" => (k_here; (with_reducible show wpAny _ _ (compareOp CmpOp.Is _ Value.none) _ _ _); refine Mine.is_none' (by with_reducible assumption) ?_)
  k_with "getMethod type:Exception" => (k_here; refine' method_type ?F ?X ?m (by decide +kernel) ?e ?h ?_; (case F => k_asm); (case X => k_asm); (case m => kernel_rfl); (case e => k_dflt k_is); (case h => k_handed))
  k_with "call builtin:Exception.__init__" => (k_here; k_dflt (refine' Mine.init_K ?k1 ?k2 ?k3 ?k4 ?k5 ?k6 ?_; (case k1 => k_asm); (case k2 => k_asm); (case k3 => k_asm); (case k6 => (intro tx'; k_upd)); (case k4 => first | (with_reducible assumption) | exact Mine.xc60 _ rfl); (case k5 => exact Nat.le_of_ble_eq_true rfl); k_whole); intro t' h' F' N' l1; (try dsimp only at N'); (try k_lt l1); (try k_sweep))
  k_with "call builtin:str.format" => (k_here; (with_reducible show wpAny _ _ (call (Value.builtin "str.format") [Value.str _ _, Value.int _ _]) _ _ _); (refine Mine.line_2d (by assumption) (by assumption) ?_); intro _ _)
  k_with "call builtin:str.join" => (k_here; (with_reducible show wpAny _ _ (call (Value.builtin "str.join") [Value.str _ _, Value.ref _]) _ _ _); k_dflt (refine' Mine.join_cat ?jN ?jm ?ji ?jB ?jn ?_; (case jN => k_asm); (case jm => k_mem); (case ji => repeat (first | exact PyProof.Rows.StrsAre.nil | apply PyProof.Rows.StrsAre.cons)); (case jB => (repeat (first | exact List.forall_mem_nil _ | refine List.forall_mem_cons.mpr ⟨by first | (with_reducible exact Mine.le5 (Mine.ReprAs.len (by assumption))) | (with_reducible exact Mine.line_len (by assumption) (by assumption)) | decide +kernel, ?_⟩))); (case jn => exact Nat.le_of_ble_eq_true rfl)); intro _ _; (try simp only [Mine.catS]))
  k_with "setAttr ref" => (k_here; k_dflt (refine' Mine.set_newK ?k1 ?k2 ?k3 ?k4 ?k5 ?k6 ?_; (case k1 => k_asm); (case k2 => k_asm); (case k3 => k_asm); (case k6 => (intro dx'; k_upd)); (case k4 => first | (with_reducible assumption) | exact Mine.xc60 _ rfl); (case k5 => k_is); k_whole; intro d' h' F' N' l1; (try dsimp only at N'); (try k_lt l1); (try k_sweep)))
  k_with "setAttr ref" => (k_here; k_dflt (refine' Mine.set_dictK ?k1 ?k2 ?k3 ?k4 ?k5 ?k6 ?k7 ?k10 ?k11 ?k12 ?k13 ?_; (case k1 => k_asm); (case k2 => k_asm); (case k3 => k_asm); (case k4 => (refine' Mine.instX ?N ?h1 ?h2; (case N => k_asm); (case h1 => k_mem); (case h2 => k_mem))); (case k5 => exact rfl); (case k6 => first | (with_reducible assumption) | exact Mine.xc60 _ rfl); (case k7 => k_is); (case k10 => k_get); (case k11 => k_put); (case k12 => k_upd); (case k13 => exact Nat.le_of_ble_eq_true rfl); k_whole; intro h' F' N'; (try k_sweep)))
  k_with "setAttr ref" => (k_here; (with_reducible show wpAny _ _ (setAttr (Value.ref _) (PySem.Str.ofString "args") (Value.ref _)) _ _ _); k_dflt (refine' Mine.set_argsK ?k1 ?k2 ?k3 ?k4 ?k5 ?k6 ?k7 ?k8 ?_; (case k1 => k_asm); (case k2 => k_asm); (case k3 => k_asm); (case k4 => (refine' Mine.instX ?N ?h1 ?h2; (case N => k_asm); (case h1 => k_mem); (case h2 => k_mem))); (case k5 => first | (with_reducible assumption) | exact Mine.xc60 _ rfl); (case k6 => k_is); (case k7 => exact News.isTup (by k_asm) (by k_mem)); (case k8 => k_upd); k_whole; intro h' F' N'; (try k_sweep)))
  k_with "getAttr ref" => (k_here; k_dflt (refine' Mine.get_ownX ?k1 ?k2 ?k3 ?k4 ?k5 ?k6 ?k7 ?k8 ?_; (case k1 => k_asm); (case k2 => k_asm); (case k3 => (refine' Mine.instX ?N ?h1 ?h2; (case N => k_asm); (case h1 => k_mem); (case h2 => k_mem))); (case k4 => first | (with_reducible assumption) | exact Mine.xc60 _ rfl); (case k5 => k_is); (case k6 => k_is); (case k7 => k_get); (case k8 => first | k_handed | with_reducible assumption); k_whole))
  k_with "getAttr ref" => (k_here; (with_reducible show wpAny _ _ (getAttr (Value.ref _) (PySem.Str.ofString "args") _) _ _ _); k_dflt (refine' Mine.get_argsX ?k1 ?k2 ?k3 ?k4 ?k5 ?k6 ?k7 ?_; (case k1 => k_asm); (case k2 => k_asm); (case k3 => (refine' Mine.instX ?N ?h1 ?h2; (case N => k_asm); (case h1 => k_mem); (case h2 => k_mem))); (case k4 => first | (with_reducible assumption) | exact Mine.xc60 _ rfl); (case k5 => k_is); (case k6 => k_is); (case k7 => k_is); k_whole))
  k_with "call ref" => (k_here; (with_reducible show wpAny _ _ (call (Value.ref 60) _ _) _ _ _); (first | (with_reducible show wpAny _ _ (call (Value.ref 60) _ []) _ _ _) | (with_unfolding_all show wpAny _ _ (call (Value.ref 60) _ [(PySem.Str.ofString "lineno", _), (PySem.Str.ofString "source", _), (PySem.Str.ofString "section", _)]) _ _ _) | (with_unfolding_all show wpAny _ _ (call (Value.ref 60) _ [(PySem.Str.ofString "lineno", _)]) _ _ _) | (with_unfolding_all show wpAny _ _ (call (Value.ref 60) _ [(PySem.Str.ofString "section", _)]) _ _ _)); k_dflt (refine' Mine.call_X ?k1 ?k2 ?kN ?k4 ?k5 ?k6 ?k7 ?_; (case k1 => k_asm); (case k2 => k_asm); (case kN => k_asm); (case k4 => first | (with_reducible assumption) | exact Mine.xc60 _ rfl); (case k5 => k_is); (case k6 => k_is); (case k7 => exact Nat.le_of_ble_eq_true rfl); k_whole; intro x0 tx0 h1 F1 N1 l1 l2; (refine' Mine.code_defG ?k1 ?k2 ?k3 ?k4 ?k5 ?kA ?kF ?kK ?k6 ?k7 ?k8 ?k9 ?kB ?_ ?c2 ?c3 ?c4 ?c5); (case kA => exact rfl); (case kF => exact rfl); (case kK => first | exact rfl | assumption); (case k1 => k_asm); (case k2 => k_asm); (case k3 => k_asm); (case k4 => k_asm); (case k5 => k_asm); (case k6 => k_is); (case k7 => k_is); (case k8 => ktr_room); (case k9 => first | exact BindsTo.of_eq rfl | exact binds_K (by k_in) rfl (by k_is) rfl rfl rfl | fail "no rule for these arguments"); (case c5 => decide); (case kB => exact locs rfl); (case c2 => exact rfl); (case c3 => exact rfl); (case c4 => exact rfl); k_whole; intro g' L' h' tk' hg' FG' F' N' B' X' T' l'; (clear hg'); (try k_lt l'); (try dsimp only); (try k_lift B'); (try k_fold)))
  k_with "call builtin:str.format" => (k_here; first | ((refine Mine.line_bad7 (by rfl) ?_); intro h' tk' e' x') | (k_dflt (refine' Mine.line_badT ?bN ?bm ?bA ?_; (case bN => k_asm); (case bm => k_mem); (case bA => exact rfl)); intro h' tk' e' x'))
  k_with "ite" => (k_here; (first | refine Mine.ite_ff ?_ | refine Mine.ite_tt ?_))
  k_with "call builtin:repr" => (k_here; (with_reducible show wpAny _ _ (call (Value.builtin "repr") [_]) _ _ _); k_dflt ((refine' Mine.ReprIn.run ?r0 ?rF ?rN ?rk ?ru ?rg ?_); (case r0 => with_reducible assumption); (case rF => k_asm); (case rN => k_asm); (case rk => (intro p hp; repeat (first | exact hp | refine List.mem_cons_of_mem _ ?_))); (case ru => ((try simp only [units_deeper, units_in1, units_under_make, Mine.units_under_kw]); ktr_units)); (case rg => exact rfl); k_whole; intro t' k' h' F' N'))
  k_fill
  intro w loose mean mg mb dp un cn cs a ccd cl outer A₀ base h₀ L m h g d tk os Q E news sec src r rv aN its k t B F X T hk hd hu N hrs hr1 hsn hsr hr2 hret
  refine wpAny_call ?_
  (refine' Mine.code_defG ?k1 ?k2 ?k3 ?k4 ?k5 ?kA ?kF ?kK ?k6 ?k7 ?k8 ?k9 ?kB ?_ ?c2 ?c3 ?c4 ?c5)
  (case kA => exact rfl)
  (case kF => exact rfl)
  (case kK => first | exact rfl | assumption)
  (case k1 => k_asm)
  (case k2 => k_asm)
  (case k3 => k_asm)
  (case k4 => exact N)
  (case k5 => k_asm)
  (case k6 => k_is)
  (case k7 => k_is)
  (case k8 => ktr_room)
  (case k9 => first | exact BindsTo.of_eq rfl | exact binds_K (by k_in) rfl (by k_is) rfl rfl rfl | fail "no rule for these arguments")
  (case c5 => decide)
  (case kB => exact locs rfl)
  (case c2 => exact rfl)
  (case c3 => exact rfl)
  (case c4 => exact rfl)
  intro g1 L1 h2 tk2 hg1 FG1 F2 N2 B2 X2 T2 l2
  (try k_lt l2)
  (try k_lift B2)
  (try k_fold)
  k_steps
  all_goals (try dsimp only [PySem.W.InitBack])
  all_goals k_steps
  all_goals (rename RaisedN _ _ _ _ _ _ => rk9)
  all_goals (exact hret _ _ _ _ FG1 (Mine.raisedN_sub rk9 (by intro p hp; repeat (first | exact hp | refine List.mem_cons_of_mem _ ?_))) (by assumption))
set_option rowWalk.seconds 0 in
set_option maxRecDepth 100000 in
set_option maxHeartbeats 16000000 in
theorem born1Y_T : ∀ (w : World) (loose : List PySem.Str) (mean : ExcName → Option Value) (mg mb : PySem.Str → Option Value) (dp un : Nat) (cn : PySem.Str) (cs : Scope) (a : Addr) (ccd : Value) (cl : List (PySem.Str × Addr)) (outer : List Env) (A₀ : Around) (base h₀ : Heap) (L : Addr) (m : PySem.Str → Option Value) (h : Heap) (g : Array GenState) (d : Drawn) (tk : Nat) (os : OsState) (Q E : Value → Shared → Prop) (news : List (Addr × Obj)) (sec src : Value) (r rv : PySem.Str) (aN : Addr) (its : Array Value) (k : Nat) (t : Tok), Below A₀ base outer h₀ → Fr h₀ L h m → (Mine.hd.heap_39 w.params).In h₀ → Top Mine.hd.view_39 loose mean mg mb h₀ → cs.kind = .function → dp + 12 < recursionLimit → un + 240 < cLine → News h₀ L h ((aN, tupK its k) :: news) → ReprIn PySem.Challenge.rw_dm0029_02.row.prog w ((aN, tupK its k) :: news) sec r → r.length ≤ 4000 → (src == Value.none) = false → ReprIn PySem.Challenge.rw_dm0029_02.row.prog w ((aN, tupK its k) :: news) src rv → rv.length ≤ 4000 →
    (∀ g₂ e h' tk', Fr h₀ L g₂ m → RaisedN base (envX cn cs L a ccd cl :: outer) e (.type "TypeError") ((aN, tupK its k) :: news) h' → g₂.UpToSlots h' → E (.ref e) ⟨h', g, d, tk', os⟩) →
    wpAny (model PySem.Challenge.rw_dm0029_02.row.prog w) (ktrTop dp un (some []) cn cs L a ccd cl outer) (call (.ref 81) [.int 1 t, sec, src, .ref aN]) Q E ⟨h, g, d, tk, os⟩ := by
  k_with_none
  k_with "ne" => (first | exact Mine.ne_l1 (by assumption) | exact Mine.ne_l1' (by assumption) | exact Mine.ne_r1 (by assumption) | exact Mine.ne_r1' (by assumption) | exact Mine.ne_l2 (by assumption) | exact Mine.ne_l2' (by assumption) | exact Mine.ne_r2 (by assumption) | exact Mine.ne_r2' (by assumption) | exact Mine.ne_l3 (by assumption) | exact Mine.ne_l3' (by assumption) | exact Mine.ne_r3 (by assumption) | exact Mine.ne_r3' (by assumption) | exact Mine.ne_l4 (by assumption) | exact Mine.ne_l4' (by assumption) | exact Mine.ne_r4 (by assumption) | exact Mine.ne_r4' (by assumption) | exact Mine.ne_l5 (by assumption) | exact Mine.ne_l5' (by assumption) | exact Mine.ne_r5 (by assumption) | exact Mine.ne_r5' (by assumption) | exact Mine.ne_l6 (by assumption) | exact Mine.ne_l6' (by assumption) | exact Mine.ne_r6 (by assumption) | exact Mine.ne_r6' (by assumption) | exact Mine.ne_l7 (by assumption) | exact Mine.ne_l7' (by assumption) | exact Mine.ne_r7 (by assumption) | exact Mine.ne_r7' (by assumption) | exact Mine.ne_l8 (by assumption) | exact Mine.ne_l8' (by assumption) | exact Mine.ne_r8 (by assumption) | exact Mine.ne_r8' (by assumption) | exact Mine.ne_l9 (by assumption) | exact Mine.ne_l9' (by assumption) | exact Mine.ne_r9 (by assumption) | exact Mine.ne_r9' (by assumption))
  k_with "exec For Name BinOp cons nil" => (k_here; (rename Fr _ _ _ _ => lF'); (with_unfolding_all refine' For_invVF lF' ?k1 ?k2 ?_; (case k1 => exact rfl); (case k2 => exact rfl); k_whole))
  k_with "call ref" => (k_here; (fail_if_success (with_reducible show wpAny _ _ (call (Value.ref 60) _) _ _ _)); k_dflt ((refine wpAny_call ?_); (refine' Mine.code_defG ?k1 ?k2 ?k3 ?k4 ?k5 ?kA ?kF ?kK ?k6 ?k7 ?k8 ?k9 ?kB ?_ ?c2 ?c3 ?c4 ?c5); (case kA => exact rfl); (case kF => exact rfl); (case kK => first | exact rfl | assumption); (case k1 => k_asm); (case k2 => k_asm); (case k3 => k_asm); (case k4 => k_asm); (case k5 => k_asm); (case k6 => k_is); (case k7 => k_is); (case k8 => ktr_room); (case k9 => first | exact BindsTo.of_eq rfl | exact binds_K (by k_in) rfl (by k_is) rfl rfl rfl | fail "no rule for these arguments"); (case c5 => decide); (case kB => exact locs rfl); (case c2 => exact rfl); (case c3 => exact rfl); (case c4 => exact rfl); k_whole; intro g' L' h' tk' hg' FG' F' N' B' X' T' l'; (clear hg'); (try k_lt l'); (try dsimp only); (try k_lift B'); (try k_fold)))
  k_with "call builtin:repr" => (k_here; (with_reducible show wpAny _ _ (call (Value.builtin "repr") [_]) _ _ _); k_dflt ((refine' Mine.ReprAs.run ?r0 ?rF ?rN ?rk ?ru ?rg ?_); (case r0 => with_reducible assumption); (case rF => k_asm); (case rN => k_asm); (case rk => first | exact (fun b o e => (Mine.keep_X (by with_reducible assumption) (by with_reducible assumption) (by with_reducible assumption) (by with_reducible assumption) b o e).1) | exact (fun _ _ e => Fr.keep (by with_reducible assumption) _ _ (Fr.keep (by with_reducible assumption) _ _ e)) | exact (fun _ _ e => Fr.keep (by with_reducible assumption) _ _ e)); (case ru => ((try simp only [units_deeper, units_in1, units_under_make, Mine.units_under_kw]); ktr_units)); (case rg => exact rfl); k_whole; intro t' k' h' F' N'))
  k_with "compareOp IsNot" => (k_here; (with_reducible show wpAny _ _ (compareOp CmpOp.IsNot _ Value.none) _ _ _); refine Mine.isNot_none' (by with_reducible assumption) ?_)
  k_with "compareOp Is" => (k_here; (with_reducible show wpAny _ _ (compareOp CmpOp.Is _ Value.none) _ _ _); refine Mine.is_none' (by with_reducible assumption) ?_)
  k_with "getMethod type:Exception" => (k_here; refine' method_type ?F ?X ?m (by decide +kernel) ?e ?h ?_; (case F => k_asm); (case X => k_asm); (case m => kernel_rfl); (case e => k_dflt k_is); (case h => k_handed))
  k_with "call builtin:Exception.__init__" => (k_here; k_dflt (refine' Mine.init_K ?k1 ?k2 ?k3 ?k4 ?k5 ?k6 ?_; (case k1 => k_asm); (case k2 => k_asm); (case k3 => k_asm); (case k6 => (intro tx'; k_upd)); (case k4 => first | (with_reducible assumption) | exact Mine.xc60 _ rfl); (case k5 => exact Nat.le_of_ble_eq_true rfl); k_whole); intro t' h' F' N' l1; (try dsimp only at N'); (try k_lt l1); (try k_sweep))
  k_with "call builtin:str.format" => (k_here; (with_reducible show wpAny _ _ (call (Value.builtin "str.format") [Value.str _ _, Value.int _ _]) _ _ _); (refine Mine.line_2d (by assumption) (by assumption) ?_); intro _ _)
  k_with "call builtin:str.join" => (k_here; (with_reducible show wpAny _ _ (call (Value.builtin "str.join") [Value.str _ _, Value.ref _]) _ _ _); k_dflt (refine' Mine.join_cat ?jN ?jm ?ji ?jB ?jn ?_; (case jN => k_asm); (case jm => k_mem); (case ji => repeat (first | exact PyProof.Rows.StrsAre.nil | apply PyProof.Rows.StrsAre.cons)); (case jB => (repeat (first | exact List.forall_mem_nil _ | refine List.forall_mem_cons.mpr ⟨by first | (with_reducible exact Mine.le5 (Mine.ReprAs.len (by assumption))) | (with_reducible exact Mine.line_len (by assumption) (by assumption)) | decide +kernel, ?_⟩))); (case jn => exact Nat.le_of_ble_eq_true rfl)); intro _ _; (try simp only [Mine.catS]))
  k_with "setAttr ref" => (k_here; k_dflt (refine' Mine.set_newK ?k1 ?k2 ?k3 ?k4 ?k5 ?k6 ?_; (case k1 => k_asm); (case k2 => k_asm); (case k3 => k_asm); (case k6 => (intro dx'; k_upd)); (case k4 => first | (with_reducible assumption) | exact Mine.xc60 _ rfl); (case k5 => k_is); k_whole; intro d' h' F' N' l1; (try dsimp only at N'); (try k_lt l1); (try k_sweep)))
  k_with "setAttr ref" => (k_here; k_dflt (refine' Mine.set_dictK ?k1 ?k2 ?k3 ?k4 ?k5 ?k6 ?k7 ?k10 ?k11 ?k12 ?k13 ?_; (case k1 => k_asm); (case k2 => k_asm); (case k3 => k_asm); (case k4 => (refine' Mine.instX ?N ?h1 ?h2; (case N => k_asm); (case h1 => k_mem); (case h2 => k_mem))); (case k5 => exact rfl); (case k6 => first | (with_reducible assumption) | exact Mine.xc60 _ rfl); (case k7 => k_is); (case k10 => k_get); (case k11 => k_put); (case k12 => k_upd); (case k13 => exact Nat.le_of_ble_eq_true rfl); k_whole; intro h' F' N'; (try k_sweep)))
  k_with "setAttr ref" => (k_here; (with_reducible show wpAny _ _ (setAttr (Value.ref _) (PySem.Str.ofString "args") (Value.ref _)) _ _ _); k_dflt (refine' Mine.set_argsK ?k1 ?k2 ?k3 ?k4 ?k5 ?k6 ?k7 ?k8 ?_; (case k1 => k_asm); (case k2 => k_asm); (case k3 => k_asm); (case k4 => (refine' Mine.instX ?N ?h1 ?h2; (case N => k_asm); (case h1 => k_mem); (case h2 => k_mem))); (case k5 => first | (with_reducible assumption) | exact Mine.xc60 _ rfl); (case k6 => k_is); (case k7 => exact News.isTup (by k_asm) (by k_mem)); (case k8 => k_upd); k_whole; intro h' F' N'; (try k_sweep)))
  k_with "getAttr ref" => (k_here; k_dflt (refine' Mine.get_ownX ?k1 ?k2 ?k3 ?k4 ?k5 ?k6 ?k7 ?k8 ?_; (case k1 => k_asm); (case k2 => k_asm); (case k3 => (refine' Mine.instX ?N ?h1 ?h2; (case N => k_asm); (case h1 => k_mem); (case h2 => k_mem))); (case k4 => first | (with_reducible assumption) | exact Mine.xc60 _ rfl); (case k5 => k_is); (case k6 => k_is); (case k7 => k_get); (case k8 => first | k_handed | with_reducible assumption); k_whole))
  k_with "getAttr ref" => (k_here; (with_reducible show wpAny _ _ (getAttr (Value.ref _) (PySem.Str.ofString "args") _) _ _ _); k_dflt (refine' Mine.get_argsX ?k1 ?k2 ?k3 ?k4 ?k5 ?k6 ?k7 ?_; (case k1 => k_asm); (case k2 => k_asm); (case k3 => (refine' Mine.instX ?N ?h1 ?h2; (case N => k_asm); (case h1 => k_mem); (case h2 => k_mem))); (case k4 => first | (with_reducible assumption) | exact Mine.xc60 _ rfl); (case k5 => k_is); (case k6 => k_is); (case k7 => k_is); k_whole))
  k_with "call ref" => (k_here; (with_reducible show wpAny _ _ (call (Value.ref 60) _ _) _ _ _); (first | (with_reducible show wpAny _ _ (call (Value.ref 60) _ []) _ _ _) | (with_unfolding_all show wpAny _ _ (call (Value.ref 60) _ [(PySem.Str.ofString "lineno", _), (PySem.Str.ofString "source", _), (PySem.Str.ofString "section", _)]) _ _ _) | (with_unfolding_all show wpAny _ _ (call (Value.ref 60) _ [(PySem.Str.ofString "lineno", _)]) _ _ _) | (with_unfolding_all show wpAny _ _ (call (Value.ref 60) _ [(PySem.Str.ofString "section", _)]) _ _ _)); k_dflt (refine' Mine.call_X ?k1 ?k2 ?kN ?k4 ?k5 ?k6 ?k7 ?_; (case k1 => k_asm); (case k2 => k_asm); (case kN => k_asm); (case k4 => first | (with_reducible assumption) | exact Mine.xc60 _ rfl); (case k5 => k_is); (case k6 => k_is); (case k7 => exact Nat.le_of_ble_eq_true rfl); k_whole; intro x0 tx0 h1 F1 N1 l1 l2; (refine' Mine.code_defG ?k1 ?k2 ?k3 ?k4 ?k5 ?kA ?kF ?kK ?k6 ?k7 ?k8 ?k9 ?kB ?_ ?c2 ?c3 ?c4 ?c5); (case kA => exact rfl); (case kF => exact rfl); (case kK => first | exact rfl | assumption); (case k1 => k_asm); (case k2 => k_asm); (case k3 => k_asm); (case k4 => k_asm); (case k5 => k_asm); (case k6 => k_is); (case k7 => k_is); (case k8 => ktr_room); (case k9 => first | exact BindsTo.of_eq rfl | exact binds_K (by k_in) rfl (by k_is) rfl rfl rfl | fail "no rule for these arguments"); (case c5 => decide); (case kB => exact locs rfl); (case c2 => exact rfl); (case c3 => exact rfl); (case c4 => exact rfl); k_whole; intro g' L' h' tk' hg' FG' F' N' B' X' T' l'; (clear hg'); (try k_lt l'); (try dsimp only); (try k_lift B'); (try k_fold)))
  k_with "call builtin:str.format" => (k_here; first | ((refine Mine.line_bad7 (by rfl) ?_); intro h' tk' e' x') | (k_dflt (refine' Mine.line_badT ?bN ?bm ?bA ?_; (case bN => k_asm); (case bm => k_mem); (case bA => exact rfl)); intro h' tk' e' x'))
  k_with "ite" => (k_here; (first | refine Mine.ite_ff ?_ | refine Mine.ite_tt ?_))
  k_with "call builtin:repr" => (k_here; (with_reducible show wpAny _ _ (call (Value.builtin "repr") [_]) _ _ _); k_dflt ((refine' Mine.ReprIn.run ?r0 ?rF ?rN ?rk ?ru ?rg ?_); (case r0 => with_reducible assumption); (case rF => k_asm); (case rN => k_asm); (case rk => (intro p hp; repeat (first | exact hp | refine List.mem_cons_of_mem _ ?_))); (case ru => ((try simp only [units_deeper, units_in1, units_under_make, Mine.units_under_kw]); ktr_units)); (case rg => exact rfl); k_whole; intro t' k' h' F' N'))
  k_fill
  intro w loose mean mg mb dp un cn cs a ccd cl outer A₀ base h₀ L m h g d tk os Q E news sec src r rv aN its k t B F X T hk hd hu N hrs hr1 hsn hsr hr2 hret
  refine wpAny_call ?_
  (refine' Mine.code_defG ?k1 ?k2 ?k3 ?k4 ?k5 ?kA ?kF ?kK ?k6 ?k7 ?k8 ?k9 ?kB ?_ ?c2 ?c3 ?c4 ?c5)
  (case kA => exact rfl)
  (case kF => exact rfl)
  (case kK => first | exact rfl | assumption)
  (case k1 => k_asm)
  (case k2 => k_asm)
  (case k3 => k_asm)
  (case k4 => exact N)
  (case k5 => k_asm)
  (case k6 => k_is)
  (case k7 => k_is)
  (case k8 => ktr_room)
  (case k9 => first | exact BindsTo.of_eq rfl | exact binds_K (by k_in) rfl (by k_is) rfl rfl rfl | fail "no rule for these arguments")
  (case c5 => decide)
  (case kB => exact locs rfl)
  (case c2 => exact rfl)
  (case c3 => exact rfl)
  (case c4 => exact rfl)
  intro g1 L1 h2 tk2 hg1 FG1 F2 N2 B2 X2 T2 l2
  (try k_lt l2)
  (try k_lift B2)
  (try k_fold)
  k_steps
  all_goals (try dsimp only [PySem.W.InitBack])
  all_goals k_steps
  all_goals (rename RaisedN _ _ _ _ _ _ => rk9)
  all_goals (exact hret _ _ _ _ FG1 (Mine.raisedN_sub rk9 (by intro p hp; repeat (first | exact hp | refine List.mem_cons_of_mem _ ?_))) (by assumption))
end Mine
end
section
open PySem PySem.W PyProof.Rows PySem.Calls
namespace Mine

section
variable {prog : Program} {w : World} {A : Around} {E : Value → Shared → Prop} {s : Shared} {Q : Value → Shared → Prop} {h₀ : Heap} {L : Addr} {m : PySem.Str → Option Value} {news : List (Addr × Obj)}
theorem reprAs_bool (b : Bool) (hB : Heap) : ReprAs prog w hB (.bool b) (if b then "True" else "False") :=
  ⟨fun {A E s Q h₀ L m news} F N _ _ _ h => P.repr_of_bool (h _ _ s.heap F N), by cases b <;> decide +kernel⟩
theorem reprAs_reads {hB : Heap} {a : Addr} {d : PyData} {as : List Addr} (r : Reads hB (.ref a) d as) (hs : d.showable = true) (hnd : d.hasDict = false) (hdp : d.depth ≤ 10) (hsz : d.shown.length ≤ 4000) : ReprAs prog w hB (.ref a) d.shown :=
  ⟨fun {A E s Q h₀ L m news} F N kk hu hg h => repr_of_reads' r hs (PyData.noDict_hsm hnd) hg (by omega) kk (fun h' u tk hk => h u tk h' (F.keptAll hk) (N.grown hk)) (Nat.le_trans hsz (by rw [sizeLine_eq]; decide)), hsz⟩
theorem ReprIn.at {objs : List (Addr × Obj)} {v : Value} {r : PySem.Str} {h : Heap} (hr : ReprIn prog w objs v r) (N : News h₀ L h news) (sub : ∀ p ∈ objs, p ∈ news) : ReprAs prog w h v r := hr h fun p hp => (N p (sub p hp)).1
theorem ReprIn.up {objs objs' : List (Addr × Obj)} {v : Value} {r : PySem.Str} (hr : ReprIn prog w objs v r) (sub : ∀ p ∈ objs, p ∈ objs') : ReprIn prog w objs' v r := fun hB hh => hr hB fun p hp => hh p (sub p hp)
theorem news_cons {h : Heap} {p : Addr × Obj} (N : News h₀ L h news) (hp : p ∈ news) : News h₀ L h (p :: news) := fun q hq => (List.mem_cons.mp hq).elim (fun e => e ▸ N p hp) (N q)
end
theorem no_mem {l : List (Addr × Obj)} : ∀ p ∈ ([] : List (Addr × Obj)), p ∈ l := fun p hp => (List.not_mem_nil hp).elim
theorem strOk_iff {x : PySem.Str} : PyData.strOk x = true ↔ ∀ c ∈ x.cps.toList, c < 1114112 := by
  unfold PyData.strOk
  rw [← Array.all_toList, List.all_eq_true]
  constructor
  · intro h c hc
    simpa using h c hc
  · intro h c hc
    simpa using h c hc
theorem ok_of (s : String) : PyData.strOk (PySem.Str.ofString s) = true := by
  rw [strOk_iff, PySem.Str.ofString_eq_toList]
  intro c hc
  obtain ⟨ch, _, rfl⟩ := List.mem_map.mp hc
  show ch.val.toNat < 1114112
  have h : ch.val.toNat < 0xd800 ∨ (0xdfff < ch.val.toNat ∧ ch.val.toNat < 0x110000) := ch.valid
  omega
theorem ok_app {x y : PySem.Str} (hx : PyData.strOk x = true) (hy : PyData.strOk y = true) : PyData.strOk (x ++ y) = true := by
  rw [strOk_iff] at *
  intro c hc
  rw [cps_app] at hc
  exact (List.mem_append.mp hc).elim (hx c) (hy c)
theorem ok_pad (n : Int) : PyData.strOk (pad2 n) = true := by rw [← padS_pad]; exact ok_app (by unfold padS; split <;> exact ok_of _) (ok_of _)
theorem ok_none {r : PySem.Str} (h : PyData.strOk r = true) : PyData.strOk (againMsg (PySem.Str.ofString "Section ") (PySem.Str.ofString ": section ") [r, PySem.Str.ofString " already exists"] none none) = true := by
  simp only [againMsg, catS]
  exact ok_app (ok_of _) (ok_app h (ok_of _))
theorem ok_some {r rv : PySem.Str} {ln : Option Int} (h : PyData.strOk r = true) (hv : PyData.strOk rv = true) : PyData.strOk (againMsg (PySem.Str.ofString "Section ") (PySem.Str.ofString ": section ") [r, PySem.Str.ofString " already exists"] (some rv) ln) = true := by
  cases ln with
  | none =>
    simp only [againMsg, catS, List.nil_append]
    exact ok_app (ok_of _) (ok_app hv (ok_app (ok_of _) (ok_app h (ok_of _))))
  | some n =>
    simp only [againMsg, catS, List.cons_append, List.nil_append]
    exact ok_app (ok_of _) (ok_app hv (ok_app (ok_app (ok_app (ok_of _) (ok_pad n)) (ok_of _)) (ok_app (ok_of _) (ok_app h (ok_of _)))))
/-- a source of the menu -/
structure SrcK (w : World) (objs : List (Addr × Obj)) (v : Value) : Prop where
  has : ∃ rw, rw.length ≤ 600 ∧ PyData.strOk rw = true ∧ handedIn v = true ∧ Says w objs 18 320 v rw ∧ (v = .none ∨ ((v == .none) = false ∧ ReprIn PySem.Challenge.rw_dm0029_02.row.prog w objs v rw))
structure SecK (w : World) (objs : List (Addr × Obj)) (v : Value) : Prop where
  has : ∃ r, r.length ≤ 600 ∧ PyData.strOk r = true ∧ handedIn v = true ∧ Says w objs 18 320 v r ∧ ReprIn PySem.Challenge.rw_dm0029_02.row.prog w objs v r
structure LinK (w : World) (aN : Addr) (oN : Obj) (v : Value) : Prop where
  has : ∃ r, r.length ≤ 600 ∧ handedIn v = true ∧ Says w [(aN, oN)] 18 320 v r ∧ ((∃ ln, LinIs v ln) ∨ (∃ u, v = .str (PySem.Str.ofString "7") u) ∨ v = .ref aN)
section
variable {w : World} {objs : List (Addr × Obj)}
theorem SecK.src {v : Value} (h : SecK w objs v) (hn : (v == .none) = false) : SrcK w objs v := by
  obtain ⟨r, h1, h0, h2, h3, h4⟩ := h.has
  exact ⟨r, h1, h0, h2, h3, .inr ⟨hn, h4⟩⟩
theorem secK_str {x r : PySem.Str} (t : Tok) (h1 : quoted x = r) (h2 : reprText x = r) (h3 : x.length ≤ 100) (h4 : r.length ≤ 600) (h5 : PyData.strOk r = true) : SecK w objs (.str x t) :=
  ⟨r, h4, h5, rfl, (says_str w x t r h3 h1).mono no_mem (by decide) (by decide), fun hB _ => h2 ▸ reprAs_str (h2 ▸ Nat.le_trans h4 (by decide))⟩
theorem secK_int {n : Int} (t : Tok) (h1 : -(10 ^ 12) < n) (h2 : n < 10 ^ 12) : SecK w objs (.int n t) :=
  ⟨itext n, Nat.le_trans (itext_len_le h1 h2) (by decide), ok_of _, rfl, (says_int w n t h1 h2).mono no_mem (by decide) (by decide), fun hB _ => reprAs_int h1 h2⟩
theorem bool_len (b : Bool) : (if b then PySem.Str.ofString "True" else PySem.Str.ofString "False").length ≤ 600 := by cases b <;> decide +kernel
theorem secK_bool (b : Bool) : SecK w objs (.bool b) :=
  ⟨_, bool_len b, by cases b <;> exact ok_of _, rfl, (says_bool w b).mono no_mem (by decide) (by decide), fun hB _ => reprAs_bool b hB⟩
theorem none_len : (PySem.Str.ofString "None").length ≤ 600 := by decide +kernel
theorem secK_none : SecK w objs .none :=
  ⟨_, none_len, ok_of _, rfl, (says_none w).mono no_mem (by decide) (by decide), fun hB _ => reprAs_none⟩
theorem srcK_none : SrcK w objs .none :=
  ⟨_, none_len, ok_of _, rfl, (says_none w).mono no_mem (by decide) (by decide), .inl rfl⟩
theorem itext_one : itext 1 = PySem.Str.ofString "1" := by
  refine str_eq ?_
  rw [show (1 : Int) = ((1 : Nat) : Int) from rfl, itext_nat]
  decide +kernel
theorem secK_pair {a : Addr} {k : Nat} {t u : Tok} : SecK w [(a, tupK #[.str (PySem.Str.ofString "s") t, .int 1 u] k)] (.ref a) := by
  have s1 := says_str w (PySem.Str.ofString "s") t (PySem.Str.ofString "'s'") (by decide +kernel) (by decide +kernel)
  have s2 := says_int w 1 u (by decide) (by decide)
  rw [itext_one] at s2
  have h := says_tup2 w a k _ _ _ _ (by decide +kernel) (by decide +kernel) s1 s2
  refine ⟨_, ?_, ok_app (ok_app (ok_app (ok_app (ok_of _) (ok_of _)) (ok_of _)) (ok_of _)) (ok_of _), rfl, h, fun hB hh => ?_⟩
  · decide +kernel
  · have e := hh _ (List.Mem.head _)
    have r : Reads hB (.ref a) (.tuple [.str (PySem.Str.ofString "s"), .int 1]) _ := Reads.tuple e rfl rfl (.cons (.str _ _) (.cons (.int _ _) .nil))
    have q : ReprAs PySem.Challenge.rw_dm0029_02.row.prog w hB (.ref a) (PyData.tuple [.str (PySem.Str.ofString "s"), .int 1]).shown := reprAs_reads r (by decide +kernel) (by decide +kernel) (by decide +kernel) (by decide +kernel)
    rw [show (PyData.tuple [.str (PySem.Str.ofString "s"), .int 1]).shown = PySem.Str.ofString "(" ++ PySem.Str.ofString "'s'" ++ PySem.Str.ofString ", " ++ PySem.Str.ofString "1" ++ PySem.Str.ofString ")" from by decide +kernel] at q
    exact q
theorem srcK_tup {a : Addr} {k : Nat} {r : List (Addr × Obj)} : SrcK w ((a, tupK #[] k) :: r) (.ref a) := by
  refine ⟨PySem.Str.ofString "()", by decide +kernel, ok_of _, rfl, (says_tup0 w a k).mono (fun p hp => by rw [List.mem_singleton.mp hp]; exact .head _) (by decide) (by decide), .inr ⟨rfl, fun hB hh => ?_⟩⟩
  have e := hh _ (List.Mem.head _)
  have rd : Reads hB (.ref a) (.tuple []) _ := Reads.tuple e rfl rfl .nil
  have q : ReprAs PySem.Challenge.rw_dm0029_02.row.prog w hB (.ref a) (PyData.tuple []).shown := reprAs_reads rd (by decide +kernel) (by decide +kernel) (by decide +kernel) (by decide +kernel)
  rw [show (PyData.tuple []).shown = PySem.Str.ofString "()" from by decide +kernel] at q
  exact q
theorem srcK_lst {a : Addr} {k : Nat} {x : Addr × Obj} : SrcK w [x, (a, W.listOf #[] k)] (.ref a) := by
  refine ⟨PySem.Str.ofString "[]", by decide +kernel, ok_of _, rfl, (says_lst0 w a k).mono (fun p hp => by rw [List.mem_singleton.mp hp]; exact .tail _ (.head _)) (by decide) (by decide), .inr ⟨rfl, fun hB hh => ?_⟩⟩
  have e := hh _ (List.Mem.tail _ (List.Mem.head _))
  have rd : Reads hB (.ref a) (.list []) _ := Reads.list e rfl rfl .nil
  have q : ReprAs PySem.Challenge.rw_dm0029_02.row.prog w hB (.ref a) (PyData.list []).shown := reprAs_reads rd (by decide +kernel) (by decide +kernel) (by decide +kernel) (by decide +kernel)
  rw [show (PyData.list []).shown = PySem.Str.ofString "[]" from by decide +kernel] at q
  exact q
theorem linK_none {aN : Addr} {oN : Obj} : LinK w aN oN .none := ⟨_, none_len, rfl, (says_none w).mono no_mem (by decide) (by decide), .inl ⟨_, .none⟩⟩
theorem linK_int {aN : Addr} {oN : Obj} {n : Int} (t : Tok) (h1 : -(10 ^ 12) < n) (h2 : n < 10 ^ 12) : LinK w aN oN (.int n t) :=
  ⟨itext n, Nat.le_trans (itext_len_le h1 h2) (by decide), rfl, (says_int w n t h1 h2).mono no_mem (by decide) (by decide), .inl ⟨_, .int n t h1 h2⟩⟩
theorem linK_7 {aN : Addr} {oN : Obj} (t : Tok) : LinK w aN oN (.str (PySem.Str.ofString "7") t) :=
  ⟨PySem.Str.ofString "'7'", by decide +kernel, rfl, (says_str w _ t _ (by decide +kernel) (by decide +kernel)).mono no_mem (by decide) (by decide), .inr (.inl ⟨t, rfl⟩)⟩
theorem linK_tup {aN : Addr} {k : Nat} {n : Int} {t : Tok} (h1 : -(10 ^ 12) < n) (h2 : n < 10 ^ 12) : LinK w aN (tupK #[.int n t] k) (.ref aN) := by
  have hl := itext_len_le h1 h2
  refine ⟨_, ?_, rfl, says_tup1 w aN k (.int n t) (itext n) (by omega) (says_int w n t h1 h2), .inr (.inr rfl)⟩
  rw [app_len, app_len, show (PySem.Str.ofString "(").length = 1 from by decide +kernel, show (PySem.Str.ofString ",)").length = 2 from by decide +kernel]
  omega
end
section
variable {prog : Program} {w : World} {A : Around} {E : Value → Shared → Prop} {s : Shared} {Q : Value → Shared → Prop} {h₀ : Heap} {L : Addr} {m : PySem.Str → Option Value} {news : List (Addr × Obj)}
theorem fmod5 (a : Int) : a.fmod 5 = 0 ∨ a.fmod 5 = 1 ∨ a.fmod 5 = 2 ∨ a.fmod 5 = 3 ∨ a.fmod 5 = 4 := by
  have h1 := Int.fmod_nonneg_of_pos a (b := 5) (by decide)
  have h2 := Int.fmod_lt_of_pos a (b := 5) (by decide)
  omega
theorem news_fmod5 {h : Heap} {a q : Int} {x : Addr} {t1 t2 : Tok} {n : Nat} (N : News h₀ L h ((x, ({ cls := .type "tuple", data := .seq #[.int q t1, .int (a.fmod 5) t2] n } : Obj)) :: news)) :
    ∃ k : Int, (k = 0 ∨ k = 1 ∨ k = 2 ∨ k = 3 ∨ k = 4) ∧ News h₀ L h ((x, ({ cls := .type "tuple", data := .seq #[.int q t1, .int k t2] n } : Obj)) :: news) := ⟨_, fmod5 a, N⟩
/-- a small int, whichever way it comes -/
theorem wp_cut {t : Sem Value} (P : Int → Prop) (h1 : wpAny (model prog w) A t (fun v s' => ∃ n t k, v = .int n t ∧ P n ∧ s' = { s with toks := k }) E s) (h2 : ∀ n t k, P n → Q (.int n t) { s with toks := k }) : wpAny (model prog w) A t Q E s :=
  wpAny_mono h1 (fun v s' h => by obtain ⟨n, t, k, rfl, hp, rfl⟩ := h; exact h2 n t k hp) fun _ _ x => x
def Nine (n : Int) : Prop := -(10 ^ 9) < n ∧ n < 10 ^ 9
theorem nine_pos (a : Int) : Nine (a.fmod (10 ^ 9)) := by
  have h1 := Int.fmod_nonneg_of_pos a (b := 10 ^ 9) (by decide)
  have h2 := Int.fmod_lt_of_pos a (b := 10 ^ 9) (by decide)
  exact ⟨by omega, h2⟩
theorem nine_neg (a : Int) : Nine (-(a.fmod (10 ^ 9))) := by
  have := nine_pos a
  have h1 := Int.fmod_nonneg_of_pos a (b := 10 ^ 9) (by decide)
  unfold Nine at *
  omega
theorem small_mod (a : Int) {b : Int} (h : 0 < b) (hb : b ≤ 10 ^ 9) : -(10 ^ 12) < a.fmod b ∧ a.fmod b < 10 ^ 12 := by
  have h1 := Int.fmod_nonneg_of_pos a h
  have h2 := Int.fmod_lt_of_pos a h
  omega
theorem ten_mod (a : Int) : -(10 ^ 12) < 10 + a.fmod 90 ∧ 10 + a.fmod 90 < 10 ^ 12 := by
  have h1 := Int.fmod_nonneg_of_pos a (b := 90) (by decide)
  have h2 := Int.fmod_lt_of_pos a (b := 90) (by decide)
  omega
theorem Nine.lo {n : Int} (h : Nine n) : -(10 ^ 12) < n ∧ n < 10 ^ 12 := by unfold Nine at h; omega
theorem ne_txt3 {a b : Addr} {x : PySem.Str} {t1 t2 t3 t4 t5 t6 : Tok} {n n' : Nat} (N : News h₀ L s.heap news) (ha : (a, W.listOf #[.str x t1, .str x t2, .str x t3] n) ∈ news) (hb : (b, W.listOf #[.str x t4, .str x t5, .str x t6] n') ∈ news) (hx : PyData.strOk x = true) (hu : A.units + 64 < cLine)
    (h : Q (.bool false) s) : wpAny (model prog w) A (compareOp .NotEq (.ref a) (.ref b)) Q E s := by
  have p1 : PlainAll [.str x t1, .str x t2, .str x t3] [.str x, .str x, .str x] := .cons (.str _ _ hx) (.cons (.str _ _ hx) (.cons (.str _ _ hx) .nil))
  have p2 : PlainAll [.str x t4, .str x t5, .str x t6] [.str x, .str x, .str x] := .cons (.str _ _ hx) (.cons (.str _ _ hx) (.cons (.str _ _ hx) .nil))
  have hs : PySem.SeqAt.shaped (.list [.str x, .str x, .str x]) = true := by
    have := p1.dep
    simp [PySem.SeqAt.shaped, PyData.canLay0, p1.lay, PyData.depth]; omega
  refine ne_dataH (Reads.list (N _ ha).1 rfl rfl (p1.reads _)) (Reads.list (N _ hb).1 rfl rfl (p2.reads _)) hs hs hu ?_
  rw [PySem.SeqAt.eqv_refl _ (PySem.SeqAt.canLay_of_shaped hs)]
  exact h
end
theorem secK_text {w : World} {objs : List (Addr × Obj)} {x : PySem.Str} (t : Tok) (h1 : quoted x = reprText x) (h3 : x.length ≤ 100) (h4 : (reprText x).length ≤ 600) (h5 : PyData.strOk (reprText x) = true) : SecK w objs (.str x t) := secK_str t h1 rfl h3 h4 h5
section
variable {prog : Program} {w : World} {A : Around} {E : Value → Shared → Prop} {s : Shared} {Q : Value → Shared → Prop} {h₀ : Heap} {L : Addr} {m : PySem.Str → Option Value} {news : List (Addr × Obj)}
variable {value slice : PySem.Expr} {l : Addr} {vs : List Value} {k : Int} {u : Tok}
theorem src_menu {aT aL : Addr} {kT kL : Nat} (N : News h₀ L s.heap news) (_hT : (aT, tupK #[] kT) ∈ news) (_hL : (aL, W.listOf #[] kL) ∈ news) (hl : s.heap.IsList l vs.toArray) (hP : ∀ v ∈ vs, SrcK w [(aT, tupK #[] kT), (aL, W.listOf #[] kL)] v) (h0 : 0 ≤ k) (h1 : k < (vs.length : Int)) (hfit : k < 2 ^ 63) (h : ∀ v k', SrcK w [(aT, tupK #[] kT), (aL, W.listOf #[] kL)] v → Q v { s with toks := k' })
    (hs : subscripted slice false (.ref l) (.int k u) = operate [.ref l, .int k u] (getItem (.ref l) (.int k u)) := by with_unfolding_all rfl) :
    wpAny (model prog w) A (subscriptTail value slice (.ref l) (.int k u)) Q E s := menu_K _ hl hP h0 h1 hfit h hs
theorem lin_menu {aN : Addr} {kN : Nat} {n : Int} {t : Tok} (N : News h₀ L s.heap news) (_hT : (aN, tupK #[.int n t] kN) ∈ news) (hl : s.heap.IsList l vs.toArray) (hP : ∀ v ∈ vs, LinK w aN (tupK #[.int n t] kN) v) (h0 : 0 ≤ k) (h1 : k < (vs.length : Int)) (hfit : k < 2 ^ 63) (h : ∀ v k', LinK w aN (tupK #[.int n t] kN) v → Q v { s with toks := k' })
    (hs : subscripted slice false (.ref l) (.int k u) = operate [.ref l, .int k u] (getItem (.ref l) (.int k u)) := by with_unfolding_all rfl) :
    wpAny (model prog w) A (subscriptTail value slice (.ref l) (.int k u)) Q E s := menu_K _ hl hP h0 h1 hfit h hs
theorem sec_menu {aS : Addr} {kS : Nat} {t t' : Tok} (N : News h₀ L s.heap news) (_hT : (aS, tupK #[.str (PySem.Str.ofString "s") t, .int 1 t'] kS) ∈ news) (hl : s.heap.IsList l vs.toArray) (hP : ∀ v ∈ vs, SecK w [(aS, tupK #[.str (PySem.Str.ofString "s") t, .int 1 t'] kS)] v) (h0 : 0 ≤ k) (h1 : k < (vs.length : Int)) (hfit : k < 2 ^ 63) (h : ∀ v k', SecK w [(aS, tupK #[.str (PySem.Str.ofString "s") t, .int 1 t'] kS)] v → Q v { s with toks := k' })
    (hs : subscripted slice false (.ref l) (.int k u) = operate [.ref l, .int k u] (getItem (.ref l) (.int k u)) := by with_unfolding_all rfl) :
    wpAny (model prog w) A (subscriptTail value slice (.ref l) (.int k u)) Q E s := menu_K _ hl hP h0 h1 hfit h hs
end
theorem written3_T : ∀ (w : World) (loose : List PySem.Str) (mean : ExcName → Option Value) (mg mb : PySem.Str → Option Value) (dp un : Nat) (cn : PySem.Str) (cs : Scope) (a : Addr) (ccd : Value) (cl : List (PySem.Str × Addr)) (outer : List Env) (A₀ : Around) (base h₀ : Heap) (L : Addr) (m : PySem.Str → Option Value) (h : Heap) (g : Array GenState) (d : Drawn) (tk : Nat) (os : OsState) (Q E : Value → Shared → Prop) (news : List (Addr × Obj)) (a9 aS aT aL aN : Addr) (oS oT oL oN : Obj) (k : Nat) (v1 v2 v3 : Value) (r1 r2 r3 : PySem.Str), Below A₀ base outer h₀ → Fr h₀ L h m → (Mine.hd.heap_39 w.params).In h₀ → Top Mine.hd.view_39 loose mean mg mb h₀ → cs.kind = .function → dp + 26 < recursionLimit → un + 480 < cLine → News h₀ L h news → (a9, tupK #[v1, v2, v3] k) ∈ news →
    Says w [(aS, oS)] 18 320 v1 r1 → Says w [(aT, oT), (aL, oL)] 18 320 v2 r2 → Says w [(aN, oN)] 18 320 v3 r3 → (∀ p ∈ [(aS, oS), (aT, oT), (aL, oL), (aN, oN)], p ∈ news) → r1.length ≤ 600 → r2.length ≤ 600 → r3.length ≤ 600 →
    (∀ t h' tk', (∀ b o, h.get? b = some o → h'.get? b = some o) → Fr h₀ L h' m → Q (.str (PySem.Str.ofString "(" ++ r1 ++ PySem.Str.ofString ", " ++ r2 ++ PySem.Str.ofString ", " ++ r3 ++ PySem.Str.ofString ")") t) ⟨h', g, d, tk', os⟩) →
    wpAny (model PySem.Challenge.rw_dm0029_02.row.prog w) (ktrTop dp un (some []) cn cs L a ccd cl outer) (call (.ref 74) [.ref a9]) Q E ⟨h, g, d, tk, os⟩ := by
  intro w loose mean mg mb dp un cn cs a ccd cl outer A₀ base h₀ L m h g d tk os Q E news a9 aS aT aL aN oS oT oL oN k v1 v2 v3 r1 r2 r3 B F X T hk hd hu N hm s1 s2 s3 hs l1 l2 l3 hret
  exact says_tup3' w a9 aS aT aL aN oS oT oL oN k v1 v2 v3 r1 r2 r3 l1 l2 l3 s1 s2 s3 _ _ _ _ _ _ _ _ _ _ _ _ _ _ _ _ _ _ _ _ _ _ _ _ B F X T hk hd hu (fun p hp => by
    rcases List.mem_cons.mp hp with rfl | hp
    · exact N _ hm
    · exact N _ (hs p hp)) hret
end Mine
end
open PySem PySem.W PyProof.Rows PySem.Calls
theorem Mine.le4000 {n : Nat} (h : n ≤ 600) : n ≤ 4000 := Nat.le_trans h (by decide)
theorem Mine.says_none3 {w : World} {objs : List (Addr × Obj)} : Mine.Says w objs 18 320 .none (PySem.Str.ofString "None") := (Mine.says_none w).mono Mine.no_mem (by decide) (by decide)
local macro_rules | `(tactic| walk_at "exec For Name BinOp cons nil") => `(tactic| (k_here; (rename Fr _ _ _ _ => lF'); (with_unfolding_all refine' For_invVF lF' ?k1 ?k2 ?_; (case k1 => exact rfl); (case k2 => exact rfl); k_whole)))
local macro_rules | `(tactic| walk_at "call ref") => `(tactic| (k_here; (fail_if_success (with_reducible show wpAny _ _ (call (Value.ref 74) _) _ _ _)); (fail_if_success (with_reducible show wpAny _ _ (call (Value.ref 69) _) _ _ _)); (fail_if_success (with_reducible show wpAny _ _ (call (Value.ref 81) _) _ _ _)); (fail_if_success (with_reducible show wpAny _ _ (call (Value.ref 88) _) _ _ _)); (fail_if_success (with_reducible show wpAny _ _ (call (Value.ref 60) _) _ _ _)); k_dflt ((refine wpAny_call ?_); (refine' Mine.code_defG ?k1 ?k2 ?k3 ?k4 ?k5 ?kA ?kF ?kK ?k6 ?k7 ?k8 ?k9 ?kB ?_ ?c2 ?c3 ?c4 ?c5); (case kA => exact rfl); (case kF => exact rfl); (case kK => first | exact rfl | assumption); (case k1 => k_asm); (case k2 => k_asm); (case k3 => k_asm); (case k4 => k_asm); (case k5 => k_asm); (case k6 => k_is); (case k7 => k_is); (case k8 => ktr_room); (case k9 => first | exact BindsTo.of_eq rfl | exact binds_K (by k_in) rfl (by k_is) rfl rfl rfl | fail "no rule for these arguments"); (case c5 => decide); (case kB => exact locs rfl); (case c2 => exact rfl); (case c3 => exact rfl); (case c4 => exact rfl); k_whole; intro g' L' h' tk' hg' FG' F' N' B' X' T' l'; (clear hg'); (try k_lt l'); (try dsimp only); (try k_lift B'); (try k_fold))))
local macro_rules | `(tactic| walk_at "getAttr ref") => `(tactic| (k_here; k_dflt (refine' Mine.get_ownX ?k1 ?k2 ?k3 ?k4 ?k5 ?k6 ?k7 ?k8 ?_; (case k1 => k_asm); (case k2 => k_asm); (case k3 => (refine' Mine.instX ?N ?h1 ?h2; (case N => k_asm); (case h1 => k_mem); (case h2 => k_mem))); (case k4 => first | (with_reducible assumption) | exact Mine.xc60 _ rfl); (case k5 => k_is); (case k6 => k_is); (case k7 => k_get); (case k8 => first | k_handed | with_reducible assumption); k_whole)))
local macro_rules | `(tactic| walk_at "getAttr ref") => `(tactic| (k_here; (with_reducible show wpAny _ _ (getAttr (Value.ref _) (PySem.Str.ofString "args") _) _ _ _); k_dflt (refine' Mine.get_argsX ?k1 ?k2 ?k3 ?k4 ?k5 ?k6 ?k7 ?_; (case k1 => k_asm); (case k2 => k_asm); (case k3 => (refine' Mine.instX ?N ?h1 ?h2; (case N => k_asm); (case h1 => k_mem); (case h2 => k_mem))); (case k4 => first | (with_reducible assumption) | exact Mine.xc60 _ rfl); (case k5 => k_is); (case k6 => k_is); (case k7 => k_is); k_whole)))


local macro_rules | `(tactic| walk_at "ite") => `(tactic| (k_here; (first | refine Mine.ite_ff ?_ | refine Mine.ite_tt ?_)))
local macro_rules | `(tactic| walk_at "execs cons") => `(tactic| (k_here; (dsimp only); walk_at "execs cons"))
local macro_rules | `(tactic| walk_at "storeName") => `(tactic| (k_here; (dsimp only); walk_at "storeName"))
local macro_rules | `(tactic| walk_at "subscriptTail List cons Name ref int") => `(tactic| (k_here; k_dflt (refine' Mine.src_menu ?N ?m1 ?m2 ?hl ?hP ?h0 ?h1 ?hf ?_ ?hs; (case N => k_asm); (case m1 => k_mem); (case m2 => k_mem); (case hl => is_list); (case h0 => exact Mine.idx_lo _ (by decide)); (case h1 => exact Mine.idx_hi _ (by decide) rfl); (case hf => exact Mine.idx_fit _ (by decide) (by decide)); (case hs => with_unfolding_all rfl); (case hP => (repeat (first | exact List.forall_mem_nil _ | refine List.forall_mem_cons.mpr ⟨by first | exact Mine.srcK_none | exact Mine.srcK_tup | exact Mine.srcK_lst | exact (Mine.secK_text _ (by decide +kernel) (by decide +kernel) (by decide +kernel) (by decide +kernel)).src rfl | exact (Mine.secK_int _ (by decide) (by decide)).src rfl | exact (Mine.secK_bool _).src rfl, ?_⟩))); k_whole); intro v' k' hv'; (rcases hv' with ⟨rw', hs1', hs5', hs2', hs3', hs4'⟩); (try dsimp only)))
local macro_rules | `(tactic| walk_at "subscriptTail List cons Name ref int") => `(tactic| (k_here; k_dflt (refine' Mine.lin_menu ?N ?m1 ?hl ?hP ?h0 ?h1 ?hf ?_ ?hs; (case N => k_asm); (case m1 => k_mem); (case hl => is_list); (case h0 => exact Mine.idx_lo _ (by decide)); (case h1 => exact Mine.idx_hi _ (by decide) rfl); (case hf => exact Mine.idx_fit _ (by decide) (by decide)); (case hs => with_unfolding_all rfl); (case hP => (repeat (first | exact List.forall_mem_nil _ | refine List.forall_mem_cons.mpr ⟨by first | exact Mine.linK_none | exact Mine.linK_tup (Mine.Nine.lo (by assumption)).1 (Mine.Nine.lo (by assumption)).2 | exact Mine.linK_int _ (Mine.small_mod _ (by decide) (by decide)).1 (Mine.small_mod _ (by decide) (by decide)).2 | exact Mine.linK_int _ (Mine.ten_mod _).1 (Mine.ten_mod _).2 | exact Mine.linK_int _ (Mine.Nine.lo (by assumption)).1 (Mine.Nine.lo (by assumption)).2 | exact Mine.linK_7 _, ?_⟩))); k_whole); intro v' k' hv'; (rcases hv' with ⟨rw', hs1', hs2', hs3', hs4'⟩); (try dsimp only)))
local macro_rules | `(tactic| walk_at "subscriptTail List cons BinOp ref int") => `(tactic| (k_here; k_dflt (refine' Mine.sec_menu ?N ?m1 ?hl ?hP ?h0 ?h1 ?hf ?_ ?hs; (case N => k_asm); (case m1 => k_mem); (case hl => is_list); (case h0 => exact Mine.idx_lo _ (by decide)); (case h1 => exact Mine.idx_hi _ (by decide) rfl); (case hf => exact Mine.idx_fit _ (by decide) (by decide)); (case hs => with_unfolding_all rfl); (case hP => (repeat (first | exact List.forall_mem_nil _ | refine List.forall_mem_cons.mpr ⟨by first | exact Mine.secK_none | exact Mine.secK_pair | exact Mine.secK_text _ (by decide +kernel) (by decide +kernel) (by decide +kernel) (by decide +kernel) | exact Mine.secK_int _ (by decide) (by decide), ?_⟩))); k_whole); intro v' k' hv'; (rcases hv' with ⟨rw', hs1', hs5', hs2', hs3', hs4'⟩); (try dsimp only)))
local macro_rules | `(tactic| walk_at "eval IfExp") => `(tactic| (k_here; (fail_if_success (with_reducible show wpAny _ _ _ (fun v s' => ∃ n t k, _ ∧ _ ∧ _) _ _)); (refine Mine.wp_cut Mine.Nine ?_ (fun n' t' k' hn' => ?_))))
local macro_rules | `(tactic| walk_at "Exists") => `(tactic| (k_here; exact ⟨_, _, _, rfl, by first | exact Mine.nine_neg _ | exact Mine.nine_pos _, rfl⟩))
local macro_rules | `(tactic| walk_at "call builtin:divmod") => `(tactic| (k_here; (with_reducible show wpAny _ _ (call (Value.builtin _) [Value.int _ _, Value.int 5 _]) _ _ _); (refine divmod_N (by assumption) (by assumption) (by side_arith) ?_); intro h' F' N'; (have N9 := N'); (clear N'); (obtain ⟨k9, hk9, N'⟩ := Mine.news_fmod5 N9); (clear N9); (rcases hk9 with hk9 | hk9 | hk9 | hk9 | hk9) <;> (subst hk9)))
local macro_rules | `(tactic| walk_at "call ref") => `(tactic| (k_here; (with_reducible show wpAny _ _ (call (Value.ref 88) [_, _, _]) _ _ _); (with_reducible rename (_ = Value.none) ∨ _ => c9); (rcases c9 with c9 | ⟨c9, c8⟩) <;> (first | subst c9 | ((fail_if_success (with_reducible show wpAny _ _ (call _ [_, _, Value.none]) _ _ _)); (with_reducible rename _ ∨ _ ∨ _ => c7); (rcases c7 with ⟨ln9, c7⟩ | ⟨u9, c7⟩ | c7) <;> (try subst c7)) | skip)))
local macro_rules | `(tactic| walk_at "call ref") => `(tactic| (k_here; (with_reducible show wpAny _ _ (call (Value.ref 88) [_, _, Value.ref _]) _ _ _); k_dflt (refine' Mine.toldY_T _ _ _ _ _ _ _ _ _ _ _ _ _ _ _ _ _ _ _ _ _ _ _ _ _ _ _ _ _ _ _ _ _ _ _ _ _ _ ?kB ?kF ?kX ?kT ?kk ?kd ?ku ?hN ?l1 ?s1 ?sn ?o1 ?_; (case s1 => with_reducible assumption); (case sn => with_reducible assumption); (case hN => ((refine' Mine.news_of ?hN1 ?hN2); (case hN1 => k_asm); (case hN2 => (repeat (first | exact List.forall_mem_nil _ | refine List.forall_mem_cons.mpr ⟨by k_mem, ?_⟩))))); (case o1 => exact rfl); (case l1 => with_reducible assumption); (case kB => k_asm); (case kF => k_asm); (case kX => k_asm); (case kT => k_asm); (case kk => first | exact rfl | assumption); (case kd => ktr_room); (case ku => ktr_units); k_whole); intro t' h' tk' hk' F'; (have N' := Mine.news_kept hk' (by k_asm)); (clear hk'); (try dsimp only)))
local macro_rules | `(tactic| walk_at "call ref") => `(tactic| (k_here; (with_reducible show wpAny _ _ (call (Value.ref 88) [_, _, Value.str _ _]) _ _ _); k_dflt (refine' Mine.toldV_T _ _ _ _ _ _ _ _ _ _ _ _ _ _ _ _ _ _ _ _ _ _ _ _ _ _ _ _ _ _ _ _ _ _ _ _ _ _ ?kB ?kF ?kX ?kT ?kk ?kd ?ku ?hN ?l1 ?s1 ?sn ?_; (case s1 => with_reducible assumption); (case sn => with_reducible assumption); (case hN => ((refine' Mine.news_of ?hN1 ?hN2); (case hN1 => k_asm); (case hN2 => (repeat (first | exact List.forall_mem_nil _ | refine List.forall_mem_cons.mpr ⟨by k_mem, ?_⟩))))); (case l1 => with_reducible assumption); (case kB => k_asm); (case kF => k_asm); (case kX => k_asm); (case kT => k_asm); (case kk => first | exact rfl | assumption); (case kd => ktr_room); (case ku => ktr_units); k_whole); intro t' h' tk' hk' F'; (have N' := Mine.news_kept hk' (by k_asm)); (clear hk'); (try dsimp only)))
local macro_rules | `(tactic| walk_at "call ref") => `(tactic| (k_here; (with_reducible show wpAny _ _ (call (Value.ref 88) [_, _, _]) _ _ _); k_dflt (refine' Mine.toldS_T _ _ _ _ _ _ _ _ _ _ _ _ _ _ _ _ _ _ _ _ _ _ _ _ _ _ _ _ _ _ _ _ _ _ _ _ _ _ _ ?kB ?kF ?kX ?kT ?kk ?kd ?ku ?hN ?l1 ?s1 ?sn ?l2 ?s2 ?li ?_; (case li => first | with_reducible assumption | exact Mine.LinIs.none); (case sn => with_reducible assumption); (case s1 => with_reducible assumption); (case s2 => with_reducible assumption); (case hN => ((refine' Mine.news_of ?hN1 ?hN2); (case hN1 => k_asm); (case hN2 => (repeat (first | exact List.forall_mem_nil _ | refine List.forall_mem_cons.mpr ⟨by k_mem, ?_⟩))))); (case l1 => with_reducible assumption); (case l2 => with_reducible assumption); (case kB => k_asm); (case kF => k_asm); (case kX => k_asm); (case kT => k_asm); (case kk => first | exact rfl | assumption); (case kd => ktr_room); (case ku => ktr_units); k_whole); intro t' h' tk' hk' F'; (have N' := Mine.news_kept hk' (by k_asm)); (clear hk'); (try dsimp only)))
local macro_rules | `(tactic| walk_at "call ref") => `(tactic| (k_here; (with_reducible show wpAny _ _ (call (Value.ref 88) [_, Value.none, _]) _ _ _); k_dflt (refine' Mine.toldN_T _ _ _ _ _ _ _ _ _ _ _ _ _ _ _ _ _ _ _ _ _ _ _ _ _ _ _ _ _ _ _ _ _ _ _ _ ?kB ?kF ?kX ?kT ?kk ?kd ?ku ?hN ?l1 ?s1 ?_; (case s1 => with_reducible assumption); (case hN => ((refine' Mine.news_of ?hN1 ?hN2); (case hN1 => k_asm); (case hN2 => (repeat (first | exact List.forall_mem_nil _ | refine List.forall_mem_cons.mpr ⟨by k_mem, ?_⟩))))); (case l1 => with_reducible assumption); (case kB => k_asm); (case kF => k_asm); (case kX => k_asm); (case kT => k_asm); (case kk => first | exact rfl | assumption); (case kd => ktr_room); (case ku => ktr_units); k_whole); intro t' h' tk' hk' F'; (have N' := Mine.news_kept hk' (by k_asm)); (clear hk'); (try dsimp only)))
local macro_rules | `(tactic| walk_at "call ref") => `(tactic| (k_here; (with_reducible show wpAny _ _ (call (Value.ref 81) [Value.int 0 _, _, _, Value.ref _]) _ _ _); k_dflt (refine' Mine.born0Y_T _ _ _ _ _ _ _ _ _ _ _ _ _ _ _ _ _ _ _ _ _ _ _ _ _ _ _ _ _ _ _ _ _ _ ?kB ?kF ?kX ?kT ?kk ?kd ?ku ?N ?r1 ?l1 ?sn ?r2 ?l2 ?_; (case N => exact Mine.news_cons (by k_asm) (by k_mem)); (case kB => k_asm); (case kF => k_asm); (case kX => k_asm); (case kT => k_asm); (case kk => first | exact rfl | assumption); (case kd => ktr_room); (case ku => ktr_units); (case sn => with_reducible assumption); (case r1 => ((refine' Mine.ReprIn.up ?ra ?rc); (case ra => with_reducible assumption); (case rc => (repeat (first | exact List.forall_mem_nil _ | refine List.forall_mem_cons.mpr ⟨by k_mem, ?_⟩))))); (case r2 => ((refine' Mine.ReprIn.up ?ra ?rc); (case ra => with_reducible assumption); (case rc => (repeat (first | exact List.forall_mem_nil _ | refine List.forall_mem_cons.mpr ⟨by k_mem, ?_⟩))))); (case l1 => exact Mine.le4000 (by with_reducible assumption)); (case l2 => exact Mine.le4000 (by with_reducible assumption)); k_whole); intro g9 e' h' tk' F' R' U'; (try dsimp only)))
local macro_rules | `(tactic| walk_at "call ref") => `(tactic| (k_here; (with_reducible show wpAny _ _ (call (Value.ref 81) [Value.int 0 _, _, _, Value.str _ _]) _ _ _); k_dflt (refine' Mine.born0V_T _ _ _ _ _ _ _ _ _ _ _ _ _ _ _ _ _ _ _ _ _ _ _ _ _ _ _ _ _ _ _ _ ?kB ?kF ?kX ?kT ?kk ?kd ?ku ?N ?r1 ?l1 ?sn ?r2 ?l2 ?_; (case N => k_asm); (case kB => k_asm); (case kF => k_asm); (case kX => k_asm); (case kT => k_asm); (case kk => first | exact rfl | assumption); (case kd => ktr_room); (case ku => ktr_units); (case sn => with_reducible assumption); (case r1 => ((refine' Mine.ReprIn.up ?ra ?rc); (case ra => with_reducible assumption); (case rc => (repeat (first | exact List.forall_mem_nil _ | refine List.forall_mem_cons.mpr ⟨by k_mem, ?_⟩))))); (case r2 => ((refine' Mine.ReprIn.up ?ra ?rc); (case ra => with_reducible assumption); (case rc => (repeat (first | exact List.forall_mem_nil _ | refine List.forall_mem_cons.mpr ⟨by k_mem, ?_⟩))))); (case l1 => exact Mine.le4000 (by with_reducible assumption)); (case l2 => exact Mine.le4000 (by with_reducible assumption)); k_whole); intro g9 e' h' tk' F' R' U'; (try dsimp only)))
local macro_rules | `(tactic| walk_at "call ref") => `(tactic| (k_here; (with_reducible show wpAny _ _ (call (Value.ref 81) [Value.int 1 _, _, _, Value.ref _]) _ _ _); k_dflt (refine' Mine.born1Y_T _ _ _ _ _ _ _ _ _ _ _ _ _ _ _ _ _ _ _ _ _ _ _ _ _ _ _ _ _ _ _ _ _ _ ?kB ?kF ?kX ?kT ?kk ?kd ?ku ?N ?r1 ?l1 ?sn ?r2 ?l2 ?_; (case N => exact Mine.news_cons (by k_asm) (by k_mem)); (case kB => k_asm); (case kF => k_asm); (case kX => k_asm); (case kT => k_asm); (case kk => first | exact rfl | assumption); (case kd => ktr_room); (case ku => ktr_units); (case sn => with_reducible assumption); (case r1 => ((refine' Mine.ReprIn.up ?ra ?rc); (case ra => with_reducible assumption); (case rc => (repeat (first | exact List.forall_mem_nil _ | refine List.forall_mem_cons.mpr ⟨by k_mem, ?_⟩))))); (case r2 => ((refine' Mine.ReprIn.up ?ra ?rc); (case ra => with_reducible assumption); (case rc => (repeat (first | exact List.forall_mem_nil _ | refine List.forall_mem_cons.mpr ⟨by k_mem, ?_⟩))))); (case l1 => exact Mine.le4000 (by with_reducible assumption)); (case l2 => exact Mine.le4000 (by with_reducible assumption)); k_whole); intro g9 e' h' tk' F' R' U'; (try dsimp only)))
local macro_rules | `(tactic| walk_at "call ref") => `(tactic| (k_here; (with_reducible show wpAny _ _ (call (Value.ref 81) [Value.int 1 _, _, _, Value.str _ _]) _ _ _); k_dflt (refine' Mine.born1V_T _ _ _ _ _ _ _ _ _ _ _ _ _ _ _ _ _ _ _ _ _ _ _ _ _ _ _ _ _ _ _ _ ?kB ?kF ?kX ?kT ?kk ?kd ?ku ?N ?r1 ?l1 ?sn ?r2 ?l2 ?_; (case N => k_asm); (case kB => k_asm); (case kF => k_asm); (case kX => k_asm); (case kT => k_asm); (case kk => first | exact rfl | assumption); (case kd => ktr_room); (case ku => ktr_units); (case sn => with_reducible assumption); (case r1 => ((refine' Mine.ReprIn.up ?ra ?rc); (case ra => with_reducible assumption); (case rc => (repeat (first | exact List.forall_mem_nil _ | refine List.forall_mem_cons.mpr ⟨by k_mem, ?_⟩))))); (case r2 => ((refine' Mine.ReprIn.up ?ra ?rc); (case ra => with_reducible assumption); (case rc => (repeat (first | exact List.forall_mem_nil _ | refine List.forall_mem_cons.mpr ⟨by k_mem, ?_⟩))))); (case l1 => exact Mine.le4000 (by with_reducible assumption)); (case l2 => exact Mine.le4000 (by with_reducible assumption)); k_whole); intro g9 e' h' tk' F' R' U'; (try dsimp only)))
local macro_rules | `(tactic| walk_at "call ref") => `(tactic| (k_here; (with_reducible show wpAny _ _ (call (Value.ref 81) [Value.int 0 _, _, _, _]) _ _ _); k_dflt (refine' Mine.born0S_T _ _ _ _ _ _ _ _ _ _ _ _ _ _ _ _ _ _ _ _ _ _ _ _ _ _ _ _ _ _ _ _ ?kB ?kF ?kX ?kT ?kk ?kd ?ku ?r1 ?sn ?r2 ?li ?_; (case li => with_reducible assumption); (case sn => with_reducible assumption); (case kB => k_asm); (case kF => k_asm); (case kX => k_asm); (case kT => k_asm); (case kk => first | exact rfl | assumption); (case kd => ktr_room); (case ku => ktr_units); (case r1 => ((refine' Mine.ReprIn.at ?ra ?rb ?rc); (case ra => with_reducible assumption); (case rb => k_asm); (case rc => (repeat (first | exact List.forall_mem_nil _ | refine List.forall_mem_cons.mpr ⟨by k_mem, ?_⟩))))); (case r2 => ((refine' Mine.ReprIn.at ?ra ?rb ?rc); (case ra => with_reducible assumption); (case rb => k_asm); (case rc => (repeat (first | exact List.forall_mem_nil _ | refine List.forall_mem_cons.mpr ⟨by k_mem, ?_⟩))))); k_whole); intro x' dx' tx' kt0' kt1' kt2' kt3' km' h' tk' hk' F' N1'; (have N' := Mine.news_lift (by k_asm) N1' hk'); (clear N1' hk'); (try simp only [List.cons_append, List.nil_append] at N'); (try dsimp only)))
local macro_rules | `(tactic| walk_at "call ref") => `(tactic| (k_here; (with_reducible show wpAny _ _ (call (Value.ref 81) [Value.int 1 _, _, _, _]) _ _ _); k_dflt (refine' Mine.born1S_T _ _ _ _ _ _ _ _ _ _ _ _ _ _ _ _ _ _ _ _ _ _ _ _ _ _ _ _ _ _ _ _ ?kB ?kF ?kX ?kT ?kk ?kd ?ku ?r1 ?sn ?r2 ?li ?_; (case li => with_reducible assumption); (case sn => with_reducible assumption); (case kB => k_asm); (case kF => k_asm); (case kX => k_asm); (case kT => k_asm); (case kk => first | exact rfl | assumption); (case kd => ktr_room); (case ku => ktr_units); (case r1 => ((refine' Mine.ReprIn.at ?ra ?rb ?rc); (case ra => with_reducible assumption); (case rb => k_asm); (case rc => (repeat (first | exact List.forall_mem_nil _ | refine List.forall_mem_cons.mpr ⟨by k_mem, ?_⟩))))); (case r2 => ((refine' Mine.ReprIn.at ?ra ?rb ?rc); (case ra => with_reducible assumption); (case rb => k_asm); (case rc => (repeat (first | exact List.forall_mem_nil _ | refine List.forall_mem_cons.mpr ⟨by k_mem, ?_⟩))))); k_whole); intro x' dx' tx' kt0' kt1' kt2' kt3' km' h' tk' hk' F' N1'; (have N' := Mine.news_lift (by k_asm) N1' hk'); (clear N1' hk'); (try simp only [List.cons_append, List.nil_append] at N'); (try dsimp only)))
local macro_rules | `(tactic| walk_at "call ref") => `(tactic| (k_here; (with_reducible show wpAny _ _ (call (Value.ref 81) [Value.int 3 _, _, _, _]) _ _ _); k_dflt (refine' Mine.born3S_T _ _ _ _ _ _ _ _ _ _ _ _ _ _ _ _ _ _ _ _ _ _ _ _ _ _ _ _ _ _ ?kB ?kF ?kX ?kT ?kk ?kd ?ku ?r1 ?sn ?r2 ?_; (case sn => with_reducible assumption); (case kB => k_asm); (case kF => k_asm); (case kX => k_asm); (case kT => k_asm); (case kk => first | exact rfl | assumption); (case kd => ktr_room); (case ku => ktr_units); (case r1 => ((refine' Mine.ReprIn.at ?ra ?rb ?rc); (case ra => with_reducible assumption); (case rb => k_asm); (case rc => (repeat (first | exact List.forall_mem_nil _ | refine List.forall_mem_cons.mpr ⟨by k_mem, ?_⟩))))); (case r2 => ((refine' Mine.ReprIn.at ?ra ?rb ?rc); (case ra => with_reducible assumption); (case rb => k_asm); (case rc => (repeat (first | exact List.forall_mem_nil _ | refine List.forall_mem_cons.mpr ⟨by k_mem, ?_⟩))))); k_whole); intro x' dx' tx' kt0' kt1' kt2' kt3' km' h' tk' hk' F' N1'; (have N' := Mine.news_lift (by k_asm) N1' hk'); (clear N1' hk'); (try simp only [List.cons_append, List.nil_append] at N'); (try dsimp only)))
local macro_rules | `(tactic| walk_at "call ref") => `(tactic| (k_here; (with_reducible show wpAny _ _ (call (Value.ref 81) [Value.int 0 _, _, Value.none, _]) _ _ _); k_dflt (refine' Mine.born0N_T _ _ _ _ _ _ _ _ _ _ _ _ _ _ _ _ _ _ _ _ _ _ _ _ _ _ _ _ _ ?kB ?kF ?kX ?kT ?kk ?kd ?ku ?r1 ?_; (case kB => k_asm); (case kF => k_asm); (case kX => k_asm); (case kT => k_asm); (case kk => first | exact rfl | assumption); (case kd => ktr_room); (case ku => ktr_units); (case r1 => ((refine' Mine.ReprIn.at ?ra ?rb ?rc); (case ra => with_reducible assumption); (case rb => k_asm); (case rc => (repeat (first | exact List.forall_mem_nil _ | refine List.forall_mem_cons.mpr ⟨by k_mem, ?_⟩))))); k_whole); intro x' dx' tx' kt0' kt1' kt2' kt3' km' h' tk' hk' F' N1'; (have N' := Mine.news_lift (by k_asm) N1' hk'); (clear N1' hk'); (try simp only [List.cons_append, List.nil_append] at N'); (try dsimp only)))
local macro_rules | `(tactic| walk_at "call ref") => `(tactic| (k_here; (with_reducible show wpAny _ _ (call (Value.ref 81) [Value.int 1 _, _, Value.none, _]) _ _ _); k_dflt (refine' Mine.born1N_T _ _ _ _ _ _ _ _ _ _ _ _ _ _ _ _ _ _ _ _ _ _ _ _ _ _ _ _ _ ?kB ?kF ?kX ?kT ?kk ?kd ?ku ?r1 ?_; (case kB => k_asm); (case kF => k_asm); (case kX => k_asm); (case kT => k_asm); (case kk => first | exact rfl | assumption); (case kd => ktr_room); (case ku => ktr_units); (case r1 => ((refine' Mine.ReprIn.at ?ra ?rb ?rc); (case ra => with_reducible assumption); (case rb => k_asm); (case rc => (repeat (first | exact List.forall_mem_nil _ | refine List.forall_mem_cons.mpr ⟨by k_mem, ?_⟩))))); k_whole); intro x' dx' tx' kt0' kt1' kt2' kt3' km' h' tk' hk' F' N1'; (have N' := Mine.news_lift (by k_asm) N1' hk'); (clear N1' hk'); (try simp only [List.cons_append, List.nil_append] at N'); (try dsimp only)))
local macro_rules | `(tactic| walk_at "call ref") => `(tactic| (k_here; (with_reducible show wpAny _ _ (call (Value.ref 81) [Value.int 2 _, _, Value.none, _]) _ _ _); k_dflt (refine' Mine.born2N_T _ _ _ _ _ _ _ _ _ _ _ _ _ _ _ _ _ _ _ _ _ _ _ _ _ _ _ _ _ ?kB ?kF ?kX ?kT ?kk ?kd ?ku ?r1 ?_; (case kB => k_asm); (case kF => k_asm); (case kX => k_asm); (case kT => k_asm); (case kk => first | exact rfl | assumption); (case kd => ktr_room); (case ku => ktr_units); (case r1 => ((refine' Mine.ReprIn.at ?ra ?rb ?rc); (case ra => with_reducible assumption); (case rb => k_asm); (case rc => (repeat (first | exact List.forall_mem_nil _ | refine List.forall_mem_cons.mpr ⟨by k_mem, ?_⟩))))); k_whole); intro x' dx' tx' kt0' kt1' kt2' kt3' km' h' tk' hk' F' N1'; (have N' := Mine.news_lift (by k_asm) N1' hk'); (clear N1' hk'); (try simp only [List.cons_append, List.nil_append] at N'); (try dsimp only)))
local macro_rules | `(tactic| walk_at "call ref") => `(tactic| (k_here; (with_reducible show wpAny _ _ (call (Value.ref 81) [Value.int 3 _, _, Value.none, _]) _ _ _); k_dflt (refine' Mine.born3N_T _ _ _ _ _ _ _ _ _ _ _ _ _ _ _ _ _ _ _ _ _ _ _ _ _ _ _ _ ?kB ?kF ?kX ?kT ?kk ?kd ?ku ?r1 ?_; (case kB => k_asm); (case kF => k_asm); (case kX => k_asm); (case kT => k_asm); (case kk => first | exact rfl | assumption); (case kd => ktr_room); (case ku => ktr_units); (case r1 => ((refine' Mine.ReprIn.at ?ra ?rb ?rc); (case ra => with_reducible assumption); (case rb => k_asm); (case rc => (repeat (first | exact List.forall_mem_nil _ | refine List.forall_mem_cons.mpr ⟨by k_mem, ?_⟩))))); k_whole); intro x' dx' tx' kt0' kt1' kt2' kt3' km' h' tk' hk' F' N1'; (have N' := Mine.news_lift (by k_asm) N1' hk'); (clear N1' hk'); (try simp only [List.cons_append, List.nil_append] at N'); (try dsimp only)))
local macro_rules | `(tactic| walk_at "call ref") => `(tactic| (k_here; (with_reducible show wpAny _ _ (call (Value.ref 81) [Value.int 4 _, _, Value.none, _]) _ _ _); k_dflt (refine' Mine.born4N_T _ _ _ _ _ _ _ _ _ _ _ _ _ _ _ _ _ _ _ _ _ _ _ _ _ _ _ _ ?kB ?kF ?kX ?kT ?kk ?kd ?ku ?r1 ?_; (case kB => k_asm); (case kF => k_asm); (case kX => k_asm); (case kT => k_asm); (case kk => first | exact rfl | assumption); (case kd => ktr_room); (case ku => ktr_units); (case r1 => ((refine' Mine.ReprIn.at ?ra ?rb ?rc); (case ra => with_reducible assumption); (case rb => k_asm); (case rc => (repeat (first | exact List.forall_mem_nil _ | refine List.forall_mem_cons.mpr ⟨by k_mem, ?_⟩))))); k_whole); intro x' dx' tx' kt0' kt1' kt2' kt3' km' h' tk' hk' F' N1'; (have N' := Mine.news_lift (by k_asm) N1' hk'); (clear N1' hk'); (try simp only [List.cons_append, List.nil_append] at N'); (try dsimp only)))
local macro_rules | `(tactic| walk_at "noteFrame ref") => `(tactic| (k_here; (rename RaisedN _ _ _ (Value.type "TypeError") _ _ => rkX); (refine Mine.caught2_N0 (T₁ := "ValueError") (T' := "TypeError") (by assumption) (by assumption) (by assumption) rkX (by k_asm) PyProof.Rows.Boot.«ValueError» PyProof.Rows.Boot.«TypeError» PySem.F.isExc_ValueError PySem.F.notTuple_ValueError (by rw [isSubtype_type]; kernel_rfl) PySem.F.isExc_TypeError PySem.F.notTuple_TypeError (by rw [isSubtype_type]; kernel_rfl) ?_); intro h' F' N'; (try k_sweep)))
local macro_rules | `(tactic| walk_at "noteFrame ref") => `(tactic| (k_here; (rename RaisedN _ _ _ (Value.type "ValueError") _ _ => rkX); k_caughtN0; intro h' F' N'; (try k_sweep)))
local macro_rules | `(tactic| walk_at "compareOp NotEq ref ref") => `(tactic| (k_here; k_dflt (refine' Mine.ne_txt3 ?qN ?qa ?qb ?qp ?qu ?_; (case qN => k_asm); (case qa => k_mem); (case qb => k_mem); (case qp => first | with_reducible exact Mine.ok_none (by with_reducible assumption) | with_reducible exact Mine.ok_some (by with_reducible assumption) (by with_reducible assumption)); (case qu => ktr_units); k_whole)))
local macro_rules | `(tactic| walk_at "binaryOp Mult ref int") => `(tactic| (k_here; k_dflt (refine' KMa.mul (vs := [_]) (ws := [_, _, _]) (x := 3) ?mF ?mN ?ml ?mlo ?mhi ?mz ?me ?_; (case mF => k_asm); (case mN => k_asm); (case ml => is_list); (case mlo => decide); (case mhi => decide); (case mz => exact Nat.le_of_ble_eq_true rfl); (case me => exact rfl); k_whole); intro D' h' F' N' l1; (try k_lt l1); (try k_sweep)))
local macro_rules | `(tactic| walk_at "ite") => `(tactic| (k_here; (refine Mine.ite_no (Mine.bne_self _) ?_)))
local macro_rules | `(tactic| walk_at "call type:str") => `(tactic| (k_here; (with_reducible show wpAny _ _ (call (Value.type "str") [Value.ref _]) _ _ _); k_dflt (refine' Mine.str_F ?F ?X ?I ?k1 ?k4 ?k5 ?_; (case F => k_asm); (case X => k_asm); (case I => (refine' Mine.instX ?N ?h1 ?h2; (case N => k_asm); (case h1 => k_mem); (case h2 => k_mem))); (case k1 => k_units); (case k4 => k_is); (case k5 => k_is); k_whole)))
local macro_rules | `(tactic| walk_at "call builtin:repr") => `(tactic| (k_here; (with_reducible show wpAny _ _ (call (Value.builtin "repr") [Value.ref _]) _ _ _); k_dflt (refine' repr_K ?k1 ?F ?X ?I ?k4 ?k5 ?_; (case F => k_asm); (case X => k_asm); (case I => (refine' Mine.instX ?N ?h1 ?h2; (case N => k_asm); (case h1 => k_mem); (case h2 => k_mem))); (case k1 => k_units); (case k4 => k_is); (case k5 => k_is); k_whole)))
local macro_rules | `(tactic| walk_at "call ref") => `(tactic| (k_here; (with_reducible show wpAny _ _ (call (Value.ref 74) [Value.ref _]) _ _ _); k_dflt (refine' Mine.written3_T _ _ _ _ _ _ _ _ _ _ _ _ _ _ _ _ _ _ _ _ _ _ _ _ _ _ _ _ _ _ _ _ _ _ _ _ _ _ _ _ _ _ ?kB ?kF ?kX ?kT ?kk ?kd ?ku ?N ?hm ?s1 ?s2 ?s3 ?hs ?l1 ?l2 ?l3 ?_; (case N => k_asm); (case hm => k_mem); (case s1 => first | with_reducible assumption | exact Mine.says_none3); (case s2 => first | with_reducible assumption | exact Mine.says_none3); (case s3 => first | with_reducible assumption | exact Mine.says_none3); (case hs => (repeat (first | exact List.forall_mem_nil _ | refine List.forall_mem_cons.mpr ⟨by k_mem, ?_⟩))); (case kB => k_asm); (case kF => k_asm); (case kX => k_asm); (case kT => k_asm); (case kk => first | exact rfl | assumption); (case kd => ktr_room); (case ku => ktr_units); (case l1 => first | with_reducible assumption | exact Mine.none_len); (case l2 => first | with_reducible assumption | exact Mine.none_len); (case l3 => first | with_reducible assumption | exact Mine.none_len); k_whole); intro t' h' tk' hk' F'; (have N' := Mine.news_kept hk' (by k_asm)); (clear hk'); (try dsimp only)))
set_option rowWalk.seconds 0 in
set_option maxRecDepth 100000 in
set_option maxHeartbeats 16000000 in
theorem PySem.Challenge.cw_dm0029_02_holds : PySem.Challenge.rw_dm0029_02.Holds := by
  k_with_none
  k_with "ne" => (first | exact Mine.ne_l1 (by assumption) | exact Mine.ne_l1' (by assumption) | exact Mine.ne_r1 (by assumption) | exact Mine.ne_r1' (by assumption) | exact Mine.ne_l2 (by assumption) | exact Mine.ne_l2' (by assumption) | exact Mine.ne_r2 (by assumption) | exact Mine.ne_r2' (by assumption) | exact Mine.ne_l3 (by assumption) | exact Mine.ne_l3' (by assumption) | exact Mine.ne_r3 (by assumption) | exact Mine.ne_r3' (by assumption) | exact Mine.ne_l4 (by assumption) | exact Mine.ne_l4' (by assumption) | exact Mine.ne_r4 (by assumption) | exact Mine.ne_r4' (by assumption) | exact Mine.ne_l5 (by assumption) | exact Mine.ne_l5' (by assumption) | exact Mine.ne_r5 (by assumption) | exact Mine.ne_r5' (by assumption) | exact Mine.ne_l6 (by assumption) | exact Mine.ne_l6' (by assumption) | exact Mine.ne_r6 (by assumption) | exact Mine.ne_r6' (by assumption) | exact Mine.ne_l7 (by assumption) | exact Mine.ne_l7' (by assumption) | exact Mine.ne_r7 (by assumption) | exact Mine.ne_r7' (by assumption) | exact Mine.ne_l8 (by assumption) | exact Mine.ne_l8' (by assumption) | exact Mine.ne_r8 (by assumption) | exact Mine.ne_r8' (by assumption) | exact Mine.ne_l9 (by assumption) | exact Mine.ne_l9' (by assumption) | exact Mine.ne_r9 (by assumption) | exact Mine.ne_r9' (by assumption))
  k_with "pyIter ref" => k_search (fun (pre : List Int) => True)
  exact Mine.hd (by
    k_go0
    (all_goals try k_fold)
    repeat ((fail_if_success (with_reducible show wpAny _ _ (call (Value.builtin _) [Value.int _ _, Value.int 5 _]) _ _ _)); first | (k_unfold; (try dsimp only)) | (k_end; wrow_close) | walk1 | (dsimp only; walk1) | (leave1; walk_say "STEP leave1"; try dsimp only))
    first | (k_unfold; (try dsimp only)) | (k_end; wrow_close) | walk1 | (dsimp only; walk1) | (leave1; walk_say "STEP leave1"; try dsimp only)
    · repeat ((fail_if_success (with_reducible show wpAny _ _ (call (Value.ref 88) _) _ _ _)); first | (k_unfold; (try dsimp only)) | (k_end; wrow_close) | walk1 | (dsimp only; walk1) | (leave1; walk_say "STEP leave1"; try dsimp only))
      (with_reducible rename (_ = Value.none) ∨ _ => c9)
      rcases c9 with c9 | ⟨c9, c8⟩
      · (try subst c9)
        k_steps
      (with_reducible rename (∃ _, Mine.LinIs _ _) ∨ _ => c7)
      rcases c7 with ⟨ln9, c7⟩ | ⟨u9, c7⟩ | c7
      · (try subst c7)
        k_steps
      · (try subst c7)
        k_steps
      · (try subst c7)
        k_steps
    · repeat ((fail_if_success (with_reducible show wpAny _ _ (call (Value.ref 88) _) _ _ _)); first | (k_unfold; (try dsimp only)) | (k_end; wrow_close) | walk1 | (dsimp only; walk1) | (leave1; walk_say "STEP leave1"; try dsimp only))
      (with_reducible rename (_ = Value.none) ∨ _ => c9)
      rcases c9 with c9 | ⟨c9, c8⟩
      · (try subst c9)
        k_steps
      (with_reducible rename (∃ _, Mine.LinIs _ _) ∨ _ => c7)
      rcases c7 with ⟨ln9, c7⟩ | ⟨u9, c7⟩ | c7
      · (try subst c7)
        k_steps
      · (try subst c7)
        k_steps
      · (try subst c7)
        k_steps
    · k_steps
    · k_steps
    · k_steps
    · k_steps)
