import PyProof.Rows.All
import Wide.All
import OpenK.AllK
import Wide.FinOn
import Open.Tops
import Lean
import PySem.Challenge.RW_dm0029_04
set_option Elab.async false
set_option linter.all false
set_option compiler.extract_closed false
section
open PySem PySem.W PyProof.Rows PySem.Calls PySem.Builtin PySem.Builtin.ObjectAttr PySem.Builtin.Getset_descriptor
set_option maxRecDepth 100000
set_option maxHeartbeats 4000000
namespace Mine

abbrev excObj (C tx : Addr) (dx : Option Addr) : Obj := { cls := .ref C, dict := dx, data := .fields #[.ref tx, .none, .none, .none, .bool false, .none] }
abbrev tupObj (vs : List Value) : Obj := { cls := .type "tuple", data := .seq vs.toArray }

def excMro : List Value → Bool
  | [.type a, .type b, .type c] => a == "Exception" && b == "BaseException" && c == "object"
  | .ref _ :: r => excMro r
  | _ => false
theorem excMro_has {b : Value} (hb : ([.type "Exception", .type "BaseException", .type "object"] : List Value).contains b = true) : ∀ {l : List Value}, excMro l = true → l.contains b = true
  | [.type x, .type y, .type z], e => by
    simp only [excMro, Bool.and_eq_true, beq_iff_eq] at e
    obtain ⟨⟨rfl, rfl⟩, rfl⟩ := e
    exact hb
  | .ref c :: r, e => by rw [List.contains_cons, excMro_has hb (l := r) (by cases r <;> first | exact e | cases e), Bool.or_true]
theorem excMro_not {n : String} (hb : ([.type "Exception", .type "BaseException", .type "object"] : List Value).contains (.type n) = false) : ∀ {l : List Value}, excMro l = true → l.contains (.type n) = false
  | [.type x, .type y, .type z], e => by
    simp only [excMro, Bool.and_eq_true, beq_iff_eq] at e
    obtain ⟨⟨rfl, rfl⟩, rfl⟩ := e
    exact hb
  | .ref c :: r, e => by rw [List.contains_cons, excMro_not hb (l := r) (by cases r <;> first | exact e | cases e)]; rfl
theorem excMro_refuse (self : Value) : ∀ {l : List Value}, excMro l = true → refuseLoop self "__setattr__" l = pure ()
  | [.type x, .type y, .type z], e => by
    simp only [excMro, Bool.and_eq_true, beq_iff_eq] at e
    obtain ⟨⟨rfl, rfl⟩, rfl⟩ := e
    exact PySem.F.store_Exception.passes self
  | .ref c :: r, e => by rw [refuseLoop_ref]; exact excMro_refuse self (by cases r <;> first | exact e | cases e)

def xOk (C : Addr) (cd : ClassData) (sl : Array (Option Value)) : Bool := !cd.hasDel && cd.hasDict && (sl.toList[4]?).join == some (.builtin "Exception.__new__") && cd.mro.head? == some (.ref C) && excMro cd.mro

/-- what is asked of an exception class of the text's own -/
structure XCls (K : Frag) (C : Addr) : Prop where
  obj : ∃ oc od cd sl, K.lookup C = some ⟨oc, od, .cls cd, sl⟩ ∧ xOk C cd sl = true
  call : specialIn K (.ref C) "__call__" = some (some (.builtin "type.__call__"))
  typ : instIn K (.ref C) (.type "type") = some true
  set : findIn K (.ref C) "__setattr__" = some (some (.builtin "object.__setattr__"))
  get : findIn K (.ref C) "__getattribute__" = some (some (.builtin "BaseException.__getattribute__"))
  hook : findIn K (.ref C) "__getattr__" = some none

structure MakesX (M : Model) (h : Heap) (C : Addr) : Prop where
  obj : ∃ oc od cd sl, h.get? C = some ⟨oc, od, .cls cd, sl⟩ ∧ cd.hasDel = false ∧ cd.mro.isEmpty = false
  made : Looks M h (Bind.madeBy (.ref C)) (some "Exception.__new__")
  base : Looks M h (Bind.staticBase (.ref C)) (.ref C)
  self : Looks M h (isSubtype (.ref C) (.ref C)) true
  exc : Looks M h (isSubtype (.ref C) (.type "Exception")) true
  bexc : Looks M h (isSubtype (.ref C) (.type "BaseException")) true
  noAttr : Looks M h (isSubtype (.ref C) (.type "AttributeError")) false
  noName : Looks M h (isSubtype (.ref C) (.type "NameError")) false
  call : Looks M h (specialOf (.ref C) "__call__") (some (.builtin "type.__call__"))
  typ : Looks M h (isInstance (.ref C) (.type "type")) true
theorem XCls.parts {K : Frag} {C : Addr} (x : XCls K C) : ∃ oc od cd sl, K.lookup C = some ⟨oc, od, .cls cd, sl⟩ ∧ clsIn K C = some cd ∧ cd.hasDel = false ∧ cd.hasDict = true ∧ (sl.toList[4]?).join = some (.builtin "Exception.__new__") ∧ cd.mro.isEmpty = false ∧ cd.mro.contains (.ref C) = true ∧ excMro cd.mro = true := by
  obtain ⟨⟨oc, od, cd, sl, ho, e⟩, _, _⟩ := x
  simp only [xOk, Bool.and_eq_true, Bool.not_eq_true', beq_iff_eq] at e
  obtain ⟨⟨⟨⟨e1, e2⟩, e3⟩, e4⟩, e5⟩ := e
  refine ⟨oc, od, cd, sl, ho, by unfold clsIn; rw [ho], e1, e2, e3, ?_, ?_, e5⟩
  · cases q : cd.mro with | nil => rw [q] at e4; cases e4 | cons c l => rfl
  · cases q : cd.mro with
    | nil => rw [q] at e4; cases e4
    | cons c l => rw [q] at e4; cases e4; simp
theorem makesX_of {K : Frag} {M : Model} {h : Heap} (X : K.In h) {C : Addr} (x : XCls K C) : MakesX M h C := by
  obtain ⟨oc, od, cd, sl, ho, hc, e2, ed, e3, e4, e5, ex⟩ := x.parts
  have hm : Looks M h (mroOf (.ref C)) cd.mro := (looks_clsIn X hc).andThen .now
  obtain ⟨c, l, hl⟩ : ∃ c l, cd.mro = c :: l := by cases q : cd.mro with | nil => rw [q] at e4; cases e4 | cons c l => exact ⟨c, l, rfl⟩
  have made : Looks M h (Bind.madeBy (.ref C)) (some "Exception.__new__") := by
    intro A Q E s k q
    unfold Bind.madeBy
    refine wpAny_bind (hm A _ E s k ?_)
    rw [hl, List.forIn_cons]
    refine wpAny_bind (wpAny_bind (wpAny_bind (wpAny_bind (wpAny_loadPart (k _ _ (X _ _ ho)) (wpAny_pure ?_)))))
    dsimp only
    rw [← Array.getElem?_toList, e3]
    exact wpAny_pure (wpAny_pure (wpAny_pure q))
  have sub : ∀ b, Looks M h (isSubtype (.ref C) b) (cd.mro.contains b) := fun b => looks_mroIn X (by unfold mroIn; rw [hc, Option.bind_some, if_neg (by rw [e4]; decide)])
  have has : ∀ b, ([.type "Exception", .type "BaseException", .type "object"] : List Value).contains b = true → Looks M h (isSubtype (.ref C) b) true := fun b hb => by have := sub b; rwa [excMro_has hb ex] at this
  have hasnt : ∀ n, ([.type "Exception", .type "BaseException", .type "object"] : List Value).contains (.type n) = false → Looks M h (isSubtype (.ref C) (.type n)) false := fun n hb => by have := sub (.type n); rwa [excMro_not hb ex] at this
  refine ⟨⟨oc, od, cd, sl, X _ _ ho, e2, e4⟩, made, ?_, e5 ▸ sub _, has _ (by decide), has _ (by decide), hasnt _ (by decide), hasnt _ (by decide), looks_specialIn X x.call, looks_instIn X x.typ⟩
  intro A Q E s k q
  unfold Bind.staticBase
  refine wpAny_bind (hm A _ E s k ?_)
  rw [hl, List.forIn_cons]
  exact wpAny_bind (wpAny_bind (wpAny_bind (made A _ E s k (wpAny_pure (wpAny_pure (wpAny_pure q))))))

section
variable {prog : Program} {w : World} {A : Around} {K : Frag} {C : Addr} {R : Result → Shared → Prop} {h : Heap} {g : Array GenState} {d : Drawn} {t : Nat} {os : OsState}

theorem check_X {M : Model} (Y : MakesX M h C) {Q : Unit → Shared → Prop} {E : Value → Shared → Prop} {rest : List Value} {kw : List (Str × Value)} (q : Q () ⟨h, g, d, t, os⟩) :
    wpAny M A (checkBuiltinCall "Exception.__new__" ⟨.ref C :: rest, kw⟩) Q E ⟨h, g, d, t, os⟩ := by
  have F := PySem.F.excBase_Exception
  obtain ⟨⟨oc, od, cd, sl, hC, e2, e4⟩, made, base, self, exc, bexc, na, nn, call, typ⟩ := Y
  have hstar := F.noStar
  simp only [checkBuiltinCall, F.newKind, F.newSplit, F.newRow]
  repeat (first | simp only [bne_self_eq_false, Bool.false_eq_true, if_false] | lk)
  exact q
theorem new_X {rest : List Value} {kw : List (Str × Value)} (Y : MakesX (model prog w) h C) (hrest : rest.length ≤ sizeLine)
    (hq : R (.ok (.ret (.ref (h.objs.size + 1)))) ⟨(h.push (tupObj rest)).push (excObj C h.objs.size none), g, d, t, os⟩) :
    codeAny (model prog w) A (.call (.builtin "Exception.__new__") ⟨.ref C :: rest, kw⟩) R ⟨h, g, d, t, os⟩ := by
  have F := PySem.F.excBase_Exception
  refine codeAny_call_builtin_code (Code.quiet_builtin _ F.quiet) (check_X Y ?_)
  have hends := F.ends
  refine codeAny_builtinAt F.entry ?_
  unfold Builtin.«BaseException.__new__»
  refine PySem.wpAt_bind ?_
  show PySem.wpAt _ _ _ (stack >>= _) _ _ _
  refine PySem.wpAt_bind (PySem.wpAt_stack fun p below => PySem.wpAt_of_wpAny ?_)
  wp_walk
  refine PySem.wpAt_of_wpAny ?_
  rw [F.owner]
  obtain ⟨⟨oc, od, cd, sl, hC, e2, e4⟩, made, base, self, exc, bexc, na, nn, call, typ⟩ := Y
  have hm : Looks (model prog w) h (Bind.madeHere "BaseException.__new__" (.ref C)) () := base.andThen (made.andThen (Looks.of_pure (by simp only [Option.map_some, F.canon, bne_self_eq_false, Bool.false_eq_true, if_false])))
  have hsz : ¬ (rest.toArray.size > sizeLine) := by rw [List.size_toArray]; omega
  repeat (first | simp only [Bool.false_eq_true, if_false, Bool.not_true] | rw [if_neg hsz] | lk)
  refine nd_load (Heap.get?_push_of_some _ (Heap.get?_push_of_some _ hC)) ?_
  repeat (first | simp only [e2, Bool.false_eq_true, if_false] | lk)
  rw [Heap.size_push]
  exact hq

theorem make_X_core {rest : List Value} {kw : List (Str × Value)} {init : Value} (Y : MakesX (model prog w) h C) (hrest : rest.length ≤ sizeLine) (hi : Looks (model prog w) h (typeLookup (.ref C) "__init__") (some init))
    (hb : ∀ self, Looks (model prog w) h (bindSpecial init self) (init, [self]))
    (hq : codeAny (model prog w) (A.under (.builtin "type.__call__" ⟨.ref C :: rest, kw⟩)) (.call init ⟨.ref (h.objs.size + 1) :: rest, kw⟩) (InitBack (h.objs.size + 1) R) ⟨(h.push (tupObj rest)).push (excObj C h.objs.size none), g, d, t, os⟩) :
    codeAny (model prog w) A (.call (.ref C) ⟨rest, kw⟩) R ⟨h, g, d, t, os⟩ := by
  have Y' := Y
  obtain ⟨⟨oc, od, cd, sl, hC, e2, e4⟩, made, base, self, exc, bexc, na, nn, call, typ⟩ := Y
  refine codeAny_of_tree ?_
  show wpAny _ _ (callAny (.ref C) _) _ _ _
  refine nd_load hC ?_
  show wpAny _ _ (callAny.viaDunder (.ref C) _) _ _ _
  unfold callAny.viaDunder
  refine wpAny_bind (call.at ?_)
  dsimp only
  rw [tc_bind]
  refine wpAny_bind (wpAny_pure (wpAny_bind (wpAny_pure ?_)))
  refine wpAny_pure (a := Fin.again (.call (.builtin "type.__call__") ⟨.ref C :: rest, kw⟩)) (And.intro rfl ?_)
  refine codeAny_call_builtin_at (Code.quiet_builtin _ (by decide +kernel)) entry_typeCall (check_slot tc_kind tc_split typ (tc_args _ _ _) ?_)
  unfold Builtin.«type.__call__»
  have hm : Looks (model prog w) h (mroOf (.ref C)) cd.mro := ((Looks.ld (part := none) hC).andThen .now).andThen .now
  repeat (first | simp only [e4, Bool.false_eq_true, if_false] | with_reducible refine wpAny_call ?_ | lk)
  refine new_X Y' hrest ?_
  have k : ∀ b o, h.get? b = some o → ((h.push (tupObj rest)).push (excObj C h.objs.size none)).get? b = some o := fun b o e => Heap.get?_push_of_some _ (Heap.get?_push_of_some _ e)
  have hx : ((h.push (tupObj rest)).push (excObj C h.objs.size none)).get? (h.objs.size + 1) = some (excObj C h.objs.size none) := by heap_get
  have t1 : Looks (model prog w) ((h.push (tupObj rest)).push (excObj C h.objs.size none)) (typeOf (.ref (h.objs.size + 1))) (.ref C) := (Looks.ld hx).andThen .now
  have s1 := self.keeps k
  have i1 := hi.keeps k
  have b1 := (hb (.ref (h.objs.size + 1))).keeps k
  unfold isInstance callSpecial? specialOf
  repeat (first | with_reducible refine wpAny_call ?_ | lk)
  refine codeAny_mono hq fun r s' z => ?_
  rcases r with e | (v | _ | _ | _) <;> first | exact z | exact z.elim | skip
  obtain ⟨rfl, z⟩ := z
  exact wpAny_pure (wpAny_pure z)
end

section
variable {prog : Program} {w : World} {A : Around} {K : Frag} {C x : Addr} {s : Shared} {h₀ : Heap} {L : Addr} {m : Str → Option Value} {news : List (Addr × Obj)} {R : Result → Shared → Prop}
end

section
variable {prog : Program} {w : World} {A : Around} {K : Frag} {C x L : Addr} {s : Shared} {h₀ : Heap} {m : Str → Option Value} {news news' : List (Addr × Obj)} {R : Result → Shared → Prop} {name : Str} {tk : Tok} {v : Value} {ox : Obj} {od : Option Obj}

theorem osa_openX {r : Option Value} (X : K.In s.heap) (I : InstAt s.heap x ox C od) (hx : XCls K C) (ht : takerIn K C name = some r)
    (h : ∀ b, wpAny (model prog w) A.in1 (match r with | some a => setByDescriptor a (.ref x) v | none => storeInOwnDict (.ref x) (.ref C) (.str name tk) name v b)
      (fun fin s' => match fin with | .done f => R (.ok f) s' | .again c' => c'.quiet = true ∧ codeAny (model prog w) A c' R s') (fun e s' => R (.error e) s') s) :
    codeAny (model prog w) A (.call (.builtin "object.__setattr__") ⟨[.ref x, .str name tk, v], []⟩) R s := by
  have SF := PySem.F.store_object
  obtain ⟨oc, odd, cd, sl, ho, hc, e2, ed, e3, ne, e5, ex⟩ := hx.parts
  have sub : Looks (model prog w) s.heap (isInstance (.ref x) (.type "object")) true := I.type.andThen (looks_mroIn X (by unfold mroIn; rw [hc, Option.bind_some, if_neg (by rw [ne]; decide), excMro_has (by decide) ex]))
  refine codeAny_call_builtin SF.slot.plain SF.entry (@check_slot (model prog w) _ _ s "object.__setattr__" "object" "__setattr__" (.ref x) [.str name tk, v] [] _ SF.kind SF.split sub (SF.args (.ref x) (.str name tk) v) ?_)
  obtain ⟨attr, ha, hr⟩ := Option.bind_eq_some_iff.mp ht
  have hm : Looks (model prog w) s.heap (mroOf (.ref C)) cd.mro := (looks_clsIn X hc).andThen .now
  have L3 : Looks (model prog w) s.heap (storeTaker? attr) r := by
    cases attr with
    | none => cases hr; exact .now
    | some a =>
      obtain ⟨b, hb, rfl⟩ := Option.map_eq_some_iff.mp hr
      refine (looks_takesIn X hb).andThen ?_
      cases b <;> exact .now
  rw [osa_eq, refuse_eq]
  refine wpAny_bind (wpAny_bind (I.type.here (wpAny_bind (hm.here ?_))))
  rw [excMro_refuse _ ex]
  refine wpAny_pure (wpAny_bind (I.type.here (wpAny_bind ((looks_findIn X ha).here (wpAny_bind (L3.here ?_))))))
  exact h _

theorem osa_dictX {od od' : Obj} {dx : Addr} {pre post : List (Addr × Obj)} {es : List DictEntry} {n : Nat} (F : Fr h₀ L s.heap m) (N : News h₀ L s.heap (pre ++ (dx, od) :: post)) (X : K.In s.heap)
    (I : InstAt s.heap x ox C (some od)) (hd : ox.dict = some dx) (hx : XCls K C) (ht : takerIn K C name = some none)
    (hl : (lookIn name od).isSome = true) (h1 : ∀ p ∈ pre, p.1 ≠ dx) (h2 : ∀ p ∈ post, p.1 ≠ dx)
    (e : Obj.putName name (PyData.keyHash w.params name) (.str name s.toks) v od = od') (e' : od'.data = .dict es.toArray n) (hz : es.length ≤ 1000)
    (h : ∀ h', Fr h₀ L h' m → News h₀ L h' (pre ++ (dx, od') :: post) → R (.ok (.ret .none)) { s with heap := h', toks := s.toks + 1 }) :
    codeAny (model prog w) A (.call (.builtin "object.__setattr__") ⟨[.ref x, .str name tk, v], []⟩) R s := by
  refine osa_openX X I hx ht fun b => ?_
  obtain ⟨oc, odd, cd, sl, ho, hc, e2, hd', e3, ne, e5, ex⟩ := hx.parts
  obtain ⟨U1, U2⟩ := news_upd (f := Obj.putName name (PyData.keyHash w.params name) (.str name s.toks) v) F N h1 h2 e (by obtain ⟨_, _, dd, _⟩ := od'; cases e'; rfl)
  have D := (N (dx, od) (by simp)).1
  have D' := (U2 (dx, od') (by simp)).1
  obtain ⟨hx, hcl, hn, -⟩ := I
  obtain ⟨oc, odi, oda, osl⟩ := ox
  dsimp only at hcl hd
  subst hcl hd
  refine wpAny_bind (wpAny_pure (wpAny_bind (wpAny_bind (wpAny_loadPart hx (wpAny_bind ((looks_clsIn X hc).here ?_))))))
  rw [hd']
  refine wpAny_pure (a := some dx) (wpAny_bind (wpAny_pure (wpAny_bind ?_)))
  unfold nsSet
  refine wpAny_bind (wpAny_bind (wpAny_askSetting (wpAny_pure (wpAny_bind (wpAny_mkText (wpAny_bind (wpAny_loadPart D ?_)))))))
  unfold lookIn at hl
  split at hl
  · rename_i es₀ n₀ q
    rw [q]
    dsimp only
    have c : (!es₀.any (·.key.isStr name) && es₀.any (·.refKey)) = false := by
      rw [← Array.any_toList, ← Array.any_toList]
      split at hl
      · rename_i en he
        rw [List.any_eq_true.mpr ⟨en, List.mem_of_find?_eq_some he, List.find?_some he⟩]; rfl
      · split at hl
        · cases hl
        · rename_i z; rw [Bool.not_eq_true] at z; rw [z, Bool.and_false]
    rw [aRefKeyMayBeTheName_at, c]
    refine wpAny_updatePart D ?_
    refine wpAny_bind (wpAny_lookBehind D' (by rw [e']; exact pastItsLine_dict (by rw [List.size_toArray, sizeLine_eq]; omega)) ?_)
    exact wpAny_pure (h _ U1 U2)
  · cases hl
end
end Mine
end
section
open PySem PySem.W PyProof.Rows PySem.Calls PySem.Builtin PySem.Builtin.ObjectAttr PySem.Builtin.Getset_descriptor
set_option maxRecDepth 100000
set_option maxHeartbeats 4000000
namespace Mine
section
variable {prog : Program} {w : World} {A : Around} {K : Frag} {C x L : Addr} {s : Shared} {h₀ : Heap} {m : Str → Option Value} {news news' : List (Addr × Obj)} {R : Result → Shared → Prop} {name : Str} {tk : Tok} {v : Value} {ox : Obj} {od : Option Obj}

abbrev xObj (C : Addr) (dx : Option Addr) (vs : Array Value) : Obj := { cls := .ref C, dict := dx, data := .fields vs }

theorem osa_newX {vs : Array Value} {pre post : List (Addr × Obj)} (F : Fr h₀ L s.heap m) (N : News h₀ L s.heap (pre ++ (x, xObj C none vs) :: post)) (X : K.In s.heap)
    (hx : XCls K C) (ht : takerIn K C name = some none)
    (h1 : ∀ p ∈ pre, p.1 ≠ x) (h2 : ∀ p ∈ post, p.1 ≠ x)
    (h : ∀ dx h', Fr h₀ L h' m → News h₀ L h' ((dx, dictOf [⟨PyData.keyHash w.params name, .str name s.toks, v⟩] 1) :: (pre ++ (x, xObj C (some dx) vs) :: post)) → (∀ p ∈ pre ++ (x, xObj C none vs) :: post, p.1 < dx) → R (.ok (.ret .none)) { s with heap := h', toks := s.toks + 1 }) :
    codeAny (model prog w) A (.call (.builtin "object.__setattr__") ⟨[.ref x, .str name tk, v], []⟩) R s := by
  have Dx := (N (x, xObj C none vs) (by simp)).1
  have I : PySem.W.InstAt s.heap x (xObj C none vs) C none := ⟨Dx, rfl, rfl, trivial⟩
  refine osa_openX X I hx ht fun b => ?_
  obtain ⟨oc, odd, cd, sl, ho, hc, e2, hd', e3, ne, e5, ex⟩ := hx.parts
  obtain ⟨hh, g, d, t, os⟩ := s
  dsimp only at F N X h Dx I ⊢
  have hlt : ∀ p ∈ pre ++ (x, xObj C none vs) :: post, p.1 < hh.objs.size := fun p hp => Heap.lt_size (N p hp).1
  have hxlt : x < hh.objs.size := Heap.lt_size Dx
  have F1 := F.push emptyDict
  have N1 := N.push F emptyDict
  have F2N2 := news_upd (f := fun o => { o with dict := some hh.objs.size }) (pre := (hh.objs.size, emptyDict) :: pre) F1 N1
    (fun p hp => by
      rcases List.mem_cons.mp hp with rfl | hp
      · exact Nat.ne_of_gt hxlt
      · exact h1 p hp) h2 (o' := xObj C (some hh.objs.size) vs) rfl rfl
  obtain ⟨F2, N2⟩ := F2N2
  have N2' : News h₀ L ((hh.push emptyDict).update x fun o => { o with dict := some hh.objs.size }) ([] ++ (hh.objs.size, emptyDict) :: (pre ++ (x, xObj C (some hh.objs.size) vs) :: post)) := N2
  obtain ⟨U1, U2⟩ := news_upd (f := Obj.putName name (PyData.keyHash w.params name) (.str name t) v) F2 N2' (fun p hp => (nomatch hp))
    (fun p hp => Nat.ne_of_lt (by
      rcases List.mem_append.mp hp with hp | hp
      · exact hlt p (List.mem_append_left _ hp)
      · rcases List.mem_cons.mp hp with rfl | hp
        · exact hxlt
        · exact hlt p (List.mem_append_right _ (.tail _ hp)))) (o' := dictOf [⟨PyData.keyHash w.params name, .str name t, v⟩] 1) (putName_dict name _ _ v [] 0) rfl
  have D := (N2' (hh.objs.size, emptyDict) (by simp)).1
  have D' := (U2 (hh.objs.size, dictOf [⟨PyData.keyHash w.params name, .str name t, v⟩] 1) (by simp)).1
  have Dx1 : (hh.push emptyDict).get? x = some (xObj C none vs) := Heap.get?_push_of_some _ Dx
  refine wpAny_bind (wpAny_pure (wpAny_bind (wpAny_bind (wpAny_loadPart Dx (wpAny_bind ((looks_clsIn X hc).here ?_))))))
  rw [hd']
  refine wpAny_bind (wpAny_alloc' (wpAny_bind (wpAny_update' Dx1 (wpAny_bind (wpAny_pure (wpAny_pure ?_))))))
  show wpAny _ _ (storeInDict hh.objs.size (.str name tk) name v) _ _ _
  unfold storeInDict newKeyGuard
  refine wpAny_bind (wpAny_pure (wpAny_bind ?_))
  unfold nsSet
  refine wpAny_bind (wpAny_bind (wpAny_askSetting (wpAny_pure (wpAny_bind (wpAny_mkText (wpAny_bind (wpAny_loadPart D ?_)))))))
  dsimp only
  have c : (!(#[] : Array DictEntry).any (·.key.isStr name) && (#[] : Array DictEntry).any (·.refKey)) = false := by simp
  rw [aRefKeyMayBeTheName_at, c]
  refine wpAny_updatePart D ?_
  refine wpAny_bind (wpAny_lookBehind D' (pastItsLine_dict (by simp)) ?_)
  exact wpAny_pure (h _ _ U1 U2 hlt)
end
end Mine
end
section
open PySem PySem.W PyProof.Rows PySem.Calls PySem.Builtin PySem.Builtin.ObjectAttr PySem.Builtin.Getset_descriptor
set_option maxRecDepth 100000
set_option maxHeartbeats 4000000
namespace Mine
namespace XF
theorem entry_gs_set : entryFor table "getset_descriptor.__set__" = some Builtin.«getset_descriptor.__set__» := entryFor_of_tree (by kernel_rfl)
theorem args_gs_set (a b c : Value) : argsOk "getset_descriptor.__set__" ⟨[a, b, c], []⟩ := by unfold argsOk; kernel_rfl
theorem entry_args_set : entryFor table "BaseException.args#set" = some Builtin.«BaseException.args#set» := entryFor_of_tree (by kernel_rfl)
theorem looks_type {M : Model} {h : Heap} : Looks M h (typeOf (.builtin "BaseException.args")) (.type "getset_descriptor") := by
  rw [PySem.F.typeOf_bexc_args]; exact .now
end XF
abbrev excF (a0 : Value) : Array Value := #[a0, .none, .none, .none, .bool false, .none]
section
variable {prog : Program} {w : World} {A : Around} {K : Frag} {C x L : Addr} {s : Shared} {h₀ : Heap} {m : Str → Option Value} {news news' : List (Addr × Obj)} {R : Result → Shared → Prop} {name : Str} {tk : Tok} {v : Value} {ox : Obj} {od : Option Obj} {E : Value → Shared → Prop}

/-- the field 0 of an exception is put anew -/
theorem bexcPut0 {a0 v : Value} {dx : Option Addr} {pre post : List (Addr × Obj)} {Q : Unit → Shared → Prop} (F : Fr h₀ L s.heap m) (N : News h₀ L s.heap (pre ++ (x, xObj C dx (excF a0)) :: post))
    (h1 : ∀ p ∈ pre, p.1 ≠ x) (h2 : ∀ p ∈ post, p.1 ≠ x) (h : ∀ h', Fr h₀ L h' m → News h₀ L h' (pre ++ (x, xObj C dx (excF v)) :: post) → Q () { s with heap := h' }) :
    wpAny (model prog w) A (Builtin.BaseException.bexcPut (.ref x) 0 v []) Q E s := by
  have Dx := (N (x, xObj C dx (excF a0)) (by simp)).1
  obtain ⟨F1, N1⟩ := news_upd (f := Obj.mapFields (·.setIfInBounds 0 v)) F N h1 h2 (o' := xObj C dx (excF v)) rfl rfl
  unfold Builtin.BaseException.bexcPut
  refine wpAny_bind (wpAny_field Dx rfl (by rfl) ?_)
  unfold setField updateField
  refine wpAny_bind (wpAny_bind (wpAny_load Dx ?_))
  dsimp only
  rw [if_pos (show 0 < (excF a0).size from Nat.zero_lt_succ _)]
  refine wpAny_update' Dx ?_
  have key : Q () { s with heap := s.heap.update x (Obj.mapFields fun x => x.setIfInBounds 0 v) } := h _ F1 N1
  cases a0 <;> first | exact wpAny_pure key | exact wpAny_letGo key

theorem args_setX {a0 : Value} {t : Addr} {items : Array Value} {dx : Option Addr} {pre post : List (Addr × Obj)} (F : Fr h₀ L s.heap m) (N : News h₀ L s.heap (pre ++ (x, xObj C dx (excF a0)) :: post)) (X : K.In s.heap) (hx : XCls K C)
    (I : PySem.W.InstAt s.heap x (xObj C dx (excF a0)) C od) (ht : takerIn K C "args" = some (some (.builtin "BaseException.args"))) (hi : IsTup s.heap t items)
    (h1 : ∀ p ∈ pre, p.1 ≠ x) (h2 : ∀ p ∈ post, p.1 ≠ x)
    (h : ∀ h', Fr h₀ L h' m → News h₀ L h' (pre ++ (x, xObj C dx (excF (.ref t))) :: post) → R (.ok (.ret .none)) { s with heap := h' }) :
    codeAny (model prog w) A (.call (.builtin "object.__setattr__") ⟨[.ref x, .str "args" tk, .ref t], []⟩) R s := by
  have Y := makesX_of (M := model prog w) X hx
  have hT : Looks (model prog w) s.heap (isInstance (.ref x) (.type "BaseException")) true := I.type.andThen Y.bexc
  refine osa_openX X I hx ht fun b => ?_
  show wpAny _ _ (setByDescriptor _ _ _) _ _ _
  unfold setByDescriptor callSpecial? specialOf
  refine wpAny_bind (wpAny_rule (wpAny_bind (wpAny_holding (wpAny_bind (wpAny_bind (XF.looks_type.here ((Looks.of_pure PySem.F.slot_gs_set.lookup).here ?_)))))))
  refine wpAny_holding ?_
  rw [PySem.F.slot_gs_set.bind]
  refine wpAny_bind (wpAny_pure (wpAny_bind (wpAny_call ?_)))
  have hT5 : s.TypeIs (.builtin "BaseException.args") "getset_descriptor" := PySem.F.typeOf_bexc_args
  refine codeAny_call_builtin PySem.F.slot_gs_set.plain XF.entry_gs_set (PySem.F.slot_gs_set.check _ _ _ _ _ _ _ _ hT5 (XF.args_gs_set _ _ _) ?_)
  obtain ⟨hh, g, d, tk', os⟩ := s
  dsimp only at F N X h hT hi I ⊢
  unfold Builtin.«getset_descriptor.__set__» descrSet descrStoreThrough descrCheckInstance descrNameAndClass descrItself
  have hT' : Looks (model prog w) hh (isInstance (.ref x) (.type (".".intercalate ("BaseException.args".cutAt '.').dropLast))) true := by rw [PySem.F.owner_bexc_args]; exact hT
  repeat lk
  have es : "BaseException.args" ++ "#set" = "BaseException.args#set" := by decide +kernel
  rw [es]
  refine ⟨Code.quiet_builtin _ (by decide +kernel), codeAny_builtin XF.entry_args_set ?_⟩
  unfold Builtin.«BaseException.args#set»
  refine wpAny_bind (call_tuple_tup hi ?_)
  refine wpAny_bind (bexcPut0 (s := ⟨hh, g, d, tk', os⟩) F N h1 h2 fun h' F' N' => ?_)
  exact wpAny_pure (wpAny_pure (wpAny_pure (h h' F' N')))
end
end Mine
end
section
open PySem PySem.W PyProof.Rows PySem.Calls PySem.Builtin PySem.Builtin.ObjectAttr PySem.Builtin.Getset_descriptor
set_option maxRecDepth 100000
set_option maxHeartbeats 4000000
namespace Mine
theorem upd_det {d : Addr} {o o' : Obj} : ∀ {l l' : List (Addr × Obj)}, Upd d o o' l l' → ∀ {pre post}, l = pre ++ (d, o) :: post → (∀ p ∈ pre, p.1 ≠ d) → l' = pre ++ (d, o') :: post
  | _, _, .head (r := r) _, pre, post, e, hp => by
    cases pre with
    | nil => cases e; rfl
    | cons q pre => cases e; exact absurd rfl (hp _ (.head _))
  | _, _, .tail (p := p) hn u, pre, post, e, hp => by
    cases pre with
    | nil => cases e; exact absurd rfl hn
    | cons q pre =>
      cases e
      rw [upd_det u rfl fun x hx => hp x (.tail _ hx)]
      rfl
theorem upd_mem {d : Addr} {o o' : Obj} : ∀ {l l' : List (Addr × Obj)}, Upd d o o' l l' → (d, o) ∈ l
  | _, _, .head _ => .head _
  | _, _, .tail _ u => .tail _ (upd_mem u)
section
variable {prog : Program} {w : World} {A : Around} {K : Frag} {C x L : Addr} {s : Shared} {h₀ : Heap} {m : Str → Option Value} {news : List (Addr × Obj)} {news' : Addr → List (Addr × Obj)} {R : Result → Shared → Prop} {name : Str} {tk : Tok} {v : Value} {ox : Obj} {od : Option Obj} {E : Value → Shared → Prop}

theorem set_newK {vs : Array Value} {Q : Unit → Shared → Prop} (F : Fr h₀ L s.heap m) (X₀ : K.In h₀) (N : News h₀ L s.heap news) (hx : XCls K C) (ht : takerIn K C name = some none)
    (U : ∀ dx, Upd x (xObj C none vs) (xObj C (some dx) vs) news (news' dx))
    (h : ∀ dx h', Fr h₀ L h' m → News h₀ L h' ((dx, dictOf [⟨PyData.keyHash w.params name, .str name (s.toks + 1), v⟩] 1) :: news' dx) → (∀ p ∈ news, p.1 < dx) → Q () { s with heap := h', toks := s.toks + 2 }) :
    wpAny (model prog w) A (setAttr (.ref x) name v) Q E s := by
  have X := X₀.keeps F.keep
  have Dx := (N _ (upd_mem (U 0))).1
  have I : PySem.W.InstAt s.heap x (xObj C none vs) C none := ⟨Dx, rfl, rfl, trivial⟩
  obtain ⟨pre, post, e1, _, a, b⟩ := (U 0).split
  refine set_plain X I hx.set ?_
  subst e1
  refine osa_newX (s := { s with toks := s.toks + 1 }) F N X hx ht a b fun dx h' F' N' l => ?_
  refine h dx h' F' ?_ l
  rw [upd_det (U dx) rfl a]
  exact N'

theorem set_dictK {news' : List (Addr × Obj)} {dx : Addr} {es es' : List DictEntry} {n n' : Nat} {Q : Unit → Shared → Prop} (F : Fr h₀ L s.heap m) (X₀ : K.In h₀) (N : News h₀ L s.heap news) (I : PySem.W.InstAt s.heap x ox C (some (dictOf es n))) (hd : ox.dict = some dx)
    (hx : XCls K C) (ht : takerIn K C name = some none) (hl : (getL name es).isSome = true)
    (e : (putL name (PyData.keyHash w.params name) (.str name (s.toks + 1)) v es, putN name es n) = (es', n')) (U : Upd dx (dictOf es n) (dictOf es' n') news news') (hz : es'.length ≤ 1000)
    (h : ∀ h', Fr h₀ L h' m → News h₀ L h' news' → Q () { s with heap := h', toks := s.toks + 2 }) :
    wpAny (model prog w) A (setAttr (.ref x) name v) Q E s := by
  obtain ⟨pre, post, rfl, rfl, a, b⟩ := U.split
  obtain ⟨e1, e2⟩ := Prod.mk.inj e
  exact set_plain (X₀.keeps F.keep) I hx.set (osa_dictX (s := { s with toks := s.toks + 1 }) F N (X₀.keeps F.keep) I hd hx ht hl a b (by rw [putName_dict, e1, e2]) rfl hz fun h' F' N' => h h' F' N')

theorem set_argsK {news' : List (Addr × Obj)} {dx : Option Addr} {a0 : Value} {t : Addr} {items : Array Value} {Q : Unit → Shared → Prop} (F : Fr h₀ L s.heap m) (X₀ : K.In h₀) (N : News h₀ L s.heap news) (I : PySem.W.InstAt s.heap x (xObj C dx (excF a0)) C od)
    (hx : XCls K C) (ht : takerIn K C "args" = some (some (.builtin "BaseException.args"))) (hi : IsTup s.heap t items) (U : Upd x (xObj C dx (excF a0)) (xObj C dx (excF (.ref t))) news news')
    (h : ∀ h', Fr h₀ L h' m → News h₀ L h' news' → Q () { s with heap := h', toks := s.toks + 1 }) :
    wpAny (model prog w) A (setAttr (.ref x) "args" (.ref t)) Q E s := by
  obtain ⟨pre, post, rfl, rfl, a, b⟩ := U.split
  exact set_plain (X₀.keeps F.keep) I hx.set (args_setX (s := { s with toks := s.toks + 1 }) F N (X₀.keeps F.keep) hx I ht hi a b fun h' F' N' => h h' F' N')

theorem init_K {dx : Option Addr} {a0 : Value} {rest : List Value} {Q : Value → Shared → Prop} (F : Fr h₀ L s.heap m) (X₀ : K.In h₀) (N : News h₀ L s.heap news) (hx : XCls K C) (hrest : rest.length ≤ 1000)
    (U : ∀ tx, Upd x (xObj C dx (excF a0)) (xObj C dx (excF (.ref tx))) news (news' tx))
    (h : ∀ tx h', Fr h₀ L h' m → News h₀ L h' ((tx, tupObj rest) :: news' tx) → (∀ p ∈ news, p.1 < tx) → Q .none { s with heap := h' }) :
    wpAny (model prog w) A (call (.builtin "Exception.__init__") (.ref x :: rest)) Q E s := by
  have X := X₀.keeps F.keep
  have EF := PySem.F.excBase_Exception
  have Y := makesX_of (M := model prog w) X hx
  have Dx := (N _ (upd_mem (U 0))).1
  have hT : Looks (model prog w) s.heap (isInstance (.ref x) (.type "Exception")) true := ((Looks.ld Dx).andThen .now).andThen Y.exc
  obtain ⟨pre, post, e1, _, a, b⟩ := (U 0).split
  subst e1
  have hlt : ∀ p ∈ pre ++ (x, xObj C dx (excF a0)) :: post, p.1 < s.heap.objs.size := fun p hp => Heap.lt_size (N p hp).1
  have hxlt : x < s.heap.objs.size := Heap.lt_size Dx
  refine wpAny_call (codeAny_call_builtin EF.init.plain EF.initEntry ?_)
  have hshort := EF.noStar
  simp only [checkBuiltinCall, EF.initKind, EF.initSplit, EF.initRow]
  obtain ⟨hh, g, d, tk', os⟩ := s
  dsimp only at F N X h hT Dx hlt hxlt ⊢
  obtain ⟨oc, odd, cd, sl, ho, hc, e2, ed, e3, ne, e5, ex⟩ := hx.parts
  have LC := X _ _ ho
  refine wpAny_bind (hT.at ?_)
  repeat (first | simp only [Bool.false_eq_true, if_false, Bool.not_true] | rw [show ∀ (a b : String) (n : Nat), Bind.check ⟨.positional, "*", "Exception", .self, [⟨"args", .varPos, false⟩]⟩ a b n (List.map (fun x => x.fst) ({ pos := Value.ref x :: rest } : Args).kw) = pure () from fun a b n => check_star_args _ _ _ _ _ _] | lk)
  rw [if_neg (by rw [List.size_toArray, sizeLine_eq]; omega)]
  refine wpAny_bind (wpAny_alloc' (wpAny_pure ?_))
  have F1 := F.push (tupObj rest)
  have N1 : News h₀ L (hh.push (tupObj rest)) (((hh.objs.size, tupObj rest) :: pre) ++ (x, xObj C dx (excF a0)) :: post) := N.push F (tupObj rest)
  refine wpAny_bind (bexcPut0 (s := ⟨hh.push (tupObj rest), g, d, tk', os⟩) F1 N1 (fun p hp => by
      rcases List.mem_cons.mp hp with rfl | hp
      · exact Nat.ne_of_gt hxlt
      · exact a p hp) b fun h' F' N' => ?_)
  refine wpAny_pure (h hh.objs.size h' F' ?_ hlt)
  rw [upd_det (U hh.objs.size) rfl a]
  exact N'

/-- what an attribute of an exception's is read by -/
theorem get_openX {expr : Bool} {Q : Value → Shared → Prop} {r : Found} (X : K.In s.heap) (hx : XCls K C) (I : PySem.W.InstAt s.heap x ox C od) (hf : findObj K C od name = some r)
    (h : wpAny (model prog w) A.in1 (match r with | .value v => ret v | .bind g a => bindTo g a (.ref x) (.ref C) | .missing => unsupported "no")
      (fun fin s' => match fin with | .done (.ret v) => wpAny (model prog w) A (handedOut v) Q E s' | _ => False) (fun _ _ => False) { s with toks := s.toks + 1 }) :
    wpAny (model prog w) A (getAttr (.ref x) name expr) Q E s := by
  have Y := makesX_of (M := model prog w) X hx
  have hT : Looks (model prog w) s.heap (isInstance (.ref x) (.type "BaseException")) true := I.type.andThen Y.bexc
  have L0 := I.type (M := model prog w)
  have L1 := looks_findIn (M := model prog w) X hx.get
  have L2 := looks_findIn (M := model prog w) X hx.hook
  have L3 := looks_find (M := model prog w) X I hf
  have FB := PySem.F.attr_ValueError
  obtain ⟨hh, g, d, tk', os⟩ := s
  dsimp only at X I hT L0 L1 L2 L3 h ⊢
  unfold getAttr getAttrBy
  refine wpAny_bind (wpAny_mkText (wpAny_holding (wpAny_bind (L0.at (wpAny_bind (L1.at ?_))))))
  have hx2 : (Value.builtin "BaseException.__getattribute__" == Value.builtin "object.__getattribute__") = false := by decide +kernel
  dsimp only
  rw [hx2, Bool.and_false, if_neg (by decide)]
  unfold getAttrByItsOwn hookBefore
  refine wpAny_bind (L2.at ?_)
  refine wpAny_bind (wpAny_attempt ?_)
  unfold callGetattribute
  rw [show (expr && onTheHeap (Value.builtin "BaseException.__getattribute__")) = false from by cases expr <;> rfl, if_neg (by decide)]
  unfold boundAndCalled
  rw [FB.ga.bind]
  refine wpAny_holding (wpAny_bind (wpAny_pure (wpAny_call ?_)))
  show codeAny _ _ (.call (.builtin "BaseException.__getattribute__") ⟨[.ref x, .str name tk'], []⟩) _ _
  refine codeAny_call_builtin FB.ga.plain PySem.F.entry_bexc_ga (@check_slot (model prog w) _ _ ⟨hh, g, d, tk' + 1, os⟩ "BaseException.__getattribute__" "BaseException" "__getattribute__" (.ref x) [.str name tk'] [] _ (by decide +kernel) (by decide +kernel) hT (PySem.F.args_bexc_ga (.ref x) (.str name tk')) ?_)
  unfold Builtin.«object.__getattribute__»
  refine wpAny_bind (wpAny_pure (wpAny_bind (wpAny_pure (wpAny_bind (L0.at (wpAny_bind (L3.at ?_)))))))
  cases r with
  | missing => exact (fun Γ p hΓ => (h Γ p hΓ).elim)
  | value v =>
    refine wpAny_mono h (fun fin s' z => ?_) (fun _ _ z => z.elim)
    rcases fin with (_ | _ | _ | _) | _ <;> first | exact z | exact z.elim
  | bind g' a =>
    refine wpAny_mono h (fun fin s' z => ?_) (fun _ _ z => z.elim)
    rcases fin with (_ | _ | _ | _) | _ <;> first | exact z | exact z.elim

theorem get_ownX {expr : Bool} {es : List DictEntry} {n : Nat} {attr : Option Value} {Q : Value → Shared → Prop} (F : Fr h₀ L s.heap m) (X₀ : K.In h₀) (I : PySem.W.InstAt s.heap x ox C (some (dictOf es n))) (hx : XCls K C)
    (ha : findIn K (.ref C) name = some attr) (hn : noGet K attr = true) (hl : getL name es = some (some v)) (hv : handedIn v = true) (h : Q v { s with toks := s.toks + 1 }) :
    wpAny (model prog w) A (getAttr (.ref x) name expr) Q E s := by
  have hh : hasDictIn K C = true := by
    obtain ⟨oc, odd, cd, sl, ho, hc, e2, ed, e3, ne, e5, ex⟩ := hx.parts
    unfold hasDictIn; rw [hc]; exact ed
  refine get_openX (X₀.keeps F.keep) hx I (findObj_own hh ha hn hl) (wpAny_pure ?_)
  show wpAny _ _ (handedOut v) _ _ _
  rw [handedOut_of hv]; exact wpAny_pure h

theorem get_argsX {od' : Obj} {expr : Bool} {dx : Option Addr} {t : Addr} {Q : Value → Shared → Prop} (F : Fr h₀ L s.heap m) (X₀ : K.In h₀) (I : PySem.W.InstAt s.heap x (xObj C dx (excF (.ref t))) C (some od')) (hx : XCls K C)
    (ha : findIn K (.ref C) "args" = some (some (.builtin "BaseException.args"))) (hg : specialIn K (.builtin "BaseException.args") "__get__" = some (some (.builtin "getset_descriptor.__get__"))) (ht : takesIn K (.builtin "BaseException.args") = some true)
    (h : Q (.ref t) { s with toks := s.toks + 1 }) : wpAny (model prog w) A (getAttr (.ref x) "args" expr) Q E s := by
  have X := X₀.keeps F.keep
  have Y := makesX_of (M := model prog w) X hx
  have hT : Looks (model prog w) s.heap (isInstance (.ref x) (.type "BaseException")) true := I.type.andThen Y.bexc
  have hI := I.at_
  refine get_openX X hx I (findObj_data (by obtain ⟨oc, odd, cd, sl, ho, hc, _⟩ := hx.parts; rw [hc]; rfl) ha hg ht) ?_
  dsimp only
  unfold bindTo
  dsimp only
  refine wpAny_bind (wpAny_holding (wpAny_call ?_))
  obtain ⟨hh, g, d, tk', os⟩ := s
  dsimp only at F I X hT h hI ⊢
  have hT5 : (⟨hh, g, d, tk' + 1, os⟩ : Shared).TypeIs (.builtin "BaseException.args") "getset_descriptor" := PySem.F.typeOf_bexc_args
  refine codeAny_call_builtin PySem.F.slot_gs_get.plain PySem.F.entry_gs_get (PySem.F.slot_gs_get.check _ _ _ _ _ _ _ _ hT5 (PySem.F.args_gs_get _ _ _) ?_)
  have hT' : Looks (model prog w) hh (isInstance (.ref x) (.type (".".intercalate ("BaseException.args".cutAt '.').dropLast))) true := by rw [PySem.F.owner_bexc_args]; exact hT
  have eo : descrOwnerAndName "BaseException.args" = ("BaseException", "args") := by
    have e0 : "BaseException.args".cutAt '.' = ["BaseException", "args"] := by first | rfl | decide +kernel
    unfold descrOwnerAndName
    rw [e0]; decide +kernel
  have hT'' : Looks (model prog w) hh (isInstance (.ref x) (.type (descrOwnerAndName "BaseException.args").fst)) true := by rw [eo]; exact hT
  unfold Builtin.«getset_descriptor.__get__» descrGet descrGetter descrCheckInstance descrNameAndClass
  repeat lk
  refine ⟨Code.quiet_builtin _ (by decide +kernel), codeAny_builtin PySem.F.entry_bexc_args ?_⟩
  have hnd : (Value.ref t == doubtfulMember) = false := by first | rfl | decide | simp [doubtfulMember, rawInt]
  unfold Builtin.«BaseException.args»
  refine wpAny_bind (wpAny_field (x := .ref t) hI rfl (by rfl) ?_)
  rw [hnd, if_neg (by decide)]
  exact wpAny_pure (wpAny_pure (wpAny_pure h))
end
end Mine
end
section
open PySem PySem.W PyProof.Rows PySem.Calls PySem.Builtin
set_option maxRecDepth 100000
set_option maxHeartbeats 4000000
namespace Mine
/-- the figures of an int, as Python writes them -/
abbrev itext (n : Int) : PySem.Str := PySem.Str.ofString (toString n)
/-- the same, two signs wide at least -/
def pad2 (n : Int) : PySem.Str := if (itext n).length < 2 then PySem.Str.ofString " " ++ itext n else itext n

def dig (n : Int) : List Nat := (Nat.toDigits 10 n.natAbs).map Char.toNat
def raw2 (n : Int) : List Nat :=
  let sign : List Nat := if decide (n < 0) = true then [45] else []
  let ds := if (dig n).isEmpty = true then [] else List.replicate ((0 : Int).toNat - (dig n).length) 48 ++ dig n
  let pad := ((2 : Int) - ((sign.length : Int) + 0 + 0) - ds.length).toNat
  List.replicate pad 32 ++ sign ++ [] ++ List.replicate 0 32 ++ ds ++ [] ++ List.replicate 0 32

theorem itext_cps (n : Int) : (itext n).cps = ((if n < 0 then [45] else []) ++ dig n).toArray := by
  have hdg : ∀ m : Nat, (Nat.repr m).toList = Nat.toDigits 10 m := fun m => by unfold Nat.repr; rw [String.toList_ofList]
  unfold itext
  rw [PySem.Str.ofString_eq_toList]
  show ((toString n).toList.map Char.toNat).toArray = _
  congr 1
  cases n with
  | ofNat m =>
    rw [if_neg (show ¬ (Int.ofNat m < 0) from Int.not_lt.mpr (Int.natCast_nonneg m))]
    show ((Nat.repr m).toList.map Char.toNat) = _
    rw [hdg]
    rfl
  | negSucc m =>
    rw [if_pos (Int.negSucc_lt_zero m)]
    show (("-" ++ Nat.repr (m + 1)).toList.map Char.toNat) = _
    rw [String.toList_append, hdg]
    rfl
theorem dig_ne (n : Int) : dig n ≠ [] := by
  unfold dig
  intro h
  exact Nat.toDigits_ne_nil (List.map_eq_nil_iff.mp h)
theorem itext_len (n : Int) : (itext n).length = (if n < 0 then 1 else 0) + (dig n).length := by
  show (itext n).cps.size = _
  rw [itext_cps, List.size_toArray, List.length_append]
  split <;> rfl
theorem raw2_eq (n : Int) : (⟨(raw2 n).toArray⟩ : PySem.Str) = pad2 n := by
  have hne := dig_ne n
  have he : (dig n).isEmpty = false := by cases h : dig n with | nil => exact absurd h hne | cons _ _ => rfl
  have hpos : 0 < (dig n).length := List.length_pos_iff.mpr hne
  have e1 : raw2 n = List.replicate (2 - (itext n).length) 32 ++ ((if n < 0 then [45] else []) ++ dig n) := by
    rw [itext_len]
    unfold raw2
    simp only [he, Bool.false_eq_true, if_false, decide_eq_true_eq, Int.toNat_zero, Nat.zero_sub, List.replicate_zero, List.nil_append, List.append_nil, List.append_assoc]
    split
    · congr 2
      simp only [List.length_cons, List.length_nil]
      omega
    · congr 2
      simp only [List.length_nil]
      omega
  rw [e1]
  unfold pad2
  have hc := itext_cps n
  have hcp : (itext n) = ⟨((if n < 0 then [45] else []) ++ dig n).toArray⟩ := by
    cases h : itext n; rw [h] at hc; exact congrArg PySem.Str.mk hc
  have hl1 : 1 ≤ (itext n).length := by rw [itext_len]; omega
  by_cases hlt : (itext n).length < 2
  · have h2 : 2 - (itext n).length = 1 := by omega
    rw [if_pos hlt, h2]
    apply PySem.Str.ext'
    rw [PySem.Str.cps_append, hc, show (PySem.Str.ofString " ").cps = #[32] from by decide +kernel]
    simp
  · have h2 : 2 - (itext n).length = 0 := by omega
    rw [if_neg hlt, h2]
    apply PySem.Str.ext'
    rw [hc]
    rfl

theorem mk_is {M : Model} {A : Around} {E : Value → Shared → Prop} {s : Shared} {X T : PySem.Str} {Q : Value → Shared → Prop} (e : X = T) (hl : T.length ≤ sizeLine) (hq : Q (.str T s.toks) { s with toks := s.toks + 1 }) :
    wpAny M A (if X.length > sizeLine then Sem.unsupported "str:memory" else (do let k ← fresh; pure (Value.str X k))) Q E s := by
  subst e
  exact wpAny_mkStr hq hl

theorem fmt2d {M : Model} {A : Around} {E : Value → Shared → Prop} {h : Heap} {g : Array GenState} {d : Drawn} {tk : Nat} {os : OsState} {n : Int} {u t : Tok} {Q : PySem.Fin → Shared → Prop} (hd : n.natAbs.log2 < 1920) (hl : (pad2 n).length ≤ sizeLine)
   (hq : ∀ t' k, Q (.done (.ret (.str (pad2 n) t'))) ⟨h, g, d, k, os⟩) :
   wpAny M A (Builtin.«int.__format__» ⟨[.int n u, .str (PySem.Str.ofString "2d") t], []⟩) Q E ⟨h, g, d, tk, os⟩ := by
  unfold Builtin.«int.__format__»
  repeat lk
  rw [if_pos hd]
  repeat lk
  refine mk_is (T := pad2 n) ?_ hl ?_
  · rw [← raw2_eq]
    with_unfolding_all rfl
  · exact wpAny_pure (hq _ _)
end Mine
end
section
open PySem PySem.W PyProof.Rows PySem.Calls PySem.Builtin
set_option maxRecDepth 100000
set_option maxHeartbeats 4000000
namespace Mine
theorem itext_short {n : Int} (h1 : -(10 ^ 12) < n) (h2 : n < 10 ^ 12) : n.natAbs.log2 < 1920 := by
  have h3 : n.natAbs < 2 ^ 1920 := Nat.lt_of_lt_of_le (show n.natAbs < 10 ^ 12 by omega) (by decide +kernel)
  by_cases h0 : n.natAbs = 0
  · rw [h0]; decide
  · exact (Nat.log2_lt h0).mpr h3
theorem pad2_len {n : Int} (h1 : -(10 ^ 12) < n) (h2 : n < 10 ^ 12) : (pad2 n).length ≤ 20 := by
  have hd : (dig n).length ≤ 13 := by
    unfold dig
    rw [List.length_map]
    exact (Nat.length_toDigits_le_iff (by decide) (by decide)).mpr (by omega)
  have hl := itext_len n
  have : (itext n).length ≤ 14 := by split at hl <;> omega
  unfold pad2
  split
  · rw [PySem.Str.length_append, show (PySem.Str.ofString " ").length = 1 from by decide +kernel]; omega
  · omega
theorem itext_len_le {n : Int} (h1 : -(10 ^ 12) < n) (h2 : n < 10 ^ 12) : (itext n).length ≤ 14 := by
  have hd : (dig n).length ≤ 13 := by
    unfold dig
    rw [List.length_map]
    exact (Nat.length_toDigits_le_iff (by decide) (by decide)).mpr (by omega)
  have hl := itext_len n
  split at hl <;> omega
section
variable {prog : Program} {w : World} {A : Around} {E : Value → Shared → Prop} {s : Shared} {n : Int} {u t : Tok} {Q : Value → Shared → Prop}
theorem formatOf_2d (h1 : -(10 ^ 12) < n) (h2 : n < 10 ^ 12) (h : ∀ t' k, Q (.str (pad2 n) t') { s with toks := k }) : wpAny (model prog w) A (PySem.Builtin.Str.formatOf (.int n u) (PySem.Str.ofString "2d")) Q E s := by
  have hl : (pad2 n).length ≤ sizeLine := Nat.le_trans (pad2_len h1 h2) (by rw [sizeLine_eq]; decide)
  unfold PySem.Builtin.Str.formatOf
  refine wpAny_ite (KPc.ite_no (by rw [show ((PySem.Str.ofString "2d").length == 0) = false from by decide +kernel]; exact Bool.false_ne_true) ?_)
  refine wpAny_bind (wpAny_mkStr ?_ (by rw [sizeLine_eq]; decide +kernel))
  refine wpAny_bind (m := callSpecial? (.int n u) (PySem.Str.ofString "__format__") [.str (PySem.Str.ofString "2d") s.toks]) (wpAny_callSpecial?_slot (name := PySem.Str.ofString "__format__") (typeIs_int _ n u) PySem.F.slot_int_format
    (wpAny_call (codeAny_call_builtin PySem.F.slot_int_format.plain PySem.F.entry_int_format (PySem.F.slot_int_format.check _ _ _ _ _ _ _ _ (typeIs_int _ n u) (PySem.F.args_int_format_2 _ _) ?_))))
  obtain ⟨hh, g, d, tk, os⟩ := s
  refine fmt2d (itext_short h1 h2) hl fun t' k => ?_
  refine wpAny_bind (wpAny_of_eq (a := some (pad2 n)) rfl ?_)
  refine wpAny_ite (KPc.ite_no Bool.false_ne_true ?_)
  exact wpAny_pure (h t' k)
theorem line_2d (h1 : -(10 ^ 12) < n) (h2 : n < 10 ^ 12) (h : ∀ t' k, Q (.str (PySem.Str.ofString " [line " ++ pad2 n ++ PySem.Str.ofString "]") t') { s with toks := k }) :
    wpAny (model prog w) A (call (.builtin "str.format") [.str (PySem.Str.ofString " [line {0:2d}]") t, .int n u]) Q E s := by
  refine KFm.call_k (X' := ⟨#[32, 91, 108, 105, 110, 101, 32, 123, 48, 58, 50, 100, 125, 93]⟩) (by decide +kernel) (KFm.args_2 _ _) (KPc.meets_of ?_) h
  intro prog w A s Q E hq
  unfold Builtin.«str.format»
  refine wpAny_bind (wpAny_of_eq (a := (_, _, _)) rfl ?_)
  refine wpAny_bind ?_
  unfold Builtin.Str.buildString
  refine wpAny_bind ?_
  rw [KPc.range_list]
  refine KFm.start ?_
  intro _ _
  refine KPc.turn ?_
  kpc_if
  kpc_check
  refine wpAny_bind (wpAny_of_eq (a := (Value.int n u, PySem.Builtin.Str.Numbering.manual)) (by with_unfolding_all rfl) ?_)
  refine wpAny_bind (wpAny_holding (wpAny_of_eq (a := _) rfl ?_))
  kpc_if
  refine wpAny_bind (wpAny_pure ?_)
  refine wpAny_bind (wpAny_holding (formatOf_2d h1 h2 ?_))
  intro t' k
  refine wpAny_bind (wpAny_of_eq (a := some _) rfl ?_)
  refine wpAny_pure ?_
  refine KFm.after_field (by kpc_g) (by kpc_text) (by kpc_obj) (pad2_len h1 h2) (by kpc_obj) (by kfm_cat2) (by kfm_rest) ?_
  intro _ _
  kfm_turns
end
end Mine
end
section
open PySem PySem.W PyProof.Rows PySem.Calls PySem.Builtin
set_option maxRecDepth 100000
set_option maxHeartbeats 4000000
namespace Mine
section
variable {prog : Program} {w : World} {A : Around} {E : Value → Shared → Prop} {s : Shared} {Q : Value → Shared → Prop}
theorem under_gives {b : Nat} {T id : String} {B : PySem.Builtin} {v : Value} {x : PySem.Str} (hT : s.TypeIs v T) (slot : Slot T "__repr__" id) (hr : reprUnder? (.builtin id) = none)
    (entry : entryFor table id = some B) (args : argsOk id ⟨[v], []⟩) (g : Gives (B ⟨[v], []⟩) (.str x)) (hv : [v].any Value.onHeap = false) (hx : x.length ≤ sizeLine)
    (h : Q (.str x s.toks) { s with toks := s.toks + 1 }) : wpAny (model prog w) A (pyReprObjUnder b v) Q E s := by
  unfold pyReprObjUnder pyReprObjBy
  simp only [cRoomFor, hv, Bool.false_eq_true, if_false, pure_bind]
  refine wpAny_bind (wpAny_specialOf (name := Str.ofString "__repr__") hT slot.lookup ?_)
  refine wpAny_bind (wpAny_callSpecialIfBoundBy?_slotG (name := Str.ofString "__repr__") hT slot.toG ?_)
  simp only [hr]
  refine call_gives slot hT entry args g ⟨hx, ?_⟩
  exact wpAny_bind (wpAny_isInstance (T := "str") (b := true) rfl isSubtype_str_str (wpAny_pure h))
theorem under_str {b : Nat} {x : PySem.Str} {t : Tok} (hx : (reprText x).length ≤ sizeLine) (h : Q (.str (reprText x) s.toks) { s with toks := s.toks + 1 }) : wpAny (model prog w) A (pyReprObjUnder b (.str x t)) Q E s :=
  under_gives (typeIs_str s x t) PySem.F.slot_str_repr rfl PySem.F.entry_str_repr (PySem.F.args_str_repr_1 _) (gives_str_repr x t) rfl hx h
theorem under_int {b : Nat} {n : Int} {t : Tok} (hd : n.natAbs.log2 < 1920) (h : Q (.str (itext n) s.toks) { s with toks := s.toks + 1 }) : wpAny (model prog w) A (pyReprObjUnder b (.int n t)) Q E s :=
  under_gives (typeIs_int s n t) PySem.F.slot_int_repr rfl PySem.F.entry_int_repr (PySem.F.args_int_repr_1 _) (gives_int_repr n t hd) rfl (int_text_fits hd) h
theorem under_none {b : Nat} (h : Q (.str (PySem.Str.ofString "None") s.toks) { s with toks := s.toks + 1 }) : wpAny (model prog w) A (pyReprObjUnder b .none) Q E s :=
  under_gives (typeIs_none s) PySem.F.slot_NoneType_repr rfl PySem.F.entry_NoneType_repr (PySem.F.args_NoneType_repr_1 _) gives_none_repr rfl (by rw [sizeLine_eq]; decide +kernel) h

end
end Mine
end
section
open PySem PySem.W PyProof.Rows PySem.Calls PySem.Builtin PySem.Builtin.Str
set_option maxRecDepth 100000
set_option maxHeartbeats 4000000
namespace Mine
/-- a value that is no object, and its repr -/
structure Shows (v : Value) (r : PySem.Str) : Prop where
  under : ∀ {prog : Program} {w : World} {A : Around} {E : Value → Shared → Prop} {s : Shared} {Q : Value → Shared → Prop} {b : Nat}, Q (.str r s.toks) { s with toks := s.toks + 1 } → wpAny (model prog w) A (pyReprObjUnder b v) Q E s
  len : r.length ≤ 4000
theorem shows_str {x : PySem.Str} {t : Tok} (hx : (reprText x).length ≤ 4000) : Shows (.str x t) (reprText x) := ⟨fun h => under_str (Nat.le_trans hx (by rw [sizeLine_eq]; decide)) h, hx⟩
theorem shows_int {n : Int} {t : Tok} (h1 : -(10 ^ 12) < n) (h2 : n < 10 ^ 12) : Shows (.int n t) (itext n) := ⟨fun h => under_int (itext_short h1 h2) h, Nat.le_trans (itext_len_le h1 h2) (by decide)⟩
theorem shows_none : Shows .none (PySem.Str.ofString "None") := ⟨fun h => under_none h, by decide +kernel⟩

theorem percentInt_eq {c : Percent} (h1 : c.alt = false) (h2 : c.type = 100) (h3 : c.prec = none) (n : Int) : percentInt c (decide (n < 0)) (itext ((n.natAbs : Nat) : Int)).cps.toList = (itext n).cps.toList := by
  have e1 : (itext ((n.natAbs : Nat) : Int)).cps.toList = dig n := by
    rw [itext_cps, if_neg (by omega)]
    unfold dig
    simp
  rw [e1, itext_cps]
  unfold percentInt
  simp [h1, h2, h3]
section
variable {M : Model} {A : Around} {E : Value → Shared → Prop} {s : Shared} {l : List Nat} {p : List Value} {r : List Nat}
  {f : Nat → List Value × Writer × List Nat → Sem (ForInStep (List Value × Writer × List Nat))} {Q : List Value × Writer × List Nat → Shared → Prop}
  {w : Writer} {T x y : PySem.Str} {N K : Nat} {o : Option Value}
theorem after_intZ {c : Percent} {n : Int} {d : List Nat} (g : KPc.Good w T N) (h1 : c.alt = false) (h2 : c.type = 100) (h3 : c.prec = none) (hn : (itext n).length ≤ 14)
    (hd : d = (itext ((n.natAbs : Nat) : Int)).cps.toList) (ho : o = none) (h : ∀ w', KPc.Good w' (T ++ itext n) (N + 14) → wpAny M A (forIn l (p, w', r) f) Q E s) :
    wpAny M A (forIn l (p, w.add ⟨(percentInt c (decide (n < 0)) d).toArray⟩ o, r) f) Q E s := by
  rw [hd, percentInt_eq h1 h2 h3]
  exact KPc.after_str g hn (KPc.obj_none ho) h
end
section
variable {prog : Program} {w : World} {A : Around} {E : Value → Shared → Prop} {s : Shared} {Q : Value → Shared → Prop}
theorem place_1 {v : Value} {rv y : PySem.Str} {n : Int} {t t1 t2 : Tok} {b L : Addr} {k : Nat} {h₀ : Heap} {news : List (Addr × Obj)} (hv : Shows v rv) (hy : (reprText y).length ≤ 4000) (h1 : -(10 ^ 12) < n) (h2 : n < 10 ^ 12) (N : News h₀ L s.heap news) (hb : (b, ({ cls := .type "tuple", data := .seq #[v, .int n t1, .str y t2] k } : Obj)) ∈ news)
    (h : ∀ t' k, Q (.str (PySem.Str.ofString "File contains no section headers.\nfile: " ++ rv ++ PySem.Str.ofString ", line: " ++ itext n ++ PySem.Str.ofString "\n" ++ reprText y) t') { s with toks := k }) :
    wpAny (model prog w) A (binaryOp .Mod (.str (PySem.Str.ofString "File contains no section headers.\nfile: %r, line: %d\n%r") t) (.ref b)) Q E s := by
  have hd := itext_short h1 h2
  have hd2 : ((n.natAbs : Nat) : Int).natAbs.log2 < 1920 := hd
  refine KPt.mod_tuple (X' := ⟨#[70, 105, 108, 101, 32, 99, 111, 110, 116, 97, 105, 110, 115, 32, 110, 111, 32, 115, 101, 99, 116, 105, 111, 110, 32, 104, 101, 97, 100, 101, 114, 115, 46, 10, 102, 105, 108, 101, 58, 32, 37, 114, 44, 32, 108, 105, 110, 101, 58, 32, 37, 100, 10, 37, 114]⟩) N hb (by decide +kernel) ?_ h
  apply KPt.meets_tup
  intro _ _ _ _ _ _ kptH _
  obtain ⟨kptO, kptG, kptC, kptN, kptD⟩ := kptH
  rw [KPt.entry_is_r]
  unfold Builtin.Str.percentFormat
  refine wpAny_bind (wpAny_isInstance (T := "tuple") ⟨kptO, kptG, kptC⟩ KPt.sub_tt ?_)
  refine wpAny_bind (KPt.asStr_ref kptG kptD ?_)
  refine wpAny_bind (KPt.fills_ref ⟨kptO, kptG, kptC⟩ ?_)
  intro _
  kpc_if
  refine wpAny_bind (wpAny_seqItems kptG kptD ?_)
  refine wpAny_bind (wpAny_pure ?_)
  refine wpAny_bind ?_
  rw [KPc.range_list]
  refine KPc.start ?_
  intro _ _
  refine KPc.turn ?_; kpc_check; (repeat kpc_if)
  refine wpAny_pure ?_; kpt_piece
  refine KPc.turn ?_; kpc_check; (repeat kpc_if)
  refine wpAny_bind ?_; refine wpAny_holding ?_; (repeat kpc_if)
  refine wpAny_bind (hv.under ?_)
  refine wpAny_bind (wpAny_of_eq (a := some _) rfl ?_)
  refine wpAny_pure ?_; refine wpAny_pure ?_
  refine KPc.after_str (by kpc_g) hv.len (by kpc_obj) ?_; intro _ _
  refine KPc.turn ?_; kpc_check; (repeat kpc_if)
  refine wpAny_pure ?_; kpt_piece
  refine KPc.turn ?_; kpc_check; (repeat kpc_if)
  refine wpAny_bind ?_; refine wpAny_holding ?_; (repeat kpc_if)
  refine wpAny_bind (wpAny_of_eq (a := n) rfl ?_); (repeat kpc_if)
  refine wpAny_bind (wpAny_mkInt ?_)
  refine wpAny_bind (call_gives PySem.F.slot_int_repr (typeIs_int _ _ _) PySem.F.entry_int_repr (PySem.F.args_int_repr_1 _) (gives_int_repr _ _ hd2) ⟨int_text_fits hd2, ?_⟩)
  refine wpAny_bind (wpAny_of_eq (a := some _) rfl ?_)
  refine wpAny_pure ?_; refine wpAny_pure ?_
  refine after_intZ (by kpc_g) rfl rfl rfl (itext_len_le h1 h2) rfl (by kpc_none) ?_; intro _ _
  refine KPc.turn ?_; kpc_check; (repeat kpc_if)
  refine wpAny_pure ?_; kpt_piece
  refine KPc.turn ?_; kpc_check; (repeat kpc_if)
  refine wpAny_bind ?_; refine wpAny_holding ?_; (repeat kpc_if)
  refine wpAny_bind (under_str (Nat.le_trans hy (by rw [sizeLine_eq]; decide)) ?_)
  refine wpAny_bind (wpAny_of_eq (a := some _) rfl ?_)
  refine wpAny_pure ?_; refine wpAny_pure ?_
  refine KPc.after_str (by kpc_g) hy (by kpc_obj) ?_; intro _ _
  kpt_turns
theorem place_2 {v : Value} {rv y : PySem.Str} {n : Int} {t t1 t2 : Tok} {b L : Addr} {k : Nat} {h₀ : Heap} {news : List (Addr × Obj)} (hv : Shows v rv) (hy : (reprText y).length ≤ 4000) (h1 : -(10 ^ 12) < n) (h2 : n < 10 ^ 12) (N : News h₀ L s.heap news) (hb : (b, ({ cls := .type "tuple", data := .seq #[v, .int n t1, .str y t2] k } : Obj)) ∈ news)
    (h : ∀ t' k, Q (.str (PySem.Str.ofString "Key without value continued with an indented line.\nfile: " ++ rv ++ PySem.Str.ofString ", line: " ++ itext n ++ PySem.Str.ofString "\n" ++ reprText y) t') { s with toks := k }) :
    wpAny (model prog w) A (binaryOp .Mod (.str (PySem.Str.ofString "Key without value continued with an indented line.\nfile: %r, line: %d\n%r") t) (.ref b)) Q E s := by
  have hd := itext_short h1 h2
  have hd2 : ((n.natAbs : Nat) : Int).natAbs.log2 < 1920 := hd
  refine KPt.mod_tuple (X' := ⟨#[75, 101, 121, 32, 119, 105, 116, 104, 111, 117, 116, 32, 118, 97, 108, 117, 101, 32, 99, 111, 110, 116, 105, 110, 117, 101, 100, 32, 119, 105, 116, 104, 32, 97, 110, 32, 105, 110, 100, 101, 110, 116, 101, 100, 32, 108, 105, 110, 101, 46, 10, 102, 105, 108, 101, 58, 32, 37, 114, 44, 32, 108, 105, 110, 101, 58, 32, 37, 100, 10, 37, 114]⟩) N hb (by decide +kernel) ?_ h
  apply KPt.meets_tup
  intro _ _ _ _ _ _ kptH _
  obtain ⟨kptO, kptG, kptC, kptN, kptD⟩ := kptH
  rw [KPt.entry_is_r]
  unfold Builtin.Str.percentFormat
  refine wpAny_bind (wpAny_isInstance (T := "tuple") ⟨kptO, kptG, kptC⟩ KPt.sub_tt ?_)
  refine wpAny_bind (KPt.asStr_ref kptG kptD ?_)
  refine wpAny_bind (KPt.fills_ref ⟨kptO, kptG, kptC⟩ ?_)
  intro _
  kpc_if
  refine wpAny_bind (wpAny_seqItems kptG kptD ?_)
  refine wpAny_bind (wpAny_pure ?_)
  refine wpAny_bind ?_
  rw [KPc.range_list]
  refine KPc.start ?_
  intro _ _
  refine KPc.turn ?_; kpc_check; (repeat kpc_if)
  refine wpAny_pure ?_; kpt_piece
  refine KPc.turn ?_; kpc_check; (repeat kpc_if)
  refine wpAny_bind ?_; refine wpAny_holding ?_; (repeat kpc_if)
  refine wpAny_bind (hv.under ?_)
  refine wpAny_bind (wpAny_of_eq (a := some _) rfl ?_)
  refine wpAny_pure ?_; refine wpAny_pure ?_
  refine KPc.after_str (by kpc_g) hv.len (by kpc_obj) ?_; intro _ _
  refine KPc.turn ?_; kpc_check; (repeat kpc_if)
  refine wpAny_pure ?_; kpt_piece
  refine KPc.turn ?_; kpc_check; (repeat kpc_if)
  refine wpAny_bind ?_; refine wpAny_holding ?_; (repeat kpc_if)
  refine wpAny_bind (wpAny_of_eq (a := n) rfl ?_); (repeat kpc_if)
  refine wpAny_bind (wpAny_mkInt ?_)
  refine wpAny_bind (call_gives PySem.F.slot_int_repr (typeIs_int _ _ _) PySem.F.entry_int_repr (PySem.F.args_int_repr_1 _) (gives_int_repr _ _ hd2) ⟨int_text_fits hd2, ?_⟩)
  refine wpAny_bind (wpAny_of_eq (a := some _) rfl ?_)
  refine wpAny_pure ?_; refine wpAny_pure ?_
  refine after_intZ (by kpc_g) rfl rfl rfl (itext_len_le h1 h2) rfl (by kpc_none) ?_; intro _ _
  refine KPc.turn ?_; kpc_check; (repeat kpc_if)
  refine wpAny_pure ?_; kpt_piece
  refine KPc.turn ?_; kpc_check; (repeat kpc_if)
  refine wpAny_bind ?_; refine wpAny_holding ?_; (repeat kpc_if)
  refine wpAny_bind (under_str (Nat.le_trans hy (by rw [sizeLine_eq]; decide)) ?_)
  refine wpAny_bind (wpAny_of_eq (a := some _) rfl ?_)
  refine wpAny_pure ?_; refine wpAny_pure ?_
  refine KPc.after_str (by kpc_g) hy (by kpc_obj) ?_; intro _ _
  kpt_turns
end
end Mine
end
section
open PySem PySem.W PyProof.Rows PySem.Calls PySem.Builtin
set_option maxRecDepth 100000
set_option maxHeartbeats 4000000
namespace Mine
def catS : List PySem.Str → PySem.Str
  | [] => PySem.Str.ofString ""
  | [a] => a
  | a :: b :: r => a ++ catS (b :: r)
theorem join_catS : ∀ ys : List PySem.Str, PySem.Str.join (PySem.Str.ofString "") ys = catS ys
  | [] => by rfl
  | [a] => rfl
  | a :: b :: r => by
    have ih := join_catS (b :: r)
    show a ++ PySem.Str.ofString "" ++ PySem.Str.join (PySem.Str.ofString "") (b :: r) = a ++ catS (b :: r)
    rw [ih, KFm.cat_t]
theorem glue_cat (ys : List PySem.Str) : PySem.Txt.join (PySem.Str.ofString "") ys = catS ys := (StrLaws.glued_eq_join _ ys).trans (join_catS ys)
theorem sum_le (B : Nat) : ∀ ys : List PySem.Str, (∀ y ∈ ys, y.length ≤ B) → (ys.map (·.length)).sum ≤ ys.length * B
  | [], _ => Nat.zero_le _
  | a :: r, h => by
    have := sum_le B r fun y hy => h y (.tail _ hy)
    have h1 := h a (.head _)
    rw [List.map_cons, List.sum_cons, List.length_cons, Nat.succ_mul]
    omega
theorem line_len {n : Int} (h1 : -(10 ^ 12) < n) (h2 : n < 10 ^ 12) : (PySem.Str.ofString " [line " ++ pad2 n ++ PySem.Str.ofString "]").length ≤ 5000 := by
  have := pad2_len h1 h2
  rw [PySem.Str.length_append, PySem.Str.length_append, show (PySem.Str.ofString " [line ").length = 7 from by decide +kernel, show (PySem.Str.ofString "]").length = 1 from by decide +kernel]
  omega
section
variable {prog : Program} {w : World} {A : Around} {E : Value → Shared → Prop} {s : Shared} {Q : Value → Shared → Prop}
theorem join_cat {D L : Addr} {h₀ : Heap} {us : List Value} {n : Nat} {ys : List PySem.Str} {t : Tok} {news : List (Addr × Obj)} (N : News h₀ L s.heap news) (hm : (D, W.listOf us.toArray n) ∈ news) (hi : StrsAre us ys) (hB : ∀ y ∈ ys, y.length ≤ 5000) (hn : ys.length ≤ 1000)
    (h : ∀ t' k, Q (.str (catS ys) t') { s with toks := k }) : wpAny (model prog w) A (call (.builtin "str.join") [.str (PySem.Str.ofString "") t, .ref D]) Q E s := by
  have hl : s.heap.IsList D us.toArray := ⟨_, (N _ hm).1, rfl, n, rfl⟩
  refine join_listC hl hi (by decide +kernel) ?_ (by rw [glue_cat]; exact h)
  have := sum_le 5000 ys hB
  omega
end
end Mine
end
section
open PySem PySem.W PyProof.Rows PySem.Calls PySem.Builtin PySem.Builtin.ObjectAttr PySem.Builtin.Getset_descriptor
set_option maxRecDepth 100000
set_option maxHeartbeats 4000000
namespace Mine
section
variable {prog : Program} {w : World} {A A₀ : Around} {K : Frag} {C x L : Addr} {s : Shared} {h₀ base : Heap} {m mg mb : PySem.Str → Option Value} {news : List (Addr × Obj)} {R : Result → Shared → Prop} {p : Program} {loose : List PySem.Str} {mean : ExcName → Option Value}

theorem code_defG {env : Env} {outer : List Env} {name qual : PySem.Str} {params : Arguments} {body : List Stmt} {scope : Scope} {dV kV doc pm cdv ct oc : Value} {an od : Option Addr} {osl : Array (Option Value)} {f : Addr} {args : Args} {binds : List (PySem.Str × Value)}
    (B : Below A₀ base outer h₀) (F : Fr h₀ L s.heap m) (X₀ : K.In h₀) (N : News h₀ L s.heap news) (T : Top p loose mean mg mb h₀) (hA : A.frames = some (env :: outer)) (hf : env.frame = some L) (hke : env.scope.kind = .function)
    (ho : K.lookup f = some ⟨oc, od, .func (fnOf name qual params body scope dV kV doc pm an cdv ct), osl⟩) (hcd : codeIn K cdv qual = true) (hroom : A.depth < recursionLimit)
    (hbind : BindsTo s (fnOf name qual params body scope dV kV doc pm an cdv ct) args binds) (hloc : ∀ y ∈ binds, scope.names.lookup y.1 = some .local)
    (h : ∀ g L' h₁ tk', (∀ b o, s.heap.get? b = some o → b ∉ news.map (·.1) → g.get? b = some o) → Fr h₀ L g m → Fr g L' h₁ (fun y => binds.reverse.lookup y) → News g L' h₁ news → Below A base (env :: outer) g → K.In g → Top p loose mean mg mb g → (∀ p ∈ news, p.1 < L') →
      wpAny (model prog w) (A.deeper (envOf qual scope L' f cdv)) (execs body (envOf qual scope L' f cdv))
        (fun fl s' => LeaveK h₀ L m g R (match fl with | .ret v => v | _ => .none) s')
        (fun e s' => wpAny (model prog w) (A.deeper (envOf qual scope L' f cdv)) («leaving» (envOf qual scope L' f cdv) e) (fun _ s'' => R (.error e) s'') (fun e' s'' => R (.error e') s'') s')
        { s with heap := h₁, toks := tk' })
    (hco : scope.isCoroutine = false) (hgen : scope.isGenerator = false) (hk : scope.kind = .function)
    (hcell : ∀ x ∈ scope.names, x.2 ≠ .cell) : codeAny (model prog w) A (.call (.ref f) args) R s := by
  obtain ⟨FG, BG, st, lv⟩ := groundX (R := R) B F N hA hf hke
  refine codeAny_call_def (fd := fnOf name qual params body scope dV kV doc pm an cdv ct) (body := body) (binds := binds) hroom ((X₀.keeps F.keep) _ _ ho) rfl (T.nolimit.keeps F.keep) (codeRec_of (X₀.keeps F.keep) hcd) rfl hbind hcell hloc (fun h₁ hns hk₁ => ?_) hco hgen hk
  exact wpAny_mono (h _ s.heap.objs.size h₁ _ (fun b o e hb => hideAll_get _ e hb) FG ⟨hns, fun b o e => hk₁ b o (of_hideAll _ e), Nat.le_of_eq (hideAll_size _ _)⟩
    (fun p hp => ⟨hk₁ _ _ (N p hp).1, Nat.ne_of_lt (Heap.lt_size (N p hp).1), hideAll_none _ (List.mem_map_of_mem hp)⟩) BG (X₀.keeps st) (T.keeps st) (fun p hp => Heap.lt_size (N p hp).1)) (fun fl s' hl => lv _ _ hl) fun _ _ y => y

/-- a class of exceptions is called; the caller's ledger is not spoken of -/
theorem call_X0 {E : Value → Shared → Prop} {Q : Value → Shared → Prop} {pos : List Value} {kw : List (PySem.Str × Value)} {fI : Addr} (F : Fr h₀ L s.heap m) (X₀ : K.In h₀) (hm : XCls K C) (hi : findIn K (.ref C) "__init__" = some (some (.ref fI))) (hf : isFn K (.ref fI) = true)
    (hrest : pos.length ≤ 1000)
    (h : ∀ x tx h', (∀ b o, s.heap.get? b = some o → h'.get? b = some o ∧ b < tx) → Fr h₀ L h' m → News h₀ L h' [(x, excObj C tx none), (tx, tupObj pos)] → tx < x →
      codeAny (model prog w) (A.under (.builtin "type.__call__" ⟨.ref C :: pos, kw⟩)) (.call (.ref fI) ⟨.ref x :: pos, kw⟩) (InitBack x fun r s' => match r with | .ok (.ret v) => Q v s' | .ok _ => False | .error e => E e s') { s with heap := h' }) :
    wpAny (model prog w) A (call (.ref C) pos kw) Q E s := by
  refine wpAny_call ?_
  have X := X₀.keeps F.keep
  obtain ⟨hh, g, d, t, os⟩ := s
  dsimp only at F X h
  refine make_X_core (makesX_of X hm) (Nat.le_trans hrest (by rw [sizeLine_eq]; decide)) (looks_findIn X hi) (fun self => bind_fn X self (beq_iff_eq.mp hf)) (h _ hh.objs.size _ (fun b o e => ⟨Heap.get?_push_of_some _ (Heap.get?_push_of_some _ e), Heap.lt_size e⟩) ((F.push _).push _) ?_ (Nat.lt_succ_self _))
  have := ((News.nil (h₀ := h₀) (h := hh) (L := L)).push F (tupObj pos)).push (F.push _) (excObj C hh.objs.size none)
  rwa [Heap.size_push] at this
end
theorem instX {h₀ h : Heap} {L x C dx : Addr} {news : List (Addr × Obj)} {od : Obj} {vs : Array Value} (N : News h₀ L h news) (h1 : (x, xObj C (some dx) vs) ∈ news) (h2 : (dx, od) ∈ news) :
    PySem.W.InstAt h x (xObj C (some dx) vs) C (some od) := ⟨(N _ h1).1, rfl, rfl, (N _ h2).1⟩
theorem news_lift {h₀ h h' : Heap} {L : Addr} {news made : List (Addr × Obj)} (N : News h₀ L h news) (Nm : News h₀ L h' made) (hk : ∀ b o, h.get? b = some o → h'.get? b = some o) : News h₀ L h' (made ++ news) := fun p hp =>
  (List.mem_append.mp hp).elim (Nm p) fun q => ⟨hk _ _ (N p q).1, (N p q).2⟩
/-- what an exception's __init__ leaves of the elder objects -/
theorem keep_X {h h' g h'' : Heap} {x tx L' C : Addr} {os : List Value} {m' : PySem.Str → Option Value} (hk : ∀ b o, h.get? b = some o → h'.get? b = some o ∧ b < tx) (l : tx < x)
    (hg : ∀ b o, h'.get? b = some o → b ∉ ([(x, excObj C tx none), (tx, tupObj os)] : List (Addr × Obj)).map (·.1) → g.get? b = some o) (F : Fr g L' h'' m') : ∀ b o, h.get? b = some o → h''.get? b = some o ∧ b < tx := fun b o e =>
  ⟨F.keep b o (hg b o (hk b o e).1 fun hm => by
    have lt := (hk b o e).2
    simp only [List.map_cons, List.map_nil, List.mem_cons, List.not_mem_nil, or_false] at hm
    rcases hm with rfl | rfl
    · exact absurd (Nat.lt_trans lt l) (Nat.lt_irrefl _)
    · exact absurd lt (Nat.lt_irrefl _)), (hk b o e).2⟩
/-- what repr gives of a value: the objects that stand stay, the ledger too -/
structure ReprAs (prog : Program) (w : World) (hB : Heap) (v : Value) (r : PySem.Str) : Prop where
  run : ∀ {A : Around} {E : Value → Shared → Prop} {s : Shared} {Q : Value → Shared → Prop} {h₀ : Heap} {L : Addr} {m : PySem.Str → Option Value} {news : List (Addr × Obj)}, Fr h₀ L s.heap m → News h₀ L s.heap news →
    (∀ b o, hB.get? b = some o → s.heap.get? b = some o) → A.units + 40 < cLine → A.guards = some [] →
    (∀ t' k h', Fr h₀ L h' m → News h₀ L h' news → Q (.str r t') { s with heap := h', toks := k }) → wpAny (model prog w) A (call (.builtin "repr") [v]) Q E s
  len : r.length ≤ 4000
theorem reprAs_str {prog : Program} {w : World} {hB : Heap} {x : PySem.Str} {t : Tok} (hx : (reprText x).length ≤ 4000) : ReprAs prog w hB (.str x t) (reprText x) :=
  ⟨fun {A E s Q h₀ L m news} F N _ _ _ h => P.repr_of_str (h _ _ s.heap F N) (Nat.le_trans hx (by rw [sizeLine_eq]; decide)), hx⟩
theorem reprAs_int {prog : Program} {w : World} {hB : Heap} {n : Int} {t : Tok} (h1 : -(10 ^ 12) < n) (h2 : n < 10 ^ 12) : ReprAs prog w hB (.int n t) (itext n) :=
  ⟨fun {A E s Q h₀ L m news} F N _ _ _ h => P.repr_of_int (itext_short h1 h2) (h _ _ s.heap F N), Nat.le_trans (itext_len_le h1 h2) (by decide)⟩
theorem isNot_none' {M : Model} {A : Around} {E : Value → Shared → Prop} {s : Shared} {v : Value} {Q : Value → Shared → Prop} (hv : (v == Value.none) = false) (h : Q (.bool true) s) : wpAny M A (compareOp .IsNot v .none) Q E s :=
  isNot_none (by rw [hv]; exact h)
theorem le5 {x : PySem.Str} (h : x.length ≤ 4000) : x.length ≤ 5000 := Nat.le_trans h (by decide)
/-- the words of a section (or an option) that is there already -/
def againMsg (up low : PySem.Str) (what : List PySem.Str) (rs : Option PySem.Str) (ln : Option Int) : PySem.Str := match rs with
  | none => catS (up :: what)
  | some r => catS (PySem.Str.ofString "While reading from " :: r :: (match ln with | some n => [PySem.Str.ofString " [line " ++ pad2 n ++ PySem.Str.ofString "]"] | none => []) ++ low :: what)
theorem news3 {h₀ h : Heap} {L : Addr} {news : List (Addr × Obj)} {p q r : Addr × Obj} (N : News h₀ L h news) (h1 : p ∈ news) (h2 : q ∈ news) (h3 : r ∈ news) : News h₀ L h [p, q, r] := fun x hx => by
  simp only [List.mem_cons, List.not_mem_nil, or_false] at hx
  rcases hx with rfl | rfl | rfl
  · exact N _ h1
  · exact N _ h2
  · exact N _ h3
inductive SrcIs (prog : Program) (w : World) (hB : Heap) : Value → Option PySem.Str → Prop
  | none : SrcIs prog w hB .none none
  | some (v : Value) (r : PySem.Str) : (v == Value.none) = false → ReprAs prog w hB v r → SrcIs prog w hB v (some r)
inductive LinIs : Value → Option Int → Prop
  | none : LinIs .none none
  | int (n : Int) (t : Tok) : -(10 ^ 12) < n → n < 10 ^ 12 → LinIs (.int n t) (some n)
end Mine
end
section
open PySem PySem.W PyProof.Rows PySem.Calls PySem.Builtin
namespace Mine
theorem ite_ff {P Q : Prop} (q : Q) : if false = true then P else Q := by rw [if_neg (by decide)]; exact q
theorem ite_tt {P Q : Prop} (q : P) : if true = true then P else Q := by rw [if_pos rfl]; exact q
end Mine
end
section
open PySem PySem.W PyProof.Rows PySem.Calls PySem.Builtin
namespace Mine
theorem ne_l1 {a b : Nat} {Q : Prop} (h : a < b ∧ Q) : a ≠ b := Nat.ne_of_lt h.1
theorem ne_l1' {a b : Nat} (h : a < b) : a ≠ b := Nat.ne_of_lt h
theorem ne_r1 {a b : Nat} {Q : Prop} (h : b < a ∧ Q) : a ≠ b := Nat.ne_of_gt h.1
theorem ne_r1' {a b : Nat} (h : b < a) : a ≠ b := Nat.ne_of_gt h
theorem ne_l2 {a b : Nat} {P1 : Prop} {Q : Prop} (h : P1 ∧ a < b ∧ Q) : a ≠ b := Nat.ne_of_lt h.2.1
theorem ne_l2' {a b : Nat} {P1 : Prop} (h : P1 ∧ a < b) : a ≠ b := Nat.ne_of_lt h.2
theorem ne_r2 {a b : Nat} {P1 : Prop} {Q : Prop} (h : P1 ∧ b < a ∧ Q) : a ≠ b := Nat.ne_of_gt h.2.1
theorem ne_r2' {a b : Nat} {P1 : Prop} (h : P1 ∧ b < a) : a ≠ b := Nat.ne_of_gt h.2
theorem ne_l3 {a b : Nat} {P1 P2 : Prop} {Q : Prop} (h : P1 ∧ P2 ∧ a < b ∧ Q) : a ≠ b := Nat.ne_of_lt h.2.2.1
theorem ne_l3' {a b : Nat} {P1 P2 : Prop} (h : P1 ∧ P2 ∧ a < b) : a ≠ b := Nat.ne_of_lt h.2.2
theorem ne_r3 {a b : Nat} {P1 P2 : Prop} {Q : Prop} (h : P1 ∧ P2 ∧ b < a ∧ Q) : a ≠ b := Nat.ne_of_gt h.2.2.1
theorem ne_r3' {a b : Nat} {P1 P2 : Prop} (h : P1 ∧ P2 ∧ b < a) : a ≠ b := Nat.ne_of_gt h.2.2
theorem ne_l4 {a b : Nat} {P1 P2 P3 : Prop} {Q : Prop} (h : P1 ∧ P2 ∧ P3 ∧ a < b ∧ Q) : a ≠ b := Nat.ne_of_lt h.2.2.2.1
theorem ne_l4' {a b : Nat} {P1 P2 P3 : Prop} (h : P1 ∧ P2 ∧ P3 ∧ a < b) : a ≠ b := Nat.ne_of_lt h.2.2.2
theorem ne_r4 {a b : Nat} {P1 P2 P3 : Prop} {Q : Prop} (h : P1 ∧ P2 ∧ P3 ∧ b < a ∧ Q) : a ≠ b := Nat.ne_of_gt h.2.2.2.1
theorem ne_r4' {a b : Nat} {P1 P2 P3 : Prop} (h : P1 ∧ P2 ∧ P3 ∧ b < a) : a ≠ b := Nat.ne_of_gt h.2.2.2
theorem ne_l5 {a b : Nat} {P1 P2 P3 P4 : Prop} {Q : Prop} (h : P1 ∧ P2 ∧ P3 ∧ P4 ∧ a < b ∧ Q) : a ≠ b := Nat.ne_of_lt h.2.2.2.2.1
theorem ne_l5' {a b : Nat} {P1 P2 P3 P4 : Prop} (h : P1 ∧ P2 ∧ P3 ∧ P4 ∧ a < b) : a ≠ b := Nat.ne_of_lt h.2.2.2.2
theorem ne_r5 {a b : Nat} {P1 P2 P3 P4 : Prop} {Q : Prop} (h : P1 ∧ P2 ∧ P3 ∧ P4 ∧ b < a ∧ Q) : a ≠ b := Nat.ne_of_gt h.2.2.2.2.1
theorem ne_r5' {a b : Nat} {P1 P2 P3 P4 : Prop} (h : P1 ∧ P2 ∧ P3 ∧ P4 ∧ b < a) : a ≠ b := Nat.ne_of_gt h.2.2.2.2
theorem ne_l6 {a b : Nat} {P1 P2 P3 P4 P5 : Prop} {Q : Prop} (h : P1 ∧ P2 ∧ P3 ∧ P4 ∧ P5 ∧ a < b ∧ Q) : a ≠ b := Nat.ne_of_lt h.2.2.2.2.2.1
theorem ne_l6' {a b : Nat} {P1 P2 P3 P4 P5 : Prop} (h : P1 ∧ P2 ∧ P3 ∧ P4 ∧ P5 ∧ a < b) : a ≠ b := Nat.ne_of_lt h.2.2.2.2.2
theorem ne_r6 {a b : Nat} {P1 P2 P3 P4 P5 : Prop} {Q : Prop} (h : P1 ∧ P2 ∧ P3 ∧ P4 ∧ P5 ∧ b < a ∧ Q) : a ≠ b := Nat.ne_of_gt h.2.2.2.2.2.1
theorem ne_r6' {a b : Nat} {P1 P2 P3 P4 P5 : Prop} (h : P1 ∧ P2 ∧ P3 ∧ P4 ∧ P5 ∧ b < a) : a ≠ b := Nat.ne_of_gt h.2.2.2.2.2
theorem ne_l7 {a b : Nat} {P1 P2 P3 P4 P5 P6 : Prop} {Q : Prop} (h : P1 ∧ P2 ∧ P3 ∧ P4 ∧ P5 ∧ P6 ∧ a < b ∧ Q) : a ≠ b := Nat.ne_of_lt h.2.2.2.2.2.2.1
theorem ne_l7' {a b : Nat} {P1 P2 P3 P4 P5 P6 : Prop} (h : P1 ∧ P2 ∧ P3 ∧ P4 ∧ P5 ∧ P6 ∧ a < b) : a ≠ b := Nat.ne_of_lt h.2.2.2.2.2.2
theorem ne_r7 {a b : Nat} {P1 P2 P3 P4 P5 P6 : Prop} {Q : Prop} (h : P1 ∧ P2 ∧ P3 ∧ P4 ∧ P5 ∧ P6 ∧ b < a ∧ Q) : a ≠ b := Nat.ne_of_gt h.2.2.2.2.2.2.1
theorem ne_r7' {a b : Nat} {P1 P2 P3 P4 P5 P6 : Prop} (h : P1 ∧ P2 ∧ P3 ∧ P4 ∧ P5 ∧ P6 ∧ b < a) : a ≠ b := Nat.ne_of_gt h.2.2.2.2.2.2
theorem ne_l8 {a b : Nat} {P1 P2 P3 P4 P5 P6 P7 : Prop} {Q : Prop} (h : P1 ∧ P2 ∧ P3 ∧ P4 ∧ P5 ∧ P6 ∧ P7 ∧ a < b ∧ Q) : a ≠ b := Nat.ne_of_lt h.2.2.2.2.2.2.2.1
theorem ne_l8' {a b : Nat} {P1 P2 P3 P4 P5 P6 P7 : Prop} (h : P1 ∧ P2 ∧ P3 ∧ P4 ∧ P5 ∧ P6 ∧ P7 ∧ a < b) : a ≠ b := Nat.ne_of_lt h.2.2.2.2.2.2.2
theorem ne_r8 {a b : Nat} {P1 P2 P3 P4 P5 P6 P7 : Prop} {Q : Prop} (h : P1 ∧ P2 ∧ P3 ∧ P4 ∧ P5 ∧ P6 ∧ P7 ∧ b < a ∧ Q) : a ≠ b := Nat.ne_of_gt h.2.2.2.2.2.2.2.1
theorem ne_r8' {a b : Nat} {P1 P2 P3 P4 P5 P6 P7 : Prop} (h : P1 ∧ P2 ∧ P3 ∧ P4 ∧ P5 ∧ P6 ∧ P7 ∧ b < a) : a ≠ b := Nat.ne_of_gt h.2.2.2.2.2.2.2
theorem ne_l9 {a b : Nat} {P1 P2 P3 P4 P5 P6 P7 P8 : Prop} {Q : Prop} (h : P1 ∧ P2 ∧ P3 ∧ P4 ∧ P5 ∧ P6 ∧ P7 ∧ P8 ∧ a < b ∧ Q) : a ≠ b := Nat.ne_of_lt h.2.2.2.2.2.2.2.2.1
theorem ne_l9' {a b : Nat} {P1 P2 P3 P4 P5 P6 P7 P8 : Prop} (h : P1 ∧ P2 ∧ P3 ∧ P4 ∧ P5 ∧ P6 ∧ P7 ∧ P8 ∧ a < b) : a ≠ b := Nat.ne_of_lt h.2.2.2.2.2.2.2.2
theorem ne_r9 {a b : Nat} {P1 P2 P3 P4 P5 P6 P7 P8 : Prop} {Q : Prop} (h : P1 ∧ P2 ∧ P3 ∧ P4 ∧ P5 ∧ P6 ∧ P7 ∧ P8 ∧ b < a ∧ Q) : a ≠ b := Nat.ne_of_gt h.2.2.2.2.2.2.2.2.1
theorem ne_r9' {a b : Nat} {P1 P2 P3 P4 P5 P6 P7 P8 : Prop} (h : P1 ∧ P2 ∧ P3 ∧ P4 ∧ P5 ∧ P6 ∧ P7 ∧ P8 ∧ b < a) : a ≠ b := Nat.ne_of_gt h.2.2.2.2.2.2.2.2
end Mine
end
local macro_rules | `(tactic| k_ne) => `(tactic| k_extra "ne")
local macro_rules | `(tactic| walk_at "exec For Name BinOp cons nil") => `(tactic| k_extra "exec For Name BinOp cons nil")
local macro_rules | `(tactic| walk_at "call ref") => `(tactic| k_extra "call ref")
local macro_rules | `(tactic| walk_at "call builtin:repr") => `(tactic| k_extra "call builtin:repr")
local macro_rules | `(tactic| walk_at "compareOp IsNot") => `(tactic| k_extra "compareOp IsNot")
local macro_rules | `(tactic| walk_at "compareOp Is") => `(tactic| k_extra "compareOp Is")
local macro_rules | `(tactic| walk_at "getMethod type:Exception") => `(tactic| k_extra "getMethod type:Exception")
local macro_rules | `(tactic| walk_at "call builtin:Exception.__init__") => `(tactic| k_extra "call builtin:Exception.__init__")
local macro_rules | `(tactic| walk_at "call builtin:str.format") => `(tactic| k_extra "call builtin:str.format")
local macro_rules | `(tactic| walk_at "call builtin:str.join") => `(tactic| k_extra "call builtin:str.join")
local macro_rules | `(tactic| walk_at "setAttr ref") => `(tactic| k_extra "setAttr ref")
local macro_rules | `(tactic| walk_at "getAttr ref") => `(tactic| k_extra "getAttr ref")
local macro_rules | `(tactic| walk_at "binaryOp Mod str ref") => `(tactic| k_extra "binaryOp Mod str ref")
local macro_rules | `(tactic| walk_at "call builtin:str.split") => `(tactic| k_extra "call builtin:str.split")
local macro_rules | `(tactic| walk_at "ite") => `(tactic| k_extra "ite")
section
open PySem PySem.W PyProof.Rows PySem.Calls PySem.Builtin
set_option maxHeartbeats 400000
namespace Mine
section
variable {M : Model} {A : Around} {E : Value → Shared → Prop} {s : Shared} {h₀ : Heap} {L : Addr} {env : Env} {st : Stmt} {Q : Flow → Shared → Prop}
/-- behind the message's branch: a list of texts whose join is the message -/
def CutPost (h₀ : Heap) (L : Addr) (base : List (Addr × Obj)) (m : PySem.Str → Option Value) (M9 : PySem.Str) (s : Shared) (f : Flow) (s' : Shared) : Prop :=
  f = .next ∧ ∃ (a9 : Addr) (its : List Value) (n : Nat) (xs : List PySem.Str) (h' : Heap) (tk' : Nat) (u : PySem.Str → Option Value), s' = { s with heap := h', toks := tk' } ∧
    Fr h₀ L h' (fun z => if z = PySem.Str.ofString "msg" then some (.ref a9) else if z = PySem.Str.ofString "message" then u z else m z) ∧ News h₀ L h' ((a9, W.listOf its.toArray n) :: base) ∧ StrsAre its xs ∧ catS xs = M9 ∧ (∀ x ∈ xs, x.length ≤ 5000) ∧ xs.length ≤ 1000 ∧ ∀ p ∈ base, @Ne Nat p.1 a9
theorem cut_end {base all : List (Addr × Obj)} {m m' : PySem.Str → Option Value} {M9 : PySem.Str} {a9 : Addr} {its : List Value} {n : Nat} {xs : List PySem.Str} {h' : Heap} {tk' : Nat} (F : Fr h₀ L h' m') (N : News h₀ L h' all) (hl : (a9, W.listOf its.toArray n) ∈ all) (hb : ∀ p ∈ base, p ∈ all)
    (hm : m' (PySem.Str.ofString "msg") = some (.ref a9)) (hr : ∀ z, z ≠ PySem.Str.ofString "msg" → z ≠ PySem.Str.ofString "message" → m' z = m z) (hs : StrsAre its xs) (he : catS xs = M9) (hx : ∀ x ∈ xs, x.length ≤ 5000) (hn : xs.length ≤ 1000) (hne : ∀ p ∈ base, @Ne Nat p.1 a9) :
    CutPost h₀ L base m M9 s .next { s with heap := h', toks := tk' } := by
  refine ⟨rfl, a9, its, n, xs, h', tk', m', rfl, ?_, fun p hp => ?_, hs, he, hx, hn, hne⟩
  · have e : (fun z => if z = PySem.Str.ofString "msg" then some (.ref a9) else if z = PySem.Str.ofString "message" then m' z else m z) = m' := by
      funext z
      by_cases h1 : z = PySem.Str.ofString "msg"
      · rw [if_pos h1, h1, hm]
      · rw [if_neg h1]
        by_cases h2 : z = PySem.Str.ofString "message"
        · rw [if_pos h2]
        · rw [if_neg h2, hr z h1 h2]
    rw [e]; exact F
  · rcases List.mem_cons.mp hp with rfl | hp
    · exact N _ hl
    · exact N p (hb p hp)
theorem cut_list {base : List (Addr × Obj)} {m : PySem.Str → Option Value} {p : Addr × Obj} (M9 : PySem.Str) (_F : Fr h₀ L s.heap m) (_N : News h₀ L s.heap (p :: base))
    (h1 : wpAny M A (exec st env) (CutPost h₀ L base m M9 s) E s)
    (h2 : ∀ (a9 : Addr) (its : List Value) (n : Nat) (xs : List PySem.Str) (h' : Heap) (tk' : Nat) (u : PySem.Str → Option Value), Fr h₀ L h' (fun z => if z = PySem.Str.ofString "msg" then some (.ref a9) else if z = PySem.Str.ofString "message" then u z else m z) → News h₀ L h' ((a9, W.listOf its.toArray n) :: base) → StrsAre its xs → catS xs = M9 → (∀ x ∈ xs, x.length ≤ 5000) → xs.length ≤ 1000 → (∀ p ∈ base, @Ne Nat p.1 a9) → Q .next { s with heap := h', toks := tk' }) :
    wpAny M A (exec st env) Q E s := wpAny_mono h1 (fun f s' h => by
    obtain ⟨e, a9, its, n, xs, h', tk', u, e2, F, N, a, b, c, d, ne⟩ := h
    subst e; subst e2; exact h2 a9 its n xs h' tk' u F N a b c d ne) fun _ _ x => x
end
end Mine
end
section
open PySem PySem.W PyProof.Rows
namespace Mine
set_option maxRecDepth 100000 in
set_option maxHeartbeats 8000000 in
open_shared top for PySem.Challenge.pw_dm0029_04 leaving 0
noncomputable def hd.heap_39 : Params → Frag := fun P => (nat_lit 2, Mine.top.o_5 P) :: (nat_lit 3, Mine.top.o_208 P) :: (nat_lit 29, Mine.top.o_22 P) :: (nat_lit 35, Mine.top.o_28 P) :: (nat_lit 36, Mine.top.o_29 P) :: (nat_lit 42, Mine.top.o_35 P) :: (nat_lit 43, Mine.top.o_36 P) :: (nat_lit 45, Mine.top.o_38 P) :: (nat_lit 46, Mine.top.o_94 P) :: (nat_lit 57, Mine.top.o_54 P) :: (nat_lit 63, Mine.top.o_60 P) :: (nat_lit 64, Mine.top.o_61 P) :: (nat_lit 66, Mine.top.o_63 P) :: (nat_lit 67, Mine.top.o_64 P) :: (nat_lit 77, Mine.top.o_78 P) :: (nat_lit 83, Mine.top.o_84 P) :: (nat_lit 84, Mine.top.o_85 P) :: (nat_lit 86, Mine.top.o_87 P) :: (nat_lit 87, Mine.top.o_88 P) :: (nat_lit 131, Mine.top.o_136 P) :: (nat_lit 132, Mine.top.o_166 P) :: (nat_lit 147, Mine.top.o_156 P) :: (nat_lit 148, Mine.top.o_157 P) :: (nat_lit 150, Mine.top.o_159 P) :: (nat_lit 151, Mine.top.o_160 P) :: (nat_lit 166, Mine.top.o_179 P) :: (nat_lit 167, Mine.top.o_180 P) :: (nat_lit 169, Mine.top.o_182 P) :: (nat_lit 170, Mine.top.o_183 P) :: (nat_lit 178, Mine.top.o_191 P) :: (nat_lit 179, Mine.top.o_192 P) :: (nat_lit 185, Mine.top.o_198 P) :: (nat_lit 186, Mine.top.o_199 P) :: (nat_lit 192, Mine.top.o_205 P) :: (nat_lit 193, Mine.top.o_206 P) :: (nat_lit 199, Mine.top.o_215 P) :: (nat_lit 200, Mine.top.o_216 P) :: []
end Mine
end
section
open PySem PySem.W PyProof.Rows PySem.Calls
namespace Mine
set_option maxRecDepth 100000 in
theorem xc67 (w : World) : model PySem.Challenge.rw_dm0029_04.row.prog w = model PySem.Challenge.rw_dm0029_04.row.prog w → XCls (Mine.hd.heap_39 w.params) 67 := by
  k_fill
  intro _
  exact ⟨⟨_, _, _, _, by k_is, by rfl⟩, by k_is, by k_is, by k_is, by k_is, by k_is⟩
local macro_rules | `(tactic| kt_len) => `(tactic| (with_reducible exact Mine.ReprAs.len (by with_reducible assumption)))
local macro_rules | `(tactic| kt_len) => `(tactic| (with_reducible exact Mine.pad2_len (by with_reducible assumption) (by with_reducible assumption)))
local macro_rules | `(tactic| kt_len) => `(tactic| (with_reducible exact Mine.itext_len_le (by with_reducible assumption) (by with_reducible assumption)))
set_option rowWalk.seconds 0 in
set_option maxRecDepth 100000 in
set_option maxHeartbeats 16000000 in
theorem dse_T : ∀ {vw : Program} (w : World) (loose : List PySem.Str) (mean : ExcName → Option Value) (mg mb : PySem.Str → Option Value) (dp un : Nat) (cn : PySem.Str) (cs : Scope) (a : Addr) (ccd : Value) (cl : List (PySem.Str × Addr)) (outer : List Env) (A₀ : Around) (base h₀ : Heap) (L : Addr) (m : PySem.Str → Option Value) (h : Heap) (g : Array GenState) (d : Drawn) (tk : Nat) (os : OsState) (Q E : Value → Shared → Prop) (v_section : Value) (r_section : PySem.Str) (src lin : Value) (rs : Option PySem.Str) (ln : Option Int),
    Below A₀ base outer h₀ → Fr h₀ L h m → (Mine.hd.heap_39 w.params).In h₀ → Top vw loose mean mg mb h₀ → cs.kind = .function → dp + 5 < recursionLimit → un + 80 < cLine → ReprAs PySem.Challenge.rw_dm0029_04.row.prog w h v_section r_section → SrcIs PySem.Challenge.rw_dm0029_04.row.prog w h src rs → LinIs lin ln →
    (∀ (x dx tx : Addr) (kt0 kt1 kt2 kt3 km : Tok) (h' : Heap) (tk' : Nat), (∀ b o, h.get? b = some o → h'.get? b = some o) → Fr h₀ L h' m → News h₀ L h' [(x, xObj 67 (some dx) (excF (.ref tx))), (dx, dictOf [⟨PyData.keyHash w.params (PySem.Str.ofString "message"), .str (PySem.Str.ofString "message") kt0, .str (againMsg (PySem.Str.ofString "Section ") (PySem.Str.ofString ": section ") [r_section, PySem.Str.ofString " already exists"] rs ln) km⟩, ⟨PyData.keyHash w.params (PySem.Str.ofString "section"), .str (PySem.Str.ofString "section") kt1, v_section⟩, ⟨PyData.keyHash w.params (PySem.Str.ofString "source"), .str (PySem.Str.ofString "source") kt2, src⟩, ⟨PyData.keyHash w.params (PySem.Str.ofString "lineno"), .str (PySem.Str.ofString "lineno") kt3, lin⟩] 4), (tx, tupObj [v_section, src, lin])] → Q (.ref x) ⟨h', g, d, tk', os⟩) →
    wpAny (model PySem.Challenge.rw_dm0029_04.row.prog w) (ktrTop dp un (some []) cn cs L a ccd cl outer) (call (.ref 67) [v_section, src, lin]) Q E ⟨h, g, d, tk, os⟩ := by
  k_with_none
  k_with "ite" => (k_here; (first | refine Mine.ite_ff ?_ | refine Mine.ite_tt ?_))
  k_with "ne" => (first | exact Mine.ne_l1 (by assumption) | exact Mine.ne_l1' (by assumption) | exact Mine.ne_r1 (by assumption) | exact Mine.ne_r1' (by assumption) | exact Mine.ne_l2 (by assumption) | exact Mine.ne_l2' (by assumption) | exact Mine.ne_r2 (by assumption) | exact Mine.ne_r2' (by assumption) | exact Mine.ne_l3 (by assumption) | exact Mine.ne_l3' (by assumption) | exact Mine.ne_r3 (by assumption) | exact Mine.ne_r3' (by assumption) | exact Mine.ne_l4 (by assumption) | exact Mine.ne_l4' (by assumption) | exact Mine.ne_r4 (by assumption) | exact Mine.ne_r4' (by assumption) | exact Mine.ne_l5 (by assumption) | exact Mine.ne_l5' (by assumption) | exact Mine.ne_r5 (by assumption) | exact Mine.ne_r5' (by assumption) | exact Mine.ne_l6 (by assumption) | exact Mine.ne_l6' (by assumption) | exact Mine.ne_r6 (by assumption) | exact Mine.ne_r6' (by assumption) | exact Mine.ne_l7 (by assumption) | exact Mine.ne_l7' (by assumption) | exact Mine.ne_r7 (by assumption) | exact Mine.ne_r7' (by assumption) | exact Mine.ne_l8 (by assumption) | exact Mine.ne_l8' (by assumption) | exact Mine.ne_r8 (by assumption) | exact Mine.ne_r8' (by assumption) | exact Mine.ne_l9 (by assumption) | exact Mine.ne_l9' (by assumption) | exact Mine.ne_r9 (by assumption) | exact Mine.ne_r9' (by assumption))
  k_with "exec For Name BinOp cons nil" => (k_here; (rename Fr _ _ _ _ => lF'); (with_unfolding_all refine' For_invVF lF' ?k1 ?k2 ?_; (case k1 => exact rfl); (case k2 => exact rfl); k_whole))
  k_with "call ref" => (k_here; k_dflt ((refine wpAny_call ?_); (refine' Mine.code_defG ?k1 ?k2 ?k3 ?k4 ?k5 ?kA ?kF ?kK ?k6 ?k7 ?k8 ?k9 ?kB ?_ ?c2 ?c3 ?c4 ?c5); (case kA => exact rfl); (case kF => exact rfl); (case kK => first | exact rfl | assumption); (case k1 => k_asm); (case k2 => k_asm); (case k3 => k_asm); (case k4 => k_asm); (case k5 => k_asm); (case k6 => k_is); (case k7 => k_is); (case k8 => ktr_room); (case k9 => first | exact BindsTo.of_eq rfl | exact binds_K (by k_in) rfl (by k_is) rfl rfl rfl | fail "no rule for these arguments"); (case c5 => decide); (case kB => exact locs rfl); (case c2 => exact rfl); (case c3 => exact rfl); (case c4 => exact rfl); k_whole; intro g' L' h' tk' hg' FG' F' N' B' X' T' l'; (clear hg'); (try k_lt l'); (try dsimp only); (try k_lift B'); (try k_fold)))
  k_with "call builtin:repr" => (k_here; (with_reducible show wpAny _ _ (call (Value.builtin "repr") [_]) _ _ _); k_dflt ((refine' Mine.ReprAs.run ?r0 ?rF ?rN ?rk ?ru ?rg ?_); (case r0 => with_reducible assumption); (case rF => k_asm); (case rN => k_asm); (case rk => first | exact (fun b o e => (Mine.keep_X (by with_reducible assumption) (by with_reducible assumption) (by with_reducible assumption) (by with_reducible assumption) b o e).1) | exact (fun _ _ e => Fr.keep (by with_reducible assumption) _ _ (Fr.keep (by with_reducible assumption) _ _ e)) | exact (fun _ _ e => Fr.keep (by with_reducible assumption) _ _ e)); (case ru => ((try simp only [units_deeper, units_in1, units_under_make]); ktr_units)); (case rg => exact rfl); k_whole; intro t' k' h' F' N'))
  k_with "compareOp IsNot" => (k_here; (with_reducible show wpAny _ _ (compareOp CmpOp.IsNot _ Value.none) _ _ _); refine Mine.isNot_none' (by with_reducible assumption) ?_)
  k_with "compareOp Is" => (k_here; (with_reducible show wpAny _ _ (compareOp CmpOp.Is _ Value.none) _ _ _); refine Mine.is_none' (by with_reducible assumption) ?_)
  k_with "getMethod type:Exception" => (k_here; refine' method_type ?F ?X ?m (by decide +kernel) ?e ?h ?_; (case F => k_asm); (case X => k_asm); (case m => kernel_rfl); (case e => k_dflt k_is); (case h => k_handed))
  k_with "call builtin:Exception.__init__" => (k_here; k_dflt (refine' Mine.init_K ?k1 ?k2 ?k3 ?k4 ?k5 ?k6 ?_; (case k1 => k_asm); (case k2 => k_asm); (case k3 => k_asm); (case k6 => (intro tx'; k_upd)); (case k4 => first | (with_reducible assumption) | exact Mine.xc67 _ rfl); (case k5 => exact Nat.le_of_ble_eq_true rfl); k_whole); intro t' h' F' N' l1; (try dsimp only at N'); (try k_lt l1); (try k_sweep))
  k_with "call builtin:str.format" => (k_here; (with_reducible show wpAny _ _ (call (Value.builtin "str.format") [Value.str _ _, Value.int _ _]) _ _ _); (refine Mine.line_2d (by assumption) (by assumption) ?_); intro _ _)
  k_with "call builtin:str.join" => (k_here; (with_reducible show wpAny _ _ (call (Value.builtin "str.join") [Value.str _ _, Value.ref _]) _ _ _); k_dflt (refine' Mine.join_cat ?jN ?jm ?ji ?jB ?jn ?_; (case jN => k_asm); (case jm => k_mem); (case ji => repeat (first | exact PyProof.Rows.StrsAre.nil | apply PyProof.Rows.StrsAre.cons)); (case jB => (repeat (first | exact List.forall_mem_nil _ | refine List.forall_mem_cons.mpr ⟨by first | (with_reducible exact Mine.le5 (Mine.ReprAs.len (by assumption))) | (with_reducible exact Mine.line_len (by assumption) (by assumption)) | decide +kernel, ?_⟩))); (case jn => exact Nat.le_of_ble_eq_true rfl)); intro _ _; (try simp only [Mine.catS]))
  k_with "setAttr ref" => (k_here; k_dflt (refine' Mine.set_newK ?k1 ?k2 ?k3 ?k4 ?k5 ?k6 ?_; (case k1 => k_asm); (case k2 => k_asm); (case k3 => k_asm); (case k6 => (intro dx'; k_upd)); (case k4 => first | (with_reducible assumption) | exact Mine.xc67 _ rfl); (case k5 => k_is); k_whole; intro d' h' F' N' l1; (try dsimp only at N'); (try k_lt l1); (try k_sweep)))
  k_with "setAttr ref" => (k_here; k_dflt (refine' Mine.set_dictK ?k1 ?k2 ?k3 ?k4 ?k5 ?k6 ?k7 ?k10 ?k11 ?k12 ?k13 ?_; (case k1 => k_asm); (case k2 => k_asm); (case k3 => k_asm); (case k4 => (refine' Mine.instX ?N ?h1 ?h2; (case N => k_asm); (case h1 => k_mem); (case h2 => k_mem))); (case k5 => exact rfl); (case k6 => first | (with_reducible assumption) | exact Mine.xc67 _ rfl); (case k7 => k_is); (case k10 => k_get); (case k11 => k_put); (case k12 => k_upd); (case k13 => exact Nat.le_of_ble_eq_true rfl); k_whole; intro h' F' N'; (try k_sweep)))
  k_with "setAttr ref" => (k_here; (with_reducible show wpAny _ _ (setAttr (Value.ref _) (PySem.Str.ofString "args") (Value.ref _)) _ _ _); k_dflt (refine' Mine.set_argsK ?k1 ?k2 ?k3 ?k4 ?k5 ?k6 ?k7 ?k8 ?_; (case k1 => k_asm); (case k2 => k_asm); (case k3 => k_asm); (case k4 => (refine' Mine.instX ?N ?h1 ?h2; (case N => k_asm); (case h1 => k_mem); (case h2 => k_mem))); (case k5 => first | (with_reducible assumption) | exact Mine.xc67 _ rfl); (case k6 => k_is); (case k7 => exact News.isTup (by k_asm) (by k_mem)); (case k8 => k_upd); k_whole; intro h' F' N'; (try k_sweep)))
  k_with "getAttr ref" => (k_here; k_dflt (refine' Mine.get_ownX ?k1 ?k2 ?k3 ?k4 ?k5 ?k6 ?k7 ?k8 ?_; (case k1 => k_asm); (case k2 => k_asm); (case k3 => (refine' Mine.instX ?N ?h1 ?h2; (case N => k_asm); (case h1 => k_mem); (case h2 => k_mem))); (case k4 => first | (with_reducible assumption) | exact Mine.xc67 _ rfl); (case k5 => k_is); (case k6 => k_is); (case k7 => k_get); (case k8 => first | k_handed | with_reducible assumption); k_whole))
  k_with "getAttr ref" => (k_here; (with_reducible show wpAny _ _ (getAttr (Value.ref _) (PySem.Str.ofString "args") _) _ _ _); k_dflt (refine' Mine.get_argsX ?k1 ?k2 ?k3 ?k4 ?k5 ?k6 ?k7 ?_; (case k1 => k_asm); (case k2 => k_asm); (case k3 => (refine' Mine.instX ?N ?h1 ?h2; (case N => k_asm); (case h1 => k_mem); (case h2 => k_mem))); (case k4 => first | (with_reducible assumption) | exact Mine.xc67 _ rfl); (case k5 => k_is); (case k6 => k_is); (case k7 => k_is); k_whole))
  k_with "call builtin:str.join" => (k_here; (with_reducible show wpAny _ _ (call (Value.builtin "str.join") [Value.str _ _, Value.ref _]) _ _ _); k_dflt (refine' Mine.join_cat ?jN ?jm ?ji ?jB ?jn ?_; (case jN => k_asm); (case jm => k_mem); (case ji => with_reducible assumption); (case jB => with_reducible assumption); (case jn => with_reducible assumption)); intro _ _; (rw [he9]))
  k_fill
  intro vw w loose mean mg mb dp un cn cs a ccd cl outer A₀ base h₀ L m h g d tk os Q E v_section r_section src lin rs ln B F X T hk hd hu hrv_section hsrc hlin hret
  refine' Mine.call_X0 ?k1 ?k2 ?k4 ?k5 ?k6 ?k7 ?_
  (case k1 => k_asm)
  (case k2 => k_asm)
  (case k4 => first | (with_reducible assumption) | exact Mine.xc67 _ rfl)
  (case k5 => k_is)
  (case k6 => k_is)
  (case k7 => exact Nat.le_of_ble_eq_true rfl)
  intro x0 tx0 h1 hkeep F1 N1 l1
  k_lt2 l1
  (refine' Mine.code_defG ?k1 ?k2 ?k3 ?k4 ?k5 ?kA ?kF ?kK ?k6 ?k7 ?k8 ?k9 ?kB ?_ ?c2 ?c3 ?c4 ?c5)
  (case kA => exact rfl)
  (case kF => exact rfl)
  (case kK => first | exact rfl | assumption)
  (case k1 => k_asm)
  (case k2 => k_asm)
  (case k3 => k_asm)
  (case k4 => k_asm)
  (case k5 => k_asm)
  (case k6 => k_is)
  (case k7 => k_is)
  (case k8 => ktr_room)
  (case k9 => first | exact BindsTo.of_eq rfl | exact binds_K (by k_in) rfl (by k_is) rfl rfl rfl | fail "no rule for these arguments")
  (case c5 => decide)
  (case kB => exact locs rfl)
  (case c2 => exact rfl)
  (case c3 => exact rfl)
  (case c4 => exact rfl)
  intro g1 L1 h2 tk2 hg1 FG1 F2 N2 B2 X2 T2 l2
  k_lt l2
  (try k_lift B2)
  (try k_fold)
  repeat ((fail_if_success (with_reducible show wpAny _ _ (exec (Stmt.If _ _ _ _) _) _ _ _)); first | (k_unfold; (try dsimp only)) | (k_end; wrow_close) | walk1 | (dsimp only; walk1) | (leave1; walk_say "STEP leave1"; try dsimp only))
  refine' Mine.cut_list (againMsg (PySem.Str.ofString "Section ") (PySem.Str.ofString ": section ") [r_section, PySem.Str.ofString " already exists"] rs ln) ?zzF ?zzN ?zz1 ?zz2
  (case zzF => k_asm)
  (case zzN => k_asm)
  (case zz1 =>
    cases hsrc
    case' some => cases hlin
    all_goals k_steps
    all_goals (refine' Mine.cut_end ?yf ?yn ?yl ?yb ?ym ?yr ?ys ?ye ?yx ?yk ?yz; (case yf => k_asm); (case yn => k_asm); (case ym => rfl); (case yl => k_mem); (case yb => repeat (first | exact List.forall_mem_nil _ | refine List.forall_mem_cons.mpr ⟨by k_mem, ?_⟩)); (case yr => (intro z z1 z2; simp [z1, z2])); (case ys => repeat (first | exact PyProof.Rows.StrsAre.nil | apply PyProof.Rows.StrsAre.cons)); (case ye => simp only [againMsg, catS, List.cons_append, List.nil_append]); (case yx => (repeat (first | exact List.forall_mem_nil _ | refine List.forall_mem_cons.mpr ⟨by first | (with_reducible exact Mine.le5 (Mine.ReprAs.len (by assumption))) | (with_reducible exact Mine.line_len (by assumption) (by assumption)) | decide +kernel, ?_⟩))); (case yk => exact Nat.le_of_ble_eq_true rfl); (case yz => repeat (first | exact List.forall_mem_nil _ | refine List.forall_mem_cons.mpr ⟨by k_ne, ?_⟩))))
  intro a9 its n9 xs h9 tk9 u9 F9 N9 hs9 he9 hx9 hn9 ne9
  simp only [List.forall_mem_cons, List.not_mem_nil, false_implies, implies_true, and_true] at ne9
  obtain ⟨ne8, ne9⟩ := ne9
  k_steps
  all_goals (refine' hret _ _ _ _ _ _ _ _ _ _ ?keep ?F ?N; (case keep => exact (fun b o e => (Mine.keep_X (by assumption) (by assumption) (by assumption) (by k_asm) b o e).1)); (case F => k_asm); (case N => (refine' Mine.news3 ?n0 ?n1 ?n2 ?n3; (case n0 => k_asm); (case n1 => k_mem); (case n2 => k_mem); (case n3 => k_mem))))
end Mine
end
section
open PySem PySem.W PyProof.Rows PySem.Calls PySem.Builtin
set_option maxRecDepth 100000
set_option maxHeartbeats 4000000
namespace Mine
theorem str_eq {x y : PySem.Str} (h : x.cps.toList = y.cps.toList) : x = y := PySem.Str.ext' (Array.ext' h)
theorem cps_app (x y : PySem.Str) : (x ++ y).cps.toList = x.cps.toList ++ y.cps.toList := by rw [PySem.Str.cps_append, Array.toList_append]
theorem len_cps (x : PySem.Str) : x.length = x.cps.toList.length := rfl
theorem slice_ij {x : PySem.Str} {i j : Nat} (h1 : i ≤ j) (h2 : j ≤ x.length) : (PySem.Txt.slice x (some (i : Int)) (some (j : Int))).cps.toList = (x.cps.toList.drop i).take (j - i) := by
  have h := slice_closes (x := x) (i := (i : Int)) (j := (j : Int)) ⟨Int.natCast_nonneg _, by omega, by rw [← len_cps]; omega⟩
  rw [beq_iff_eq.mp h]
  simp only [Int.toNat_natCast]
  congr 1
  omega
theorem slice_to {x : PySem.Str} {j : Nat} (h2 : j ≤ x.length) : (PySem.Txt.slice x none (some (j : Int))).cps.toList = x.cps.toList.take j := by
  have h := slice_closes_to (x := x) (j := (j : Int)) ⟨Int.natCast_nonneg _, by rw [← len_cps]; omega⟩
  rw [beq_iff_eq.mp h]
  simp
theorem slice_from {x : PySem.Str} {i : Nat} (h2 : i ≤ x.length) : (PySem.Txt.slice x (some (i : Int)) none).cps.toList = x.cps.toList.drop i := by
  have h := slice_from_eq (x := x) (i := (i : Int)) (b := (x.length : Int)) (Int.natCast_nonneg _) (by omega) rfl
  rw [h]
  simp only [Int.toNat_natCast]
  apply List.take_of_length_le
  rw [List.length_drop, ← len_cps]
  omega
section
variable {W O M C : PySem.Str}
theorem cut_len (e : W = O ++ M ++ C) : W.length = O.length + M.length + C.length := by rw [e, PySem.Str.length_append, PySem.Str.length_append]
theorem cut_pre (e : W = O ++ M ++ C) : PySem.Txt.slice W none (some (O.length : Int)) = O := by
  refine str_eq ?_
  rw [slice_to (by rw [cut_len e]; omega), e, cps_app, cps_app, List.append_assoc, len_cps, List.take_left]
theorem cut_suf (e : W = O ++ M ++ C) : PySem.Txt.slice W (some ((W.length : Int) - (C.length : Int))) none = C := by
  have hl := cut_len e
  have h1 : ((W.length : Int) - (C.length : Int)) = ((O.length + M.length : Nat) : Int) := by omega
  refine str_eq ?_
  rw [h1, slice_from (by omega), e, cps_app, cps_app, len_cps, len_cps, ← List.length_append, List.drop_left]
theorem cut_mid (e : W = O ++ M ++ C) : PySem.Txt.slice W (some (O.length : Int)) (some ((W.length : Int) - (C.length : Int))) = M := by
  have hl := cut_len e
  have h1 : ((W.length : Int) - (C.length : Int)) = ((O.length + M.length : Nat) : Int) := by omega
  refine str_eq ?_
  rw [h1, slice_ij (by omega) (by omega), e, cps_app, cps_app, List.append_assoc, len_cps, List.drop_left, Nat.add_sub_cancel_left, len_cps, List.take_left]
end
theorem keep_0 {h g h' : Heap} {L' : Addr} {m' : PySem.Str → Option Value} (hg : ∀ b o, h.get? b = some o → b ∉ ([] : List (Addr × Obj)).map (·.1) → g.get? b = some o) (F : Fr g L' h' m') : ∀ b o, h.get? b = some o → h'.get? b = some o :=
  fun b o e => F.keep b o (hg b o e (by simp))
theorem keep_N {h₀ h g h' : Heap} {L L' : Addr} {m' : PySem.Str → Option Value} {news news' : List (Addr × Obj)} (hg : ∀ b o, h.get? b = some o → b ∉ news.map (·.1) → g.get? b = some o) (N : News h₀ L h news) (F : Fr g L' h' m') (N' : News h₀ L h' news') (sub : ∀ p ∈ news, p ∈ news') :
    ∀ b o, h.get? b = some o → h'.get? b = some o := fun b o e => by
  by_cases hb : b ∈ news.map (·.1)
  · obtain ⟨p, hp, rfl⟩ := List.mem_map.mp hb
    have h1 := (N p hp).1
    rw [e] at h1
    cases h1
    exact (N' p (sub p hp)).1
  · exact F.keep b o (hg b o e hb)
theorem news_kept {h₀ h h' : Heap} {L : Addr} {news : List (Addr × Obj)} (hk : ∀ b o, h.get? b = some o → h'.get? b = some o) (N : News h₀ L h news) : News h₀ L h' news := fun p hp => ⟨hk _ _ (N p hp).1, (N p hp).2⟩
theorem is_none' {M : Model} {A : Around} {E : Value → Shared → Prop} {s : Shared} {v : Value} {Q : Value → Shared → Prop} (hv : (v == Value.none) = false) (h : Q (.bool false) s) : wpAny M A (compareOp .Is v .none) Q E s :=
  PySem.is_none (by rw [hv]; exact h)
theorem pad2_len_eq (n : Int) : ((pad2 n).length : Int) = max 2 ((itext n).length : Int) := by
  have h1 : 1 ≤ (itext n).length := by
    rw [itext_len]
    have := List.length_pos_iff.mpr (dig_ne n)
    omega
  unfold pad2
  split
  · rw [PySem.Str.length_append, show (PySem.Str.ofString " ").length = 1 from by decide +kernel]; omega
  · omega
end Mine
end
section
open PySem PySem.W PyProof.Rows PySem.Calls PySem.Builtin
set_option maxRecDepth 100000
set_option maxHeartbeats 4000000
namespace Mine
theorem tw_drop (g : Nat → Bool) : ∀ l : List Nat, l.drop (l.takeWhile g).length = l.dropWhile g
  | [] => rfl
  | a :: l => by
    by_cases h : g a = true
    · rw [List.takeWhile_cons_of_pos h, List.dropWhile_cons_of_pos h, List.length_cons, List.drop_succ_cons, tw_drop g l]
    · rw [List.takeWhile_cons_of_neg h, List.dropWhile_cons_of_neg h]; rfl
theorem sub_drop (x : PySem.Str) (i : Nat) : (PySem.Builtin.Str.strSub x i x.length).cps.toList = x.cps.toList.drop i := by
  show (x.cps.extract i x.cps.size).toList = _
  rw [Array.toList_extract, List.extract_eq_take_drop, List.take_of_length_le]
  rw [List.length_drop, Array.length_toList]
  omega
theorem lstrip_dw (x y : PySem.Str) : (Txt.lstripChars x y).cps.toList = x.cps.toList.dropWhile y.cps.contains := by
  have h1 : Txt.lstripChars x y = PySem.Builtin.Str.strSub x (x.cps.toList.takeWhile y.cps.contains).length x.length := by
    unfold Txt.lstripChars Txt.stripBy
    split
    · rename_i h
      simp only [stripSame, Bool.and_eq_true, beq_iff_eq] at h
      have h2 := h.1
      simp only [stripLo, if_true] at h2
      refine str_eq ?_
      rw [sub_drop, h2]
      rfl
    · rfl
  rw [h1, sub_drop, tw_drop]
theorem itext_head (n : Int) : ∃ c l, (itext n).cps.toList = c :: l ∧ c ≠ 32 := by
  rw [itext_cps]
  by_cases h : n < 0
  · exact ⟨45, dig n, by simp [h], by decide⟩
  · have hne := dig_ne n
    cases e : dig n with
    | nil => exact absurd e hne
    | cons c l =>
      refine ⟨c, l, by simp [h], ?_⟩
      have hm : c ∈ dig n := by rw [e]; exact List.mem_cons_self
      unfold dig at hm
      obtain ⟨k, hk, rfl⟩ := List.mem_map.mp hm
      have hd := Nat.isDigit_of_mem_toDigits (by decide) (by decide) hk
      intro h32
      unfold Char.isDigit at hd
      simp only [Bool.and_eq_true, decide_eq_true_eq] at hd
      have := hd.1
      have h3 : k.val.toNat = 32 := h32
      have h4 : (48 : UInt32).toNat ≤ k.val.toNat := this
      rw [h3] at h4
      exact absurd h4 (by decide)
theorem sp_has (c : Nat) : (PySem.Str.ofString " ").cps.contains c = (c == 32) := by
  have h : (PySem.Str.ofString " ").cps = #[32] := by decide +kernel
  rw [h, Bool.eq_iff_iff]
  simp
theorem lstrip_pad2 (n : Int) : Txt.lstripChars (pad2 n) (PySem.Str.ofString " ") = PySem.Str.ofString (toString n) := by
  obtain ⟨c, l, h1, h2⟩ := itext_head n
  have hc : ¬ (PySem.Str.ofString " ").cps.contains c = true := by rw [sp_has]; simpa using h2
  refine str_eq ?_
  rw [lstrip_dw]
  show _ = (itext n).cps.toList
  unfold pad2
  split
  · rw [cps_app, h1, show (PySem.Str.ofString " ").cps.toList = [32] from by decide +kernel]
    show List.dropWhile _ (32 :: (c :: l)) = _
    rw [List.dropWhile_cons_of_pos (by rw [sp_has]; rfl), List.dropWhile_cons_of_neg hc]
  · rw [h1, List.dropWhile_cons_of_neg hc]
theorem empty_same : (PySem.Str.ofString "" == PySem.Str.ofString "") = true := by decide +kernel
theorem pad2_as_max (n : Int) : (((pad2 n).length : Int) == if ((PySem.Str.ofString (toString n)).length : Int) > 2 then ((PySem.Str.ofString (toString n)).length : Int) else 2) = true := by
  rw [beq_iff_eq, pad2_len_eq]
  split <;> (have : ((itext n).length : Int) = ((PySem.Str.ofString (toString n)).length : Int) := rfl) <;> omega
end Mine
end
section
open PySem PySem.W PyProof.Rows PySem.Calls
namespace Mine
set_option maxRecDepth 100000 in
theorem xc87 (w : World) : model PySem.Challenge.rw_dm0029_04.row.prog w = model PySem.Challenge.rw_dm0029_04.row.prog w → XCls (Mine.hd.heap_39 w.params) 87 := by
  k_fill
  intro _
  exact ⟨⟨_, _, _, _, by k_is, by rfl⟩, by k_is, by k_is, by k_is, by k_is, by k_is⟩
set_option maxRecDepth 100000 in
theorem xc151 (w : World) : model PySem.Challenge.rw_dm0029_04.row.prog w = model PySem.Challenge.rw_dm0029_04.row.prog w → XCls (Mine.hd.heap_39 w.params) 151 := by
  k_fill
  intro _
  exact ⟨⟨_, _, _, _, by k_is, by rfl⟩, by k_is, by k_is, by k_is, by k_is, by k_is⟩
set_option maxRecDepth 100000 in
theorem xc170 (w : World) : model PySem.Challenge.rw_dm0029_04.row.prog w = model PySem.Challenge.rw_dm0029_04.row.prog w → XCls (Mine.hd.heap_39 w.params) 170 := by
  k_fill
  intro _
  exact ⟨⟨_, _, _, _, by k_is, by rfl⟩, by k_is, by k_is, by k_is, by k_is, by k_is⟩
local macro_rules | `(tactic| kt_len) => `(tactic| (with_reducible exact Mine.ReprAs.len (by with_reducible assumption)))
local macro_rules | `(tactic| kt_len) => `(tactic| (with_reducible exact Mine.pad2_len (by with_reducible assumption) (by with_reducible assumption)))
local macro_rules | `(tactic| kt_len) => `(tactic| (with_reducible exact Mine.itext_len_le (by with_reducible assumption) (by with_reducible assumption)))
set_option rowWalk.seconds 0 in
set_option maxRecDepth 100000 in
set_option maxHeartbeats 16000000 in
theorem stripped_T : ∀ {vw : Program} (w : World) (loose : List PySem.Str) (mean : ExcName → Option Value) (mg mb : PySem.Str → Option Value) (dp un : Nat) (cn : PySem.Str) (cs : Scope) (a : Addr) (ccd : Value) (cl : List (PySem.Str × Addr)) (outer : List Env) (A₀ : Around) (base h₀ : Heap) (L : Addr) (m : PySem.Str → Option Value) (h : Heap) (g : Array GenState) (d : Drawn) (tk : Nat) (os : OsState) (Q E : Value → Shared → Prop) (W O M C : PySem.Str) (t1 t2 t3 : Tok), Below A₀ base outer h₀ → Fr h₀ L h m → (Mine.hd.heap_39 w.params).In h₀ → Top vw loose mean mg mb h₀ → cs.kind = .function → dp + 5 < recursionLimit → un + 80 < cLine → W.length ≤ 1000000 → O.length ≤ 1000000 → C.length ≤ 1000000 → W = O ++ M ++ C →
    (∀ t h' tk', (∀ b o, h.get? b = some o → h'.get? b = some o) → Fr h₀ L h' m → Q (.str M t) ⟨h', g, d, tk', os⟩) →
    wpAny (model PySem.Challenge.rw_dm0029_04.row.prog w) (ktrTop dp un (some []) cn cs L a ccd cl outer) (call (.ref 179) [.str W t1, .str O t2, .str C t3]) Q E ⟨h, g, d, tk, os⟩ := by
  k_with_none
  k_with "ite" => (k_here; (first | refine Mine.ite_ff ?_ | refine Mine.ite_tt ?_))
  k_with "ne" => (first | exact Mine.ne_l1 (by assumption) | exact Mine.ne_l1' (by assumption) | exact Mine.ne_r1 (by assumption) | exact Mine.ne_r1' (by assumption) | exact Mine.ne_l2 (by assumption) | exact Mine.ne_l2' (by assumption) | exact Mine.ne_r2 (by assumption) | exact Mine.ne_r2' (by assumption) | exact Mine.ne_l3 (by assumption) | exact Mine.ne_l3' (by assumption) | exact Mine.ne_r3 (by assumption) | exact Mine.ne_r3' (by assumption) | exact Mine.ne_l4 (by assumption) | exact Mine.ne_l4' (by assumption) | exact Mine.ne_r4 (by assumption) | exact Mine.ne_r4' (by assumption) | exact Mine.ne_l5 (by assumption) | exact Mine.ne_l5' (by assumption) | exact Mine.ne_r5 (by assumption) | exact Mine.ne_r5' (by assumption) | exact Mine.ne_l6 (by assumption) | exact Mine.ne_l6' (by assumption) | exact Mine.ne_r6 (by assumption) | exact Mine.ne_r6' (by assumption) | exact Mine.ne_l7 (by assumption) | exact Mine.ne_l7' (by assumption) | exact Mine.ne_r7 (by assumption) | exact Mine.ne_r7' (by assumption) | exact Mine.ne_l8 (by assumption) | exact Mine.ne_l8' (by assumption) | exact Mine.ne_r8 (by assumption) | exact Mine.ne_r8' (by assumption) | exact Mine.ne_l9 (by assumption) | exact Mine.ne_l9' (by assumption) | exact Mine.ne_r9 (by assumption) | exact Mine.ne_r9' (by assumption))
  k_with "exec For Name BinOp cons nil" => (k_here; (rename Fr _ _ _ _ => lF'); (with_unfolding_all refine' For_invVF lF' ?k1 ?k2 ?_; (case k1 => exact rfl); (case k2 => exact rfl); k_whole))
  k_with "call ref" => (k_here; k_dflt ((refine wpAny_call ?_); (refine' Mine.code_defG ?k1 ?k2 ?k3 ?k4 ?k5 ?kA ?kF ?kK ?k6 ?k7 ?k8 ?k9 ?kB ?_ ?c2 ?c3 ?c4 ?c5); (case kA => exact rfl); (case kF => exact rfl); (case kK => first | exact rfl | assumption); (case k1 => k_asm); (case k2 => k_asm); (case k3 => k_asm); (case k4 => k_asm); (case k5 => k_asm); (case k6 => k_is); (case k7 => k_is); (case k8 => ktr_room); (case k9 => first | exact BindsTo.of_eq rfl | exact binds_K (by k_in) rfl (by k_is) rfl rfl rfl | fail "no rule for these arguments"); (case c5 => decide); (case kB => exact locs rfl); (case c2 => exact rfl); (case c3 => exact rfl); (case c4 => exact rfl); k_whole; intro g' L' h' tk' hg' FG' F' N' B' X' T' l'; (clear hg'); (try k_lt l'); (try dsimp only); (try k_lift B'); (try k_fold)))
  k_with "call builtin:repr" => (k_here; (with_reducible show wpAny _ _ (call (Value.builtin "repr") [_]) _ _ _); k_dflt ((refine' Mine.ReprAs.run ?r0 ?rF ?rN ?rk ?ru ?rg ?_); (case r0 => with_reducible assumption); (case rF => k_asm); (case rN => k_asm); (case rk => first | exact (fun b o e => (Mine.keep_X (by with_reducible assumption) (by with_reducible assumption) (by with_reducible assumption) (by with_reducible assumption) b o e).1) | exact (fun _ _ e => Fr.keep (by with_reducible assumption) _ _ (Fr.keep (by with_reducible assumption) _ _ e)) | exact (fun _ _ e => Fr.keep (by with_reducible assumption) _ _ e)); (case ru => ((try simp only [units_deeper, units_in1, units_under_make]); ktr_units)); (case rg => exact rfl); k_whole; intro t' k' h' F' N'))
  k_with "compareOp IsNot" => (k_here; (with_reducible show wpAny _ _ (compareOp CmpOp.IsNot _ Value.none) _ _ _); refine Mine.isNot_none' (by with_reducible assumption) ?_)
  k_with "getMethod type:Exception" => (k_here; refine' method_type ?F ?X ?m (by decide +kernel) ?e ?h ?_; (case F => k_asm); (case X => k_asm); (case m => kernel_rfl); (case e => k_dflt k_is); (case h => k_handed))
  k_with "call builtin:Exception.__init__" => (k_here; k_dflt (refine' Mine.init_K ?k1 ?k2 ?k3 ?k4 ?k5 ?k6 ?_; (case k1 => k_asm); (case k2 => k_asm); (case k3 => k_asm); (case k4 => first | exact Mine.xc67 _ rfl | exact Mine.xc87 _ rfl | exact Mine.xc151 _ rfl | exact Mine.xc170 _ rfl); (case k5 => exact Nat.le_of_ble_eq_true rfl); (case k6 => (intro tx'; k_upd)); k_whole); intro t' h' F' N' l1; (try dsimp only at N'); (try k_lt l1); (try k_sweep))
  k_with "call builtin:str.format" => (k_here; (with_reducible show wpAny _ _ (call (Value.builtin "str.format") [Value.str _ _, Value.int _ _]) _ _ _); (refine Mine.line_2d (by assumption) (by assumption) ?_); intro _ _)
  k_with "call builtin:str.join" => (k_here; (with_reducible show wpAny _ _ (call (Value.builtin "str.join") [Value.str _ _, Value.ref _]) _ _ _); k_dflt (refine' Mine.join_cat ?jN ?jm ?ji ?jB ?jn ?_; (case jN => k_asm); (case jm => k_mem); (case ji => repeat (first | exact PyProof.Rows.StrsAre.nil | apply PyProof.Rows.StrsAre.cons)); (case jB => (repeat (first | exact List.forall_mem_nil _ | refine List.forall_mem_cons.mpr ⟨by first | (with_reducible exact Mine.le5 (Mine.ReprAs.len (by assumption))) | (with_reducible exact Mine.line_len (by assumption) (by assumption)) | decide +kernel, ?_⟩))); (case jn => exact Nat.le_of_ble_eq_true rfl)); intro _ _; (try simp only [Mine.catS]))
  k_with "setAttr ref" => (k_here; k_dflt (refine' Mine.set_newK ?k1 ?k2 ?k3 ?k4 ?k5 ?k6 ?_; (case k1 => k_asm); (case k2 => k_asm); (case k3 => k_asm); (case k4 => first | exact Mine.xc67 _ rfl | exact Mine.xc87 _ rfl | exact Mine.xc151 _ rfl | exact Mine.xc170 _ rfl); (case k5 => k_is); (case k6 => (intro dx'; k_upd)); k_whole; intro d' h' F' N' l1; (try dsimp only at N'); (try k_lt l1); (try k_sweep)))
  k_with "setAttr ref" => (k_here; k_dflt (refine' Mine.set_dictK ?k1 ?k2 ?k3 ?k4 ?k5 ?k6 ?k7 ?k10 ?k11 ?k12 ?k13 ?_; (case k1 => k_asm); (case k2 => k_asm); (case k3 => k_asm); (case k4 => (refine' Mine.instX ?N ?h1 ?h2; (case N => k_asm); (case h1 => k_mem); (case h2 => k_mem))); (case k5 => exact rfl); (case k6 => first | exact Mine.xc67 _ rfl | exact Mine.xc87 _ rfl | exact Mine.xc151 _ rfl | exact Mine.xc170 _ rfl); (case k7 => k_is); (case k10 => k_get); (case k11 => k_put); (case k12 => k_upd); (case k13 => exact Nat.le_of_ble_eq_true rfl); k_whole; intro h' F' N'; (try k_sweep)))
  k_with "setAttr ref" => (k_here; (with_reducible show wpAny _ _ (setAttr (Value.ref _) (PySem.Str.ofString "args") (Value.ref _)) _ _ _); k_dflt (refine' Mine.set_argsK ?k1 ?k2 ?k3 ?k4 ?k5 ?k6 ?k7 ?k8 ?_; (case k1 => k_asm); (case k2 => k_asm); (case k3 => k_asm); (case k4 => (refine' Mine.instX ?N ?h1 ?h2; (case N => k_asm); (case h1 => k_mem); (case h2 => k_mem))); (case k5 => first | exact Mine.xc67 _ rfl | exact Mine.xc87 _ rfl | exact Mine.xc151 _ rfl | exact Mine.xc170 _ rfl); (case k6 => k_is); (case k7 => exact News.isTup (by k_asm) (by k_mem)); (case k8 => k_upd); k_whole; intro h' F' N'; (try k_sweep)))
  k_with "getAttr ref" => (k_here; k_dflt (refine' Mine.get_ownX ?k1 ?k2 ?k3 ?k4 ?k5 ?k6 ?k7 ?k8 ?_; (case k1 => k_asm); (case k2 => k_asm); (case k3 => (refine' Mine.instX ?N ?h1 ?h2; (case N => k_asm); (case h1 => k_mem); (case h2 => k_mem))); (case k4 => first | exact Mine.xc67 _ rfl | exact Mine.xc87 _ rfl | exact Mine.xc151 _ rfl | exact Mine.xc170 _ rfl); (case k5 => k_is); (case k6 => k_is); (case k7 => k_get); (case k8 => k_handed); k_whole))
  k_with "getAttr ref" => (k_here; (with_reducible show wpAny _ _ (getAttr (Value.ref _) (PySem.Str.ofString "args") _) _ _ _); k_dflt (refine' Mine.get_argsX ?k1 ?k2 ?k3 ?k4 ?k5 ?k6 ?k7 ?_; (case k1 => k_asm); (case k2 => k_asm); (case k3 => (refine' Mine.instX ?N ?h1 ?h2; (case N => k_asm); (case h1 => k_mem); (case h2 => k_mem))); (case k4 => first | exact Mine.xc67 _ rfl | exact Mine.xc87 _ rfl | exact Mine.xc151 _ rfl | exact Mine.xc170 _ rfl); (case k5 => k_is); (case k6 => k_is); (case k7 => k_is); k_whole))
  k_fill
  intro vw w loose mean mg mb dp un cn cs a ccd cl outer A₀ base h₀ L m h g d tk os Q E W O M C t1 t2 t3 B F X T hk hd hu hW hO hC he hret
  refine wpAny_call ?_
  (refine' Mine.code_defG ?k1 ?k2 ?k3 ?k4 ?k5 ?kA ?kF ?kK ?k6 ?k7 ?k8 ?k9 ?kB ?_ ?c2 ?c3 ?c4 ?c5)
  (case kA => exact rfl)
  (case kF => exact rfl)
  (case kK => first | exact rfl | assumption)
  (case k1 => k_asm)
  (case k2 => k_asm)
  (case k3 => k_asm)
  (case k4 => exact PyProof.Rows.News.nil)
  (case k5 => k_asm)
  (case k6 => k_is)
  (case k7 => k_is)
  (case k8 => ktr_room)
  (case k9 => first | exact BindsTo.of_eq rfl | exact binds_K (by k_in) rfl (by k_is) rfl rfl rfl | fail "no rule for these arguments")
  (case c5 => decide)
  (case kB => exact locs rfl)
  (case c2 => exact rfl)
  (case c3 => exact rfl)
  (case c4 => exact rfl)
  intro g1 L1 h2 tk2 hg1 FG1 F2 N2 B2 X2 T2 l2
  (try k_lt l2)
  (try k_lift B2)
  (try k_fold)
  k_steps
  · exfalso; have := cut_len he; omega
  · exact absurd (cut_pre he) (by have h9 : (PySem.Txt.slice W none (some (O.length : Int)) != O) = true := by assumption
                                  exact bne_iff_ne.mp h9)
  · exact absurd (cut_suf he) (by have h9 : (PySem.Txt.slice W (some ((W.length : Int) - (C.length : Int))) none != C) = true := by assumption
                                  exact bne_iff_ne.mp h9)
  · rw [cut_mid he]
    exact hret _ _ _ (keep_0 hg1 (by k_asm)) (by k_asm)
end Mine
end
section
open PySem PySem.W PyProof.Rows PySem.Calls
namespace Mine
theorem lit0 : (PySem.Str.ofString "Section ").cps.toList = [83, 101, 99, 116, 105, 111, 110, 32] := by decide +kernel
theorem lit1 : (PySem.Str.ofString "Section").cps.toList = [83, 101, 99, 116, 105, 111, 110] := by decide +kernel
theorem lit2 : (PySem.Str.ofString " ").cps.toList = [32] := by decide +kernel
theorem lit3 : (PySem.Str.ofString " already exists").cps.toList = [32, 97, 108, 114, 101, 97, 100, 121, 32, 101, 120, 105, 115, 116, 115] := by decide +kernel
theorem lit4 : (PySem.Str.ofString "While reading from ").cps.toList = [87, 104, 105, 108, 101, 32, 114, 101, 97, 100, 105, 110, 103, 32, 102, 114, 111, 109, 32] := by decide +kernel
theorem lit5 : (PySem.Str.ofString ": section ").cps.toList = [58, 32, 115, 101, 99, 116, 105, 111, 110, 32] := by decide +kernel
theorem lit6 : (PySem.Str.ofString ": ").cps.toList = [58, 32] := by decide +kernel
theorem lit7 : (PySem.Str.ofString "section").cps.toList = [115, 101, 99, 116, 105, 111, 110] := by decide +kernel
theorem lit8 : (PySem.Str.ofString " [line ").cps.toList = [32, 91, 108, 105, 110, 101, 32] := by decide +kernel
theorem lit9 : (PySem.Str.ofString "]").cps.toList = [93] := by decide +kernel
theorem lit10 : (PySem.Str.ofString "").cps.toList = [] := by decide +kernel
theorem lit11 : (PySem.Str.ofString "Option ").cps.toList = [79, 112, 116, 105, 111, 110, 32] := by decide +kernel
theorem lit12 : (PySem.Str.ofString "Option").cps.toList = [79, 112, 116, 105, 111, 110] := by decide +kernel
theorem lit13 : (PySem.Str.ofString "option").cps.toList = [111, 112, 116, 105, 111, 110] := by decide +kernel
theorem lit14 : (PySem.Str.ofString " in section ").cps.toList = [32, 105, 110, 32, 115, 101, 99, 116, 105, 111, 110, 32] := by decide +kernel
theorem lit15 : (PySem.Str.ofString ": option ").cps.toList = [58, 32, 111, 112, 116, 105, 111, 110, 32] := by decide +kernel
theorem lit16 : (PySem.Str.ofString "file: ").cps.toList = [102, 105, 108, 101, 58, 32] := by decide +kernel
theorem lit17 : (PySem.Str.ofString ", line: ").cps.toList = [44, 32, 108, 105, 110, 101, 58, 32] := by decide +kernel
local macro_rules | `(tactic| kt_len) => `(tactic| (with_reducible exact Mine.ReprAs.len (by with_reducible assumption)))
local macro_rules | `(tactic| kt_len) => `(tactic| (with_reducible exact Mine.pad2_len (by with_reducible assumption) (by with_reducible assumption)))
local macro_rules | `(tactic| kt_len) => `(tactic| (with_reducible exact Mine.itext_len_le (by with_reducible assumption) (by with_reducible assumption)))
set_option rowWalk.seconds 0 in
set_option maxRecDepth 100000 in
set_option maxHeartbeats 16000000 in
theorem againS_T : ∀ {vw : Program} (w : World) (loose : List PySem.Str) (mean : ExcName → Option Value) (mg mb : PySem.Str → Option Value) (dp un : Nat) (cn : PySem.Str) (cs : Scope) (a : Addr) (ccd : Value) (cl : List (PySem.Str × Addr)) (outer : List Env) (A₀ : Around) (base h₀ : Heap) (L : Addr) (m : PySem.Str → Option Value) (h : Heap) (g : Array GenState) (d : Drawn) (tk : Nat) (os : OsState) (Q E : Value → Shared → Prop) (v_section : Value) (r_section : PySem.Str) (src lin : Value) (rs : Option PySem.Str) (ln : Option Int) (x dx tx nl : Addr) (kt0 kt1 kt2 kt3 km : Tok) (nk : Nat),
    Below A₀ base outer h₀ → Fr h₀ L h m → (Mine.hd.heap_39 w.params).In h₀ → Top vw loose mean mg mb h₀ → cs.kind = .function → dp + 9 < recursionLimit → un + 160 < cLine → ReprAs PySem.Challenge.rw_dm0029_04.row.prog w h₀ v_section r_section → SrcIs PySem.Challenge.rw_dm0029_04.row.prog w h₀ src rs → LinIs lin ln →
    News h₀ L h [(x, xObj 67 (some dx) (excF (.ref tx))), (dx, dictOf [⟨PyData.keyHash w.params (PySem.Str.ofString "message"), .str (PySem.Str.ofString "message") kt0, .str (againMsg (PySem.Str.ofString "Section ") (PySem.Str.ofString ": section ") [r_section, PySem.Str.ofString " already exists"] rs ln) km⟩, ⟨PyData.keyHash w.params (PySem.Str.ofString "section"), .str (PySem.Str.ofString "section") kt1, v_section⟩, ⟨PyData.keyHash w.params (PySem.Str.ofString "source"), .str (PySem.Str.ofString "source") kt2, src⟩, ⟨PyData.keyHash w.params (PySem.Str.ofString "lineno"), .str (PySem.Str.ofString "lineno") kt3, lin⟩] 4), (nl, W.listOf #[v_section] nk)] →
    (∀ h' tk', (∀ b o, h.get? b = some o → h'.get? b = some o) → Fr h₀ L h' m → Q (.bool true) ⟨h', g, d, tk', os⟩) →
    wpAny (model PySem.Challenge.rw_dm0029_04.row.prog w) (ktrTop dp un (some []) cn cs L a ccd cl outer) (call (.ref 186) [.ref x, .ref nl, src, lin]) Q E ⟨h, g, d, tk, os⟩ := by
  k_with_none
  k_with "ite" => (k_here; (first | refine Mine.ite_ff ?_ | refine Mine.ite_tt ?_))
  k_with "ne" => (first | exact Mine.ne_l1 (by assumption) | exact Mine.ne_l1' (by assumption) | exact Mine.ne_r1 (by assumption) | exact Mine.ne_r1' (by assumption) | exact Mine.ne_l2 (by assumption) | exact Mine.ne_l2' (by assumption) | exact Mine.ne_r2 (by assumption) | exact Mine.ne_r2' (by assumption) | exact Mine.ne_l3 (by assumption) | exact Mine.ne_l3' (by assumption) | exact Mine.ne_r3 (by assumption) | exact Mine.ne_r3' (by assumption) | exact Mine.ne_l4 (by assumption) | exact Mine.ne_l4' (by assumption) | exact Mine.ne_r4 (by assumption) | exact Mine.ne_r4' (by assumption) | exact Mine.ne_l5 (by assumption) | exact Mine.ne_l5' (by assumption) | exact Mine.ne_r5 (by assumption) | exact Mine.ne_r5' (by assumption) | exact Mine.ne_l6 (by assumption) | exact Mine.ne_l6' (by assumption) | exact Mine.ne_r6 (by assumption) | exact Mine.ne_r6' (by assumption) | exact Mine.ne_l7 (by assumption) | exact Mine.ne_l7' (by assumption) | exact Mine.ne_r7 (by assumption) | exact Mine.ne_r7' (by assumption) | exact Mine.ne_l8 (by assumption) | exact Mine.ne_l8' (by assumption) | exact Mine.ne_r8 (by assumption) | exact Mine.ne_r8' (by assumption) | exact Mine.ne_l9 (by assumption) | exact Mine.ne_l9' (by assumption) | exact Mine.ne_r9 (by assumption) | exact Mine.ne_r9' (by assumption))
  k_with "exec For Name BinOp cons nil" => (k_here; (rename Fr _ _ _ _ => lF'); (with_unfolding_all refine' For_invVF lF' ?k1 ?k2 ?_; (case k1 => exact rfl); (case k2 => exact rfl); k_whole))
  k_with "call ref" => (k_here; (fail_if_success (with_reducible show wpAny _ _ (call (Value.ref 179) _) _ _ _)); k_dflt ((refine wpAny_call ?_); (refine' Mine.code_defG ?k1 ?k2 ?k3 ?k4 ?k5 ?kA ?kF ?kK ?k6 ?k7 ?k8 ?k9 ?kB ?_ ?c2 ?c3 ?c4 ?c5); (case kA => exact rfl); (case kF => exact rfl); (case kK => first | exact rfl | assumption); (case k1 => k_asm); (case k2 => k_asm); (case k3 => k_asm); (case k4 => k_asm); (case k5 => k_asm); (case k6 => k_is); (case k7 => k_is); (case k8 => ktr_room); (case k9 => first | exact BindsTo.of_eq rfl | exact binds_K (by k_in) rfl (by k_is) rfl rfl rfl | fail "no rule for these arguments"); (case c5 => decide); (case kB => exact locs rfl); (case c2 => exact rfl); (case c3 => exact rfl); (case c4 => exact rfl); k_whole; intro g' L' h' tk' hg' FG' F' N' B' X' T' l'; (clear hg'); (try k_lt l'); (try dsimp only); (try k_lift B'); (try k_fold)))
  k_with "call builtin:repr" => (k_here; (with_reducible show wpAny _ _ (call (Value.builtin "repr") [_]) _ _ _); k_dflt ((refine' Mine.ReprAs.run ?r0 ?rF ?rN ?rk ?ru ?rg ?_); (case r0 => with_reducible assumption); (case rF => k_asm); (case rN => k_asm); (case rk => first | exact (fun b o e => (Mine.keep_X (by with_reducible assumption) (by with_reducible assumption) (by with_reducible assumption) (by with_reducible assumption) b o e).1) | exact (fun _ _ e => Fr.keep (by with_reducible assumption) _ _ (Fr.keep (by with_reducible assumption) _ _ e)) | exact (fun _ _ e => Fr.keep (by with_reducible assumption) _ _ e)); (case ru => ((try simp only [units_deeper, units_in1, units_under_make]); ktr_units)); (case rg => exact rfl); k_whole; intro t' k' h' F' N'))
  k_with "compareOp IsNot" => (k_here; (with_reducible show wpAny _ _ (compareOp CmpOp.IsNot _ Value.none) _ _ _); refine Mine.isNot_none' (by with_reducible assumption) ?_)
  k_with "compareOp Is" => (k_here; (with_reducible show wpAny _ _ (compareOp CmpOp.Is _ Value.none) _ _ _); refine Mine.is_none' (by with_reducible assumption) ?_)
  k_with "getMethod type:Exception" => (k_here; refine' method_type ?F ?X ?m (by decide +kernel) ?e ?h ?_; (case F => k_asm); (case X => k_asm); (case m => kernel_rfl); (case e => k_dflt k_is); (case h => k_handed))
  k_with "call builtin:Exception.__init__" => (k_here; k_dflt (refine' Mine.init_K ?k1 ?k2 ?k3 ?k4 ?k5 ?k6 ?_; (case k1 => k_asm); (case k2 => k_asm); (case k3 => k_asm); (case k6 => (intro tx'; k_upd)); (case k4 => first | (with_reducible assumption) | exact Mine.xc67 _ rfl | exact Mine.xc87 _ rfl | exact Mine.xc151 _ rfl | exact Mine.xc170 _ rfl); (case k5 => exact Nat.le_of_ble_eq_true rfl); k_whole); intro t' h' F' N' l1; (try dsimp only at N'); (try k_lt l1); (try k_sweep))
  k_with "call builtin:str.format" => (k_here; (with_reducible show wpAny _ _ (call (Value.builtin "str.format") [Value.str _ _, Value.int _ _]) _ _ _); (refine Mine.line_2d (by assumption) (by assumption) ?_); intro _ _)
  k_with "call builtin:str.join" => (k_here; (with_reducible show wpAny _ _ (call (Value.builtin "str.join") [Value.str _ _, Value.ref _]) _ _ _); k_dflt (refine' Mine.join_cat ?jN ?jm ?ji ?jB ?jn ?_; (case jN => k_asm); (case jm => k_mem); (case ji => repeat (first | exact PyProof.Rows.StrsAre.nil | apply PyProof.Rows.StrsAre.cons)); (case jB => (repeat (first | exact List.forall_mem_nil _ | refine List.forall_mem_cons.mpr ⟨by first | (with_reducible exact Mine.le5 (Mine.ReprAs.len (by assumption))) | (with_reducible exact Mine.line_len (by assumption) (by assumption)) | decide +kernel, ?_⟩))); (case jn => exact Nat.le_of_ble_eq_true rfl)); intro _ _; (try simp only [Mine.catS]))
  k_with "setAttr ref" => (k_here; k_dflt (refine' Mine.set_newK ?k1 ?k2 ?k3 ?k4 ?k5 ?k6 ?_; (case k1 => k_asm); (case k2 => k_asm); (case k3 => k_asm); (case k6 => (intro dx'; k_upd)); (case k4 => first | (with_reducible assumption) | exact Mine.xc67 _ rfl | exact Mine.xc87 _ rfl | exact Mine.xc151 _ rfl | exact Mine.xc170 _ rfl); (case k5 => k_is); k_whole; intro d' h' F' N' l1; (try dsimp only at N'); (try k_lt l1); (try k_sweep)))
  k_with "setAttr ref" => (k_here; k_dflt (refine' Mine.set_dictK ?k1 ?k2 ?k3 ?k4 ?k5 ?k6 ?k7 ?k10 ?k11 ?k12 ?k13 ?_; (case k1 => k_asm); (case k2 => k_asm); (case k3 => k_asm); (case k4 => (refine' Mine.instX ?N ?h1 ?h2; (case N => k_asm); (case h1 => k_mem); (case h2 => k_mem))); (case k5 => exact rfl); (case k6 => first | (with_reducible assumption) | exact Mine.xc67 _ rfl | exact Mine.xc87 _ rfl | exact Mine.xc151 _ rfl | exact Mine.xc170 _ rfl); (case k7 => k_is); (case k10 => k_get); (case k11 => k_put); (case k12 => k_upd); (case k13 => exact Nat.le_of_ble_eq_true rfl); k_whole; intro h' F' N'; (try k_sweep)))
  k_with "setAttr ref" => (k_here; (with_reducible show wpAny _ _ (setAttr (Value.ref _) (PySem.Str.ofString "args") (Value.ref _)) _ _ _); k_dflt (refine' Mine.set_argsK ?k1 ?k2 ?k3 ?k4 ?k5 ?k6 ?k7 ?k8 ?_; (case k1 => k_asm); (case k2 => k_asm); (case k3 => k_asm); (case k4 => (refine' Mine.instX ?N ?h1 ?h2; (case N => k_asm); (case h1 => k_mem); (case h2 => k_mem))); (case k5 => first | (with_reducible assumption) | exact Mine.xc67 _ rfl | exact Mine.xc87 _ rfl | exact Mine.xc151 _ rfl | exact Mine.xc170 _ rfl); (case k6 => k_is); (case k7 => exact News.isTup (by k_asm) (by k_mem)); (case k8 => k_upd); k_whole; intro h' F' N'; (try k_sweep)))
  k_with "getAttr ref" => (k_here; k_dflt (refine' Mine.get_ownX ?k1 ?k2 ?k3 ?k4 ?k5 ?k6 ?k7 ?k8 ?_; (case k1 => k_asm); (case k2 => k_asm); (case k3 => (refine' Mine.instX ?N ?h1 ?h2; (case N => k_asm); (case h1 => k_mem); (case h2 => k_mem))); (case k4 => first | (with_reducible assumption) | exact Mine.xc67 _ rfl | exact Mine.xc87 _ rfl | exact Mine.xc151 _ rfl | exact Mine.xc170 _ rfl); (case k5 => k_is); (case k6 => k_is); (case k7 => k_get); (case k8 => first | k_handed | with_reducible assumption); k_whole))
  k_with "getAttr ref" => (k_here; (with_reducible show wpAny _ _ (getAttr (Value.ref _) (PySem.Str.ofString "args") _) _ _ _); k_dflt (refine' Mine.get_argsX ?k1 ?k2 ?k3 ?k4 ?k5 ?k6 ?k7 ?_; (case k1 => k_asm); (case k2 => k_asm); (case k3 => (refine' Mine.instX ?N ?h1 ?h2; (case N => k_asm); (case h1 => k_mem); (case h2 => k_mem))); (case k4 => first | (with_reducible assumption) | exact Mine.xc67 _ rfl | exact Mine.xc87 _ rfl | exact Mine.xc151 _ rfl | exact Mine.xc170 _ rfl); (case k5 => k_is); (case k6 => k_is); (case k7 => k_is); k_whole))
  k_with "call ref" => (k_here; (with_reducible show wpAny _ _ (call (Value.ref 179) _) _ _ _); (try unfold Mine.placeRow); k_dflt ((first | (refine' Mine.stripped_T _ _ _ _ _ _ _ _ _ _ _ _ _ _ _ _ _ _ _ _ _ _ _ _ _ _ _ (PySem.Str.ofString "") _ _ _ _ ?k1 ?k2 ?k3 ?k4 ?k5 ?k6 ?k7 ?s1 ?s2 ?s3 ?se ?_; (case se => ((refine Mine.str_eq ?_); (simp only [Mine.cps_app, List.append_assoc, Mine.lit0, Mine.lit1, Mine.lit2, Mine.lit3, Mine.lit4, Mine.lit5, Mine.lit6, Mine.lit7, Mine.lit8, Mine.lit9, Mine.lit10, Mine.lit11, Mine.lit12, Mine.lit13, Mine.lit14, Mine.lit15, Mine.lit16, Mine.lit17, List.cons_append, List.nil_append, List.append_nil])))) | (refine' Mine.stripped_T _ _ _ _ _ _ _ _ _ _ _ _ _ _ _ _ _ _ _ _ _ _ _ _ _ _ _ (PySem.Str.ofString " [line " ++ Mine.pad2 ‹Int› ++ PySem.Str.ofString "]") _ _ _ _ ?k1 ?k2 ?k3 ?k4 ?k5 ?k6 ?k7 ?s1 ?s2 ?s3 ?se ?_; (case se => ((refine Mine.str_eq ?_); (simp only [Mine.cps_app, List.append_assoc, Mine.lit0, Mine.lit1, Mine.lit2, Mine.lit3, Mine.lit4, Mine.lit5, Mine.lit6, Mine.lit7, Mine.lit8, Mine.lit9, Mine.lit10, Mine.lit11, Mine.lit12, Mine.lit13, Mine.lit14, Mine.lit15, Mine.lit16, Mine.lit17, List.cons_append, List.nil_append, List.append_nil])))) | (refine' Mine.stripped_T _ _ _ _ _ _ _ _ _ _ _ _ _ _ _ _ _ _ _ _ _ _ _ _ _ _ _ (Mine.pad2 ‹Int›) _ _ _ _ ?k1 ?k2 ?k3 ?k4 ?k5 ?k6 ?k7 ?s1 ?s2 ?s3 ?se ?_; (case se => ((refine Mine.str_eq ?_); (simp only [Mine.cps_app, List.append_assoc, Mine.lit0, Mine.lit1, Mine.lit2, Mine.lit3, Mine.lit4, Mine.lit5, Mine.lit6, Mine.lit7, Mine.lit8, Mine.lit9, Mine.lit10, Mine.lit11, Mine.lit12, Mine.lit13, Mine.lit14, Mine.lit15, Mine.lit16, Mine.lit17, List.cons_append, List.nil_append, List.append_nil]))))); (case k1 => k_asm); (case k2 => k_asm); (case k3 => k_asm); (case k4 => k_asm); (case k5 => first | exact rfl | assumption); (case k6 => ktr_room); (case k7 => ktr_units); (case s1 => (refine Nat.le_trans (by kt_len) ?_; exact Nat.le_of_ble_eq_true rfl)); (case s2 => (refine Nat.le_trans (by kt_len) ?_; exact Nat.le_of_ble_eq_true rfl)); (case s3 => (refine Nat.le_trans (by kt_len) ?_; exact Nat.le_of_ble_eq_true rfl)); k_whole); intro t' h' tk' hk' F'; (have N' := Mine.news_kept hk' (by k_asm)); (clear hk'); (try dsimp only))
  k_fill
  intro vw w loose mean mg mb dp un cn cs a ccd cl outer A₀ base h₀ L m h g d tk os Q E v_section r_section src lin rs ln x dx tx nl kt0 kt1 kt2 kt3 km nk B F X T hk hd hu hrv_section hsrc hlin N hret
  refine wpAny_call ?_
  (refine' Mine.code_defG ?k1 ?k2 ?k3 ?k4 ?k5 ?kA ?kF ?kK ?k6 ?k7 ?k8 ?k9 ?kB ?_ ?c2 ?c3 ?c4 ?c5)
  (case kA => exact rfl)
  (case kF => exact rfl)
  (case kK => first | exact rfl | assumption)
  (case k1 => k_asm)
  (case k2 => k_asm)
  (case k3 => k_asm)
  (case k4 => k_asm)
  (case k5 => k_asm)
  (case k6 => k_is)
  (case k7 => k_is)
  (case k8 => ktr_room)
  (case k9 => first | exact BindsTo.of_eq rfl | exact binds_K (by k_in) rfl (by k_is) rfl rfl rfl | fail "no rule for these arguments")
  (case c5 => decide)
  (case kB => exact locs rfl)
  (case c2 => exact rfl)
  (case c3 => exact rfl)
  (case c4 => exact rfl)
  intro g1 L1 h2 tk2 hg1 FG1 F2 N2 B2 X2 T2 l2
  k_lt l2
  (try k_lift B2)
  (try k_fold)
  repeat ((fail_if_success (with_reducible show wpAny _ _ (exec (Stmt.If (Expr.Compare _ [CmpOp.Is] _ _) _ _ _) _) _ _ _)); first | (k_unfold; (try dsimp only)) | (k_end; wrow_close) | walk1 | (dsimp only; walk1) | (leave1; walk_say "STEP leave1"; try dsimp only))
  rename News _ _ _ _ => NN
  rcases hsrc with _ | ⟨_, rv, hv1, hv2⟩
  case' some => rcases hlin with _ | ⟨n, tn, hn1, hn2⟩
  all_goals (try (have hp1 := pad2_len hn1 hn2; have hp2 := itext_len_le hn1 hn2))
  all_goals (simp only [againMsg, catS, List.cons_append, List.nil_append] at N NN)
  all_goals k_steps
  all_goals (try rw [empty_same])
  all_goals (try rw [lstrip_pad2, beq_self_eq_true])
  all_goals (try rw [pad2_as_max n])
  all_goals (exact hret _ _ (keep_N hg1 N (by k_asm) (by k_asm) (fun p hp => by k_in)) (by k_asm))
set_option rowWalk.seconds 0 in
set_option maxRecDepth 100000 in
set_option maxHeartbeats 16000000 in
theorem againO_T : ∀ {vw : Program} (w : World) (loose : List PySem.Str) (mean : ExcName → Option Value) (mg mb : PySem.Str → Option Value) (dp un : Nat) (cn : PySem.Str) (cs : Scope) (a : Addr) (ccd : Value) (cl : List (PySem.Str × Addr)) (outer : List Env) (A₀ : Around) (base h₀ : Heap) (L : Addr) (m : PySem.Str → Option Value) (h : Heap) (g : Array GenState) (d : Drawn) (tk : Nat) (os : OsState) (Q E : Value → Shared → Prop) (v_option : Value) (r_option : PySem.Str) (v_section : Value) (r_section : PySem.Str) (src lin : Value) (rs : Option PySem.Str) (ln : Option Int) (x dx tx nl : Addr) (kt0 kt1 kt2 kt3 kt4 km : Tok) (nk : Nat),
    Below A₀ base outer h₀ → Fr h₀ L h m → (Mine.hd.heap_39 w.params).In h₀ → Top vw loose mean mg mb h₀ → cs.kind = .function → dp + 9 < recursionLimit → un + 160 < cLine → ReprAs PySem.Challenge.rw_dm0029_04.row.prog w h₀ v_option r_option → ReprAs PySem.Challenge.rw_dm0029_04.row.prog w h₀ v_section r_section → SrcIs PySem.Challenge.rw_dm0029_04.row.prog w h₀ src rs → LinIs lin ln →
    News h₀ L h [(x, xObj 87 (some dx) (excF (.ref tx))), (dx, dictOf [⟨PyData.keyHash w.params (PySem.Str.ofString "message"), .str (PySem.Str.ofString "message") kt0, .str (againMsg (PySem.Str.ofString "Option ") (PySem.Str.ofString ": option ") [r_option, PySem.Str.ofString " in section ", r_section, PySem.Str.ofString " already exists"] rs ln) km⟩, ⟨PyData.keyHash w.params (PySem.Str.ofString "section"), .str (PySem.Str.ofString "section") kt1, v_section⟩, ⟨PyData.keyHash w.params (PySem.Str.ofString "option"), .str (PySem.Str.ofString "option") kt2, v_option⟩, ⟨PyData.keyHash w.params (PySem.Str.ofString "source"), .str (PySem.Str.ofString "source") kt3, src⟩, ⟨PyData.keyHash w.params (PySem.Str.ofString "lineno"), .str (PySem.Str.ofString "lineno") kt4, lin⟩] 5), (nl, W.listOf #[v_option, v_section] nk)] →
    (∀ h' tk', (∀ b o, h.get? b = some o → h'.get? b = some o) → Fr h₀ L h' m → Q (.bool true) ⟨h', g, d, tk', os⟩) →
    wpAny (model PySem.Challenge.rw_dm0029_04.row.prog w) (ktrTop dp un (some []) cn cs L a ccd cl outer) (call (.ref 186) [.ref x, .ref nl, src, lin]) Q E ⟨h, g, d, tk, os⟩ := by
  k_with_none
  k_with "ite" => (k_here; (first | refine Mine.ite_ff ?_ | refine Mine.ite_tt ?_))
  k_with "ne" => (first | exact Mine.ne_l1 (by assumption) | exact Mine.ne_l1' (by assumption) | exact Mine.ne_r1 (by assumption) | exact Mine.ne_r1' (by assumption) | exact Mine.ne_l2 (by assumption) | exact Mine.ne_l2' (by assumption) | exact Mine.ne_r2 (by assumption) | exact Mine.ne_r2' (by assumption) | exact Mine.ne_l3 (by assumption) | exact Mine.ne_l3' (by assumption) | exact Mine.ne_r3 (by assumption) | exact Mine.ne_r3' (by assumption) | exact Mine.ne_l4 (by assumption) | exact Mine.ne_l4' (by assumption) | exact Mine.ne_r4 (by assumption) | exact Mine.ne_r4' (by assumption) | exact Mine.ne_l5 (by assumption) | exact Mine.ne_l5' (by assumption) | exact Mine.ne_r5 (by assumption) | exact Mine.ne_r5' (by assumption) | exact Mine.ne_l6 (by assumption) | exact Mine.ne_l6' (by assumption) | exact Mine.ne_r6 (by assumption) | exact Mine.ne_r6' (by assumption) | exact Mine.ne_l7 (by assumption) | exact Mine.ne_l7' (by assumption) | exact Mine.ne_r7 (by assumption) | exact Mine.ne_r7' (by assumption) | exact Mine.ne_l8 (by assumption) | exact Mine.ne_l8' (by assumption) | exact Mine.ne_r8 (by assumption) | exact Mine.ne_r8' (by assumption) | exact Mine.ne_l9 (by assumption) | exact Mine.ne_l9' (by assumption) | exact Mine.ne_r9 (by assumption) | exact Mine.ne_r9' (by assumption))
  k_with "exec For Name BinOp cons nil" => (k_here; (rename Fr _ _ _ _ => lF'); (with_unfolding_all refine' For_invVF lF' ?k1 ?k2 ?_; (case k1 => exact rfl); (case k2 => exact rfl); k_whole))
  k_with "call ref" => (k_here; (fail_if_success (with_reducible show wpAny _ _ (call (Value.ref 179) _) _ _ _)); k_dflt ((refine wpAny_call ?_); (refine' Mine.code_defG ?k1 ?k2 ?k3 ?k4 ?k5 ?kA ?kF ?kK ?k6 ?k7 ?k8 ?k9 ?kB ?_ ?c2 ?c3 ?c4 ?c5); (case kA => exact rfl); (case kF => exact rfl); (case kK => first | exact rfl | assumption); (case k1 => k_asm); (case k2 => k_asm); (case k3 => k_asm); (case k4 => k_asm); (case k5 => k_asm); (case k6 => k_is); (case k7 => k_is); (case k8 => ktr_room); (case k9 => first | exact BindsTo.of_eq rfl | exact binds_K (by k_in) rfl (by k_is) rfl rfl rfl | fail "no rule for these arguments"); (case c5 => decide); (case kB => exact locs rfl); (case c2 => exact rfl); (case c3 => exact rfl); (case c4 => exact rfl); k_whole; intro g' L' h' tk' hg' FG' F' N' B' X' T' l'; (clear hg'); (try k_lt l'); (try dsimp only); (try k_lift B'); (try k_fold)))
  k_with "call builtin:repr" => (k_here; (with_reducible show wpAny _ _ (call (Value.builtin "repr") [_]) _ _ _); k_dflt ((refine' Mine.ReprAs.run ?r0 ?rF ?rN ?rk ?ru ?rg ?_); (case r0 => with_reducible assumption); (case rF => k_asm); (case rN => k_asm); (case rk => first | exact (fun b o e => (Mine.keep_X (by with_reducible assumption) (by with_reducible assumption) (by with_reducible assumption) (by with_reducible assumption) b o e).1) | exact (fun _ _ e => Fr.keep (by with_reducible assumption) _ _ (Fr.keep (by with_reducible assumption) _ _ e)) | exact (fun _ _ e => Fr.keep (by with_reducible assumption) _ _ e)); (case ru => ((try simp only [units_deeper, units_in1, units_under_make]); ktr_units)); (case rg => exact rfl); k_whole; intro t' k' h' F' N'))
  k_with "compareOp IsNot" => (k_here; (with_reducible show wpAny _ _ (compareOp CmpOp.IsNot _ Value.none) _ _ _); refine Mine.isNot_none' (by with_reducible assumption) ?_)
  k_with "compareOp Is" => (k_here; (with_reducible show wpAny _ _ (compareOp CmpOp.Is _ Value.none) _ _ _); refine Mine.is_none' (by with_reducible assumption) ?_)
  k_with "getMethod type:Exception" => (k_here; refine' method_type ?F ?X ?m (by decide +kernel) ?e ?h ?_; (case F => k_asm); (case X => k_asm); (case m => kernel_rfl); (case e => k_dflt k_is); (case h => k_handed))
  k_with "call builtin:Exception.__init__" => (k_here; k_dflt (refine' Mine.init_K ?k1 ?k2 ?k3 ?k4 ?k5 ?k6 ?_; (case k1 => k_asm); (case k2 => k_asm); (case k3 => k_asm); (case k6 => (intro tx'; k_upd)); (case k4 => first | (with_reducible assumption) | exact Mine.xc67 _ rfl | exact Mine.xc87 _ rfl | exact Mine.xc151 _ rfl | exact Mine.xc170 _ rfl); (case k5 => exact Nat.le_of_ble_eq_true rfl); k_whole); intro t' h' F' N' l1; (try dsimp only at N'); (try k_lt l1); (try k_sweep))
  k_with "call builtin:str.format" => (k_here; (with_reducible show wpAny _ _ (call (Value.builtin "str.format") [Value.str _ _, Value.int _ _]) _ _ _); (refine Mine.line_2d (by assumption) (by assumption) ?_); intro _ _)
  k_with "call builtin:str.join" => (k_here; (with_reducible show wpAny _ _ (call (Value.builtin "str.join") [Value.str _ _, Value.ref _]) _ _ _); k_dflt (refine' Mine.join_cat ?jN ?jm ?ji ?jB ?jn ?_; (case jN => k_asm); (case jm => k_mem); (case ji => repeat (first | exact PyProof.Rows.StrsAre.nil | apply PyProof.Rows.StrsAre.cons)); (case jB => (repeat (first | exact List.forall_mem_nil _ | refine List.forall_mem_cons.mpr ⟨by first | (with_reducible exact Mine.le5 (Mine.ReprAs.len (by assumption))) | (with_reducible exact Mine.line_len (by assumption) (by assumption)) | decide +kernel, ?_⟩))); (case jn => exact Nat.le_of_ble_eq_true rfl)); intro _ _; (try simp only [Mine.catS]))
  k_with "setAttr ref" => (k_here; k_dflt (refine' Mine.set_newK ?k1 ?k2 ?k3 ?k4 ?k5 ?k6 ?_; (case k1 => k_asm); (case k2 => k_asm); (case k3 => k_asm); (case k6 => (intro dx'; k_upd)); (case k4 => first | (with_reducible assumption) | exact Mine.xc67 _ rfl | exact Mine.xc87 _ rfl | exact Mine.xc151 _ rfl | exact Mine.xc170 _ rfl); (case k5 => k_is); k_whole; intro d' h' F' N' l1; (try dsimp only at N'); (try k_lt l1); (try k_sweep)))
  k_with "setAttr ref" => (k_here; k_dflt (refine' Mine.set_dictK ?k1 ?k2 ?k3 ?k4 ?k5 ?k6 ?k7 ?k10 ?k11 ?k12 ?k13 ?_; (case k1 => k_asm); (case k2 => k_asm); (case k3 => k_asm); (case k4 => (refine' Mine.instX ?N ?h1 ?h2; (case N => k_asm); (case h1 => k_mem); (case h2 => k_mem))); (case k5 => exact rfl); (case k6 => first | (with_reducible assumption) | exact Mine.xc67 _ rfl | exact Mine.xc87 _ rfl | exact Mine.xc151 _ rfl | exact Mine.xc170 _ rfl); (case k7 => k_is); (case k10 => k_get); (case k11 => k_put); (case k12 => k_upd); (case k13 => exact Nat.le_of_ble_eq_true rfl); k_whole; intro h' F' N'; (try k_sweep)))
  k_with "setAttr ref" => (k_here; (with_reducible show wpAny _ _ (setAttr (Value.ref _) (PySem.Str.ofString "args") (Value.ref _)) _ _ _); k_dflt (refine' Mine.set_argsK ?k1 ?k2 ?k3 ?k4 ?k5 ?k6 ?k7 ?k8 ?_; (case k1 => k_asm); (case k2 => k_asm); (case k3 => k_asm); (case k4 => (refine' Mine.instX ?N ?h1 ?h2; (case N => k_asm); (case h1 => k_mem); (case h2 => k_mem))); (case k5 => first | (with_reducible assumption) | exact Mine.xc67 _ rfl | exact Mine.xc87 _ rfl | exact Mine.xc151 _ rfl | exact Mine.xc170 _ rfl); (case k6 => k_is); (case k7 => exact News.isTup (by k_asm) (by k_mem)); (case k8 => k_upd); k_whole; intro h' F' N'; (try k_sweep)))
  k_with "getAttr ref" => (k_here; k_dflt (refine' Mine.get_ownX ?k1 ?k2 ?k3 ?k4 ?k5 ?k6 ?k7 ?k8 ?_; (case k1 => k_asm); (case k2 => k_asm); (case k3 => (refine' Mine.instX ?N ?h1 ?h2; (case N => k_asm); (case h1 => k_mem); (case h2 => k_mem))); (case k4 => first | (with_reducible assumption) | exact Mine.xc67 _ rfl | exact Mine.xc87 _ rfl | exact Mine.xc151 _ rfl | exact Mine.xc170 _ rfl); (case k5 => k_is); (case k6 => k_is); (case k7 => k_get); (case k8 => first | k_handed | with_reducible assumption); k_whole))
  k_with "getAttr ref" => (k_here; (with_reducible show wpAny _ _ (getAttr (Value.ref _) (PySem.Str.ofString "args") _) _ _ _); k_dflt (refine' Mine.get_argsX ?k1 ?k2 ?k3 ?k4 ?k5 ?k6 ?k7 ?_; (case k1 => k_asm); (case k2 => k_asm); (case k3 => (refine' Mine.instX ?N ?h1 ?h2; (case N => k_asm); (case h1 => k_mem); (case h2 => k_mem))); (case k4 => first | (with_reducible assumption) | exact Mine.xc67 _ rfl | exact Mine.xc87 _ rfl | exact Mine.xc151 _ rfl | exact Mine.xc170 _ rfl); (case k5 => k_is); (case k6 => k_is); (case k7 => k_is); k_whole))
  k_with "call ref" => (k_here; (with_reducible show wpAny _ _ (call (Value.ref 179) _) _ _ _); (try unfold Mine.placeRow); k_dflt ((first | (refine' Mine.stripped_T _ _ _ _ _ _ _ _ _ _ _ _ _ _ _ _ _ _ _ _ _ _ _ _ _ _ _ (PySem.Str.ofString "") _ _ _ _ ?k1 ?k2 ?k3 ?k4 ?k5 ?k6 ?k7 ?s1 ?s2 ?s3 ?se ?_; (case se => ((refine Mine.str_eq ?_); (simp only [Mine.cps_app, List.append_assoc, Mine.lit0, Mine.lit1, Mine.lit2, Mine.lit3, Mine.lit4, Mine.lit5, Mine.lit6, Mine.lit7, Mine.lit8, Mine.lit9, Mine.lit10, Mine.lit11, Mine.lit12, Mine.lit13, Mine.lit14, Mine.lit15, Mine.lit16, Mine.lit17, List.cons_append, List.nil_append, List.append_nil])))) | (refine' Mine.stripped_T _ _ _ _ _ _ _ _ _ _ _ _ _ _ _ _ _ _ _ _ _ _ _ _ _ _ _ (PySem.Str.ofString " [line " ++ Mine.pad2 ‹Int› ++ PySem.Str.ofString "]") _ _ _ _ ?k1 ?k2 ?k3 ?k4 ?k5 ?k6 ?k7 ?s1 ?s2 ?s3 ?se ?_; (case se => ((refine Mine.str_eq ?_); (simp only [Mine.cps_app, List.append_assoc, Mine.lit0, Mine.lit1, Mine.lit2, Mine.lit3, Mine.lit4, Mine.lit5, Mine.lit6, Mine.lit7, Mine.lit8, Mine.lit9, Mine.lit10, Mine.lit11, Mine.lit12, Mine.lit13, Mine.lit14, Mine.lit15, Mine.lit16, Mine.lit17, List.cons_append, List.nil_append, List.append_nil])))) | (refine' Mine.stripped_T _ _ _ _ _ _ _ _ _ _ _ _ _ _ _ _ _ _ _ _ _ _ _ _ _ _ _ (Mine.pad2 ‹Int›) _ _ _ _ ?k1 ?k2 ?k3 ?k4 ?k5 ?k6 ?k7 ?s1 ?s2 ?s3 ?se ?_; (case se => ((refine Mine.str_eq ?_); (simp only [Mine.cps_app, List.append_assoc, Mine.lit0, Mine.lit1, Mine.lit2, Mine.lit3, Mine.lit4, Mine.lit5, Mine.lit6, Mine.lit7, Mine.lit8, Mine.lit9, Mine.lit10, Mine.lit11, Mine.lit12, Mine.lit13, Mine.lit14, Mine.lit15, Mine.lit16, Mine.lit17, List.cons_append, List.nil_append, List.append_nil]))))); (case k1 => k_asm); (case k2 => k_asm); (case k3 => k_asm); (case k4 => k_asm); (case k5 => first | exact rfl | assumption); (case k6 => ktr_room); (case k7 => ktr_units); (case s1 => (refine Nat.le_trans (by kt_len) ?_; exact Nat.le_of_ble_eq_true rfl)); (case s2 => (refine Nat.le_trans (by kt_len) ?_; exact Nat.le_of_ble_eq_true rfl)); (case s3 => (refine Nat.le_trans (by kt_len) ?_; exact Nat.le_of_ble_eq_true rfl)); k_whole); intro t' h' tk' hk' F'; (have N' := Mine.news_kept hk' (by k_asm)); (clear hk'); (try dsimp only))
  k_fill
  intro vw w loose mean mg mb dp un cn cs a ccd cl outer A₀ base h₀ L m h g d tk os Q E v_option r_option v_section r_section src lin rs ln x dx tx nl kt0 kt1 kt2 kt3 kt4 km nk B F X T hk hd hu hrv_option hrv_section hsrc hlin N hret
  refine wpAny_call ?_
  (refine' Mine.code_defG ?k1 ?k2 ?k3 ?k4 ?k5 ?kA ?kF ?kK ?k6 ?k7 ?k8 ?k9 ?kB ?_ ?c2 ?c3 ?c4 ?c5)
  (case kA => exact rfl)
  (case kF => exact rfl)
  (case kK => first | exact rfl | assumption)
  (case k1 => k_asm)
  (case k2 => k_asm)
  (case k3 => k_asm)
  (case k4 => k_asm)
  (case k5 => k_asm)
  (case k6 => k_is)
  (case k7 => k_is)
  (case k8 => ktr_room)
  (case k9 => first | exact BindsTo.of_eq rfl | exact binds_K (by k_in) rfl (by k_is) rfl rfl rfl | fail "no rule for these arguments")
  (case c5 => decide)
  (case kB => exact locs rfl)
  (case c2 => exact rfl)
  (case c3 => exact rfl)
  (case c4 => exact rfl)
  intro g1 L1 h2 tk2 hg1 FG1 F2 N2 B2 X2 T2 l2
  k_lt l2
  (try k_lift B2)
  (try k_fold)
  repeat ((fail_if_success (with_reducible show wpAny _ _ (exec (Stmt.If (Expr.Compare _ [CmpOp.Is] _ _) _ _ _) _) _ _ _)); first | (k_unfold; (try dsimp only)) | (k_end; wrow_close) | walk1 | (dsimp only; walk1) | (leave1; walk_say "STEP leave1"; try dsimp only))
  rename News _ _ _ _ => NN
  rcases hsrc with _ | ⟨_, rv, hv1, hv2⟩
  case' some => rcases hlin with _ | ⟨n, tn, hn1, hn2⟩
  all_goals (try (have hp1 := pad2_len hn1 hn2; have hp2 := itext_len_le hn1 hn2))
  all_goals (simp only [againMsg, catS, List.cons_append, List.nil_append] at N NN)
  all_goals k_steps
  all_goals (try rw [empty_same])
  all_goals (try rw [lstrip_pad2, beq_self_eq_true])
  all_goals (try rw [pad2_as_max n])
  all_goals (exact hret _ _ (keep_N hg1 N (by k_asm) (by k_asm) (fun p hp => by k_in)) (by k_asm))
end Mine
end
section
open PySem PySem.W PyProof.Rows PySem.Calls PySem.Builtin PySem.Builtin.Str PySem.StrLaws
set_option maxRecDepth 100000
set_option maxHeartbeats 4000000
namespace Mine
section
variable {x : PySem.Str} {c lim : Nat}
def ostep (x : PySem.Str) (c lim : Nat) (st : Array Nat × Nat) (i : Nat) : Array Nat × Nat :=
  if ((st.fst.size < lim ∧ st.snd ≤ i) ∧ i + (⟨#[c]⟩ : PySem.Str).length ≤ x.length) ∧ subAt x ⟨#[c]⟩ i = true then (st.fst.push i, i + 1) else st
theorem occ_fold : ∀ (l : List Nat) (st : Array Nat × Nat), (forIn (m := Id) l st (occBody x ⟨#[c]⟩ x.length lim)).run = l.foldl (ostep x c lim) st
  | [], st => rfl
  | i :: r, st => by
    simp only [List.forIn_cons, List.foldl_cons, occBody]
    by_cases h : ((st.fst.size < lim ∧ st.snd ≤ i) ∧ i + (⟨#[c]⟩ : PySem.Str).length ≤ x.length) ∧ subAt x ⟨#[c]⟩ i = true
    · rw [if_pos h, ostep, if_pos h]
      exact occ_fold r _
    · rw [if_neg h, ostep, if_neg h]
      exact occ_fold r st
theorem fold_skip : ∀ (l : List Nat) (st : Array Nat × Nat), (∀ i ∈ l, x.cps.toList[i]? ≠ some c) → l.foldl (ostep x c lim) st = st
  | [], _, _ => rfl
  | i :: r, st, h => by
    rw [List.foldl_cons, ostep, if_neg (fun hh => h i (.head _) ((subAt_one x c i).mp ⟨hh.1.2, hh.2⟩))]
    exact fold_skip r st fun j hj => h j (.tail _ hj)
theorem step_hit {st : Array Nat × Nat} {i : Nat} (h1 : st.1.size < lim) (h2 : st.2 ≤ i) (h : x.cps.toList[i]? = some c) : ostep x c lim st i = (st.1.push i, i + 1) := by
  have hh := (subAt_one x c i).mpr h
  rw [ostep, if_pos ⟨⟨⟨h1, h2⟩, hh.1⟩, hh.2⟩]
end
theorem range_cut (a b : Nat) : List.range' 0 (a + 1 + b) = List.range' 0 a ++ a :: List.range' (a + 1) b := by
  rw [Nat.add_assoc, ← List.range'_append_1 (s := 0) (m := a) (n := 1 + b), Nat.zero_add]
  congr 1
  rw [Nat.add_comm 1 b, List.range'_succ]
theorem range_cut' (s a b : Nat) : List.range' s (a + 1 + b) = List.range' s a ++ (s + a) :: List.range' (s + a + 1) b := by
  rw [Nat.add_assoc, ← List.range'_append_1 (s := s) (m := a) (n := 1 + b)]
  congr 1
  rw [Nat.add_comm 1 b, List.range'_succ]
theorem mem_range'_iff {i s n : Nat} : i ∈ List.range' s n → s ≤ i ∧ i < s + n := fun h => List.mem_range'_1.mp h
theorem no_at {l : List Nat} {c i : Nat} (h : c ∉ l) : l[i]? ≠ some c := fun e => h (List.mem_of_getElem? e)
/-- where the sign c stands in a text of three parts with c between them -/
theorem occ_three {A B C : List Nat} {c : Nat} (hA : c ∉ A) (hB : c ∉ B) (hC : c ∉ C) (x : PySem.Str) (hx : x.cps.toList = A ++ c :: (B ++ c :: C)) :
    occurrences x ⟨#[c]⟩ 0 x.length (x.length + 1) = [A.length, A.length + 1 + B.length] := by
  have hl : x.length = A.length + 1 + (B.length + 1 + C.length) := by
    rw [len_cps, hx]; simp; omega
  rw [occ_eq, show x.length + 1 - 0 = A.length + 1 + (B.length + 1 + (C.length + 1)) from by omega, range_cut, range_cut']
  have g0 : ∀ i : Nat, x.cps.toList[i]? = (A ++ c :: (B ++ c :: C))[i]? := fun i => by rw [hx]
  have gA : ∀ i : Nat, i < A.length → x.cps.toList[i]? ≠ some c := fun i hi => by rw [g0, List.getElem?_append_left hi]; exact no_at hA
  have gc : x.cps.toList[A.length]? = some c := by rw [g0, List.getElem?_append_right (Nat.le_refl _), Nat.sub_self]; rfl
  have gB : ∀ i : Nat, A.length + 1 ≤ i → i < A.length + 1 + B.length → x.cps.toList[i]? ≠ some c := fun i h1 h2 => by
    rw [g0, List.getElem?_append_right (by omega), show i - A.length = (i - A.length - 1) + 1 from by omega, List.getElem?_cons_succ, List.getElem?_append_left (by omega)]
    exact no_at hB
  have gd : x.cps.toList[A.length + 1 + B.length]? = some c := by
    rw [g0, List.getElem?_append_right (by omega), show A.length + 1 + B.length - A.length = B.length + 1 from by omega, List.getElem?_cons_succ, List.getElem?_append_right (Nat.le_refl _), Nat.sub_self]; rfl
  have gC : ∀ i : Nat, A.length + 1 + B.length + 1 ≤ i → x.cps.toList[i]? ≠ some c := fun i h1 => by
    rw [g0, List.getElem?_append_right (by omega), show i - A.length = (i - A.length - 1) + 1 from by omega, List.getElem?_cons_succ, List.getElem?_append_right (by omega), show i - A.length - 1 - B.length = (i - A.length - 1 - B.length - 1) + 1 from by omega, List.getElem?_cons_succ]
    exact no_at hC
  rw [occ_fold, List.foldl_append, List.foldl_cons, List.foldl_append, List.foldl_cons,
    fold_skip (List.range' 0 A.length) _ (fun i hi => gA i (by have := mem_range'_iff hi; omega)),
    step_hit (by simp) (Nat.zero_le _) gc,
    fold_skip (List.range' (A.length + 1) B.length) _ (fun i hi => gB i (mem_range'_iff hi).1 (mem_range'_iff hi).2),
    step_hit (by simp only [Array.size_push]; simp; omega) (by simp) gd,
    fold_skip _ _ (fun i hi => gC i (mem_range'_iff hi).1)]
  rfl
theorem sub_ij (x : PySem.Str) (i j : Nat) (_ : j ≤ x.length) : (strSub x i j).cps.toList = (x.cps.toList.drop i).take (j - i) := by
  show (x.cps.extract i j).toList = _
  rw [Array.toList_extract, List.extract_eq_take_drop]
theorem kind_le' {x y : PySem.Str} (h : ∀ c ∈ y.cps, c ∈ x.cps) : PySem.Builtin.Str.strKind y ≤ PySem.Builtin.Str.strKind x := by
  have key : ∀ n, x.cps.all (· < n) = true → y.cps.all (· < n) = true := fun n hx => Array.all_eq_true_iff_forall_mem.mpr fun c hc => Array.all_eq_true_iff_forall_mem.mp hx c (h c hc)
  unfold PySem.Builtin.Str.strKind
  by_cases a : x.cps.all (· < 256) = true
  · simp only [a, key _ a, if_true, Nat.le_refl]
  · by_cases b : x.cps.all (· < 65536) = true
    · simp only [a, b, key _ b, if_true]; split <;> simp
    · simp only [a, b]; (repeat' split) <;> simp_all
theorem split_three {A B C : PySem.Str} {c : Nat} (hA : c ∉ A.cps.toList) (hB : c ∉ B.cps.toList) (hC : c ∉ C.cps.toList) (x y : PySem.Str) (hy : y.cps.toList = [c]) (hx : x = A ++ y ++ B ++ y ++ C) : Txt.split x y = [A, B, C] := by
  have ey : y = ⟨#[c]⟩ := str_eq hy
  have hx' : x.cps.toList = A.cps.toList ++ c :: (B.cps.toList ++ c :: C.cps.toList) := by
    rw [hx]; simp only [cps_app, hy, List.append_assoc, List.cons_append, List.nil_append]
  have hl : x.length = A.length + 1 + (B.length + 1 + C.length) := by
    simp only [len_cps]; rw [hx']; simp; omega
  have ho := occ_three hA hB hC x hx'
  unfold Txt.split
  rw [ey]
  have h1 : ¬ (decide (x.length < (⟨#[c]⟩ : PySem.Str).length) || decide (PySem.Builtin.Str.strKind x < PySem.Builtin.Str.strKind ⟨#[c]⟩)) = true := by
    rw [Bool.or_eq_true, decide_eq_true_eq, decide_eq_true_eq]
    rintro (h | h)
    · have : (⟨#[c]⟩ : PySem.Str).length = 1 := rfl
      omega
    · refine absurd (kind_le' (x := x) (y := ⟨#[c]⟩) ?_) (Nat.not_le.mpr h)
      intro d hd
      have hd' : d = c := by simpa using hd
      subst hd'
      rw [← Array.mem_toList_iff, hx']
      simp
  rw [if_neg h1, ho, if_neg (by simp)]
  unfold partsBetween
  simp only [List.map_cons, List.map_nil, List.cons_append, List.nil_append, List.zip_cons_cons, List.zip_nil_right, show (⟨#[c]⟩ : PySem.Str).length = 1 from rfl, ← len_cps]
  have e1 : strSub x 0 A.length = A := by
    refine str_eq ?_
    rw [sub_ij _ _ _ (by omega), hx', List.drop_zero, Nat.sub_zero, len_cps, List.take_left]
  have e2 : strSub x (A.length + 1) (A.length + 1 + B.length) = B := by
    refine str_eq ?_
    rw [sub_ij _ _ _ (by omega), hx', show A.length + 1 = A.cps.toList.length + 1 from rfl, ← List.drop_drop, List.drop_left, List.drop_one, List.tail_cons, show A.cps.toList.length + 1 + B.length - (A.cps.toList.length + 1) = B.cps.toList.length from by rw [← len_cps, ← len_cps]; omega, List.take_left]
  have e3 : strSub x (A.length + 1 + B.length + 1) x.length = C := by
    refine str_eq ?_
    have ht : x.cps.toList = (A.cps.toList ++ c :: (B.cps.toList ++ [c])) ++ C.cps.toList := by rw [hx']; simp
    rw [sub_ij _ _ _ (Nat.le_refl _), ht, show A.length + 1 + B.length + 1 = (A.cps.toList ++ c :: (B.cps.toList ++ [c])).length from by simp [len_cps]; omega, List.drop_left, List.take_of_length_le]
    rw [← len_cps]
    have : (A.cps.toList ++ c :: (B.cps.toList ++ [c])).length = A.length + 1 + B.length + 1 := by simp [len_cps]; omega
    omega
  rw [e1, e2, e3]
end Mine
end
section
open PySem PySem.W PyProof.Rows PySem.Calls PySem.Builtin
set_option maxRecDepth 100000
set_option maxHeartbeats 4000000
namespace Mine
/-- the words of an error that tells a place -/
def placeRow (rv : PySem.Str) (n : Int) : PySem.Str := PySem.Str.ofString "file: " ++ rv ++ PySem.Str.ofString ", line: " ++ PySem.Str.ofString (toString n)
def placeMsg (op rv : PySem.Str) (n : Int) (ry : PySem.Str) : PySem.Str := op ++ PySem.Str.ofString "\n" ++ placeRow rv n ++ PySem.Str.ofString "\n" ++ ry
theorem place_is1 (rv : PySem.Str) (n : Int) (ry : PySem.Str) : PySem.Str.ofString "File contains no section headers.\nfile: " ++ rv ++ PySem.Str.ofString ", line: " ++ itext n ++ PySem.Str.ofString "\n" ++ ry = placeMsg (PySem.Str.ofString "File contains no section headers.") rv n ry := by
  refine str_eq ?_
  unfold placeMsg placeRow
  simp only [cps_app, List.append_assoc]
  rw [show (PySem.Str.ofString "File contains no section headers.\nfile: ").cps.toList = (PySem.Str.ofString "File contains no section headers.").cps.toList ++ ((PySem.Str.ofString "\n").cps.toList ++ (PySem.Str.ofString "file: ").cps.toList) from by decide +kernel]
  simp only [List.append_assoc]
theorem place_is2 (rv : PySem.Str) (n : Int) (ry : PySem.Str) : PySem.Str.ofString "Key without value continued with an indented line.\nfile: " ++ rv ++ PySem.Str.ofString ", line: " ++ itext n ++ PySem.Str.ofString "\n" ++ ry = placeMsg (PySem.Str.ofString "Key without value continued with an indented line.") rv n ry := by
  refine str_eq ?_
  unfold placeMsg placeRow
  simp only [cps_app, List.append_assoc]
  rw [show (PySem.Str.ofString "Key without value continued with an indented line.\nfile: ").cps.toList = (PySem.Str.ofString "Key without value continued with an indented line.").cps.toList ++ ((PySem.Str.ofString "\n").cps.toList ++ (PySem.Str.ofString "file: ").cps.toList) from by decide +kernel]
  simp only [List.append_assoc]
theorem itext_no10 (n : Int) : 10 ∉ (PySem.Str.ofString (toString n)).cps.toList := by
  show 10 ∉ (itext n).cps.toList
  rw [itext_cps]
  intro h
  rcases List.mem_append.mp h with h | h
  · split at h
    · simp at h
    · simp at h
  · unfold dig at h
    obtain ⟨k, hk, e⟩ := List.mem_map.mp h
    have hd := Nat.isDigit_of_mem_toDigits (by decide) (by decide) hk
    unfold Char.isDigit at hd
    simp only [Bool.and_eq_true, decide_eq_true_eq] at hd
    have h4 : (48 : UInt32).toNat ≤ k.val.toNat := hd.1
    have h3 : k.val.toNat = 10 := e
    rw [h3] at h4
    exact absurd h4 (by decide)
section
variable {prog : Program} {w : World} {A : Around} {E : Value → Shared → Prop} {s : Shared} {Q : Value → Shared → Prop}
theorem place_1' {v : Value} {rv y : PySem.Str} {n : Int} {t t1 t2 : Tok} {b L : Addr} {k : Nat} {h₀ : Heap} {news : List (Addr × Obj)} (hv : Shows v rv) (hy : (reprText y).length ≤ 4000) (h1 : -(10 ^ 12) < n) (h2 : n < 10 ^ 12) (N : News h₀ L s.heap news) (hb : (b, ({ cls := .type "tuple", data := .seq #[v, .int n t1, .str y t2] k } : Obj)) ∈ news)
    (h : ∀ t' k, Q (.str (placeMsg (PySem.Str.ofString "File contains no section headers.") rv n (reprText y)) t') { s with toks := k }) :
    wpAny (model prog w) A (binaryOp .Mod (.str (PySem.Str.ofString "File contains no section headers.\nfile: %r, line: %d\n%r") t) (.ref b)) Q E s :=
  place_1 hv hy h1 h2 N hb (by rw [place_is1]; exact h)
theorem place_2' {v : Value} {rv y : PySem.Str} {n : Int} {t t1 t2 : Tok} {b L : Addr} {k : Nat} {h₀ : Heap} {news : List (Addr × Obj)} (hv : Shows v rv) (hy : (reprText y).length ≤ 4000) (h1 : -(10 ^ 12) < n) (h2 : n < 10 ^ 12) (N : News h₀ L s.heap news) (hb : (b, ({ cls := .type "tuple", data := .seq #[v, .int n t1, .str y t2] k } : Obj)) ∈ news)
    (h : ∀ t' k, Q (.str (placeMsg (PySem.Str.ofString "Key without value continued with an indented line.") rv n (reprText y)) t') { s with toks := k }) :
    wpAny (model prog w) A (binaryOp .Mod (.str (PySem.Str.ofString "Key without value continued with an indented line.\nfile: %r, line: %d\n%r") t) (.ref b)) Q E s :=
  place_2 hv hy h1 h2 N hb (by rw [place_is2]; exact h)
theorem placeRow_no10 {rv : PySem.Str} {n : Int} (hr : 10 ∉ rv.cps.toList) : 10 ∉ (placeRow rv n).cps.toList := by
  unfold placeRow
  simp only [cps_app, List.mem_append, not_or]
  exact ⟨⟨⟨by decide +kernel, hr⟩, by decide +kernel⟩, itext_no10 n⟩
theorem split_place {op rv ry : PySem.Str} {n : Int} {t u : Tok} {h₀ : Heap} {L : Addr} {m : PySem.Str → Option Value} {news : List (Addr × Obj)} (hF : Fr h₀ L s.heap m) (hN : News h₀ L s.heap news) (ho : 10 ∉ op.cps.toList) (hr : 10 ∉ rv.cps.toList) (hy : 10 ∉ ry.cps.toList) (l1 : op.length ≤ 1000) (l2 : rv.length ≤ 4000) (l3 : ry.length ≤ 4000) (l4 : (PySem.Str.ofString (toString n)).length ≤ 14)
    (h : ∀ D t1 t2 t3 h' k, Fr h₀ L h' m → News h₀ L h' ((D, listOf #[.str op t1, .str (placeRow rv n) t2, .str ry t3] 0) :: news) → (∀ p ∈ news, p.1 < D) → Q (.ref D) { s with heap := h', toks := k }) :
    wpAny (model prog w) A (call (.builtin "str.split") [.str (placeMsg op rv n ry) t, .str (PySem.Str.ofString "\n") u]) Q E s := by
  refine KSpl.split1 hF hN (by decide +kernel) (fun D l h' k e _ F N hlt => ?_) ?_
  · unfold placeMsg at e
    rw [split_three (A := op) (B := placeRow rv n) (C := ry) (c := 10) ho (placeRow_no10 hr) hy _ (PySem.Str.ofString "\n") (by decide +kernel) rfl] at e
    obtain ⟨t1, l', rfl, e1⟩ := KSpl.cons_of e
    obtain ⟨t2, l'', rfl, e2⟩ := KSpl.cons_of e1
    obtain ⟨t3, l''', rfl, e3⟩ := KSpl.cons_of e2
    cases KSpl.nil_of e3
    exact h D t1 t2 t3 h' k F N hlt
  · unfold placeMsg placeRow
    simp only [PySem.Str.length_append]
    rw [show (PySem.Str.ofString "\n").length = 1 from by decide +kernel, show (PySem.Str.ofString "file: ").length = 6 from by decide +kernel, show (PySem.Str.ofString ", line: ").length = 8 from by decide +kernel, sizeLine_eq]
    omega
end
end Mine
end
section
open PySem PySem.W PyProof.Rows PySem.Calls
namespace Mine
local macro_rules | `(tactic| kt_len) => `(tactic| (with_reducible exact Mine.ReprAs.len (by with_reducible assumption)))
local macro_rules | `(tactic| kt_len) => `(tactic| (with_reducible exact Mine.pad2_len (by with_reducible assumption) (by with_reducible assumption)))
local macro_rules | `(tactic| kt_len) => `(tactic| (with_reducible exact Mine.itext_len_le (by with_reducible assumption) (by with_reducible assumption)))
set_option rowWalk.seconds 0 in
set_option maxRecDepth 100000 in
set_option maxHeartbeats 16000000 in
theorem doe_T : ∀ {vw : Program} (w : World) (loose : List PySem.Str) (mean : ExcName → Option Value) (mg mb : PySem.Str → Option Value) (dp un : Nat) (cn : PySem.Str) (cs : Scope) (a : Addr) (ccd : Value) (cl : List (PySem.Str × Addr)) (outer : List Env) (A₀ : Around) (base h₀ : Heap) (L : Addr) (m : PySem.Str → Option Value) (h : Heap) (g : Array GenState) (d : Drawn) (tk : Nat) (os : OsState) (Q E : Value → Shared → Prop) (v_section : Value) (r_section : PySem.Str) (v_option : Value) (r_option : PySem.Str) (src lin : Value) (rs : Option PySem.Str) (ln : Option Int),
    Below A₀ base outer h₀ → Fr h₀ L h m → (Mine.hd.heap_39 w.params).In h₀ → Top vw loose mean mg mb h₀ → cs.kind = .function → dp + 5 < recursionLimit → un + 80 < cLine → ReprAs PySem.Challenge.rw_dm0029_04.row.prog w h v_section r_section → ReprAs PySem.Challenge.rw_dm0029_04.row.prog w h v_option r_option → SrcIs PySem.Challenge.rw_dm0029_04.row.prog w h src rs → LinIs lin ln →
    (∀ (x dx tx : Addr) (kt0 kt1 kt2 kt3 kt4 km : Tok) (h' : Heap) (tk' : Nat), (∀ b o, h.get? b = some o → h'.get? b = some o) → Fr h₀ L h' m → News h₀ L h' [(x, xObj 87 (some dx) (excF (.ref tx))), (dx, dictOf [⟨PyData.keyHash w.params (PySem.Str.ofString "message"), .str (PySem.Str.ofString "message") kt0, .str (againMsg (PySem.Str.ofString "Option ") (PySem.Str.ofString ": option ") [r_option, PySem.Str.ofString " in section ", r_section, PySem.Str.ofString " already exists"] rs ln) km⟩, ⟨PyData.keyHash w.params (PySem.Str.ofString "section"), .str (PySem.Str.ofString "section") kt1, v_section⟩, ⟨PyData.keyHash w.params (PySem.Str.ofString "option"), .str (PySem.Str.ofString "option") kt2, v_option⟩, ⟨PyData.keyHash w.params (PySem.Str.ofString "source"), .str (PySem.Str.ofString "source") kt3, src⟩, ⟨PyData.keyHash w.params (PySem.Str.ofString "lineno"), .str (PySem.Str.ofString "lineno") kt4, lin⟩] 5), (tx, tupObj [v_section, v_option, src, lin])] → Q (.ref x) ⟨h', g, d, tk', os⟩) →
    wpAny (model PySem.Challenge.rw_dm0029_04.row.prog w) (ktrTop dp un (some []) cn cs L a ccd cl outer) (call (.ref 87) [v_section, v_option, src, lin]) Q E ⟨h, g, d, tk, os⟩ := by
  k_with_none
  k_with "ite" => (k_here; (first | refine Mine.ite_ff ?_ | refine Mine.ite_tt ?_))
  k_with "ne" => (first | exact Mine.ne_l1 (by assumption) | exact Mine.ne_l1' (by assumption) | exact Mine.ne_r1 (by assumption) | exact Mine.ne_r1' (by assumption) | exact Mine.ne_l2 (by assumption) | exact Mine.ne_l2' (by assumption) | exact Mine.ne_r2 (by assumption) | exact Mine.ne_r2' (by assumption) | exact Mine.ne_l3 (by assumption) | exact Mine.ne_l3' (by assumption) | exact Mine.ne_r3 (by assumption) | exact Mine.ne_r3' (by assumption) | exact Mine.ne_l4 (by assumption) | exact Mine.ne_l4' (by assumption) | exact Mine.ne_r4 (by assumption) | exact Mine.ne_r4' (by assumption) | exact Mine.ne_l5 (by assumption) | exact Mine.ne_l5' (by assumption) | exact Mine.ne_r5 (by assumption) | exact Mine.ne_r5' (by assumption) | exact Mine.ne_l6 (by assumption) | exact Mine.ne_l6' (by assumption) | exact Mine.ne_r6 (by assumption) | exact Mine.ne_r6' (by assumption) | exact Mine.ne_l7 (by assumption) | exact Mine.ne_l7' (by assumption) | exact Mine.ne_r7 (by assumption) | exact Mine.ne_r7' (by assumption) | exact Mine.ne_l8 (by assumption) | exact Mine.ne_l8' (by assumption) | exact Mine.ne_r8 (by assumption) | exact Mine.ne_r8' (by assumption) | exact Mine.ne_l9 (by assumption) | exact Mine.ne_l9' (by assumption) | exact Mine.ne_r9 (by assumption) | exact Mine.ne_r9' (by assumption))
  k_with "exec For Name BinOp cons nil" => (k_here; (rename Fr _ _ _ _ => lF'); (with_unfolding_all refine' For_invVF lF' ?k1 ?k2 ?_; (case k1 => exact rfl); (case k2 => exact rfl); k_whole))
  k_with "call ref" => (k_here; k_dflt ((refine wpAny_call ?_); (refine' Mine.code_defG ?k1 ?k2 ?k3 ?k4 ?k5 ?kA ?kF ?kK ?k6 ?k7 ?k8 ?k9 ?kB ?_ ?c2 ?c3 ?c4 ?c5); (case kA => exact rfl); (case kF => exact rfl); (case kK => first | exact rfl | assumption); (case k1 => k_asm); (case k2 => k_asm); (case k3 => k_asm); (case k4 => k_asm); (case k5 => k_asm); (case k6 => k_is); (case k7 => k_is); (case k8 => ktr_room); (case k9 => first | exact BindsTo.of_eq rfl | exact binds_K (by k_in) rfl (by k_is) rfl rfl rfl | fail "no rule for these arguments"); (case c5 => decide); (case kB => exact locs rfl); (case c2 => exact rfl); (case c3 => exact rfl); (case c4 => exact rfl); k_whole; intro g' L' h' tk' hg' FG' F' N' B' X' T' l'; (clear hg'); (try k_lt l'); (try dsimp only); (try k_lift B'); (try k_fold)))
  k_with "call builtin:repr" => (k_here; (with_reducible show wpAny _ _ (call (Value.builtin "repr") [_]) _ _ _); k_dflt ((refine' Mine.ReprAs.run ?r0 ?rF ?rN ?rk ?ru ?rg ?_); (case r0 => with_reducible assumption); (case rF => k_asm); (case rN => k_asm); (case rk => first | exact (fun b o e => (Mine.keep_X (by with_reducible assumption) (by with_reducible assumption) (by with_reducible assumption) (by with_reducible assumption) b o e).1) | exact (fun _ _ e => Fr.keep (by with_reducible assumption) _ _ (Fr.keep (by with_reducible assumption) _ _ e)) | exact (fun _ _ e => Fr.keep (by with_reducible assumption) _ _ e)); (case ru => ((try simp only [units_deeper, units_in1, units_under_make]); ktr_units)); (case rg => exact rfl); k_whole; intro t' k' h' F' N'))
  k_with "compareOp IsNot" => (k_here; (with_reducible show wpAny _ _ (compareOp CmpOp.IsNot _ Value.none) _ _ _); refine Mine.isNot_none' (by with_reducible assumption) ?_)
  k_with "compareOp Is" => (k_here; (with_reducible show wpAny _ _ (compareOp CmpOp.Is _ Value.none) _ _ _); refine Mine.is_none' (by with_reducible assumption) ?_)
  k_with "getMethod type:Exception" => (k_here; refine' method_type ?F ?X ?m (by decide +kernel) ?e ?h ?_; (case F => k_asm); (case X => k_asm); (case m => kernel_rfl); (case e => k_dflt k_is); (case h => k_handed))
  k_with "call builtin:Exception.__init__" => (k_here; k_dflt (refine' Mine.init_K ?k1 ?k2 ?k3 ?k4 ?k5 ?k6 ?_; (case k1 => k_asm); (case k2 => k_asm); (case k3 => k_asm); (case k6 => (intro tx'; k_upd)); (case k4 => first | (with_reducible assumption) | exact Mine.xc67 _ rfl | exact Mine.xc87 _ rfl | exact Mine.xc151 _ rfl | exact Mine.xc170 _ rfl); (case k5 => exact Nat.le_of_ble_eq_true rfl); k_whole); intro t' h' F' N' l1; (try dsimp only at N'); (try k_lt l1); (try k_sweep))
  k_with "call builtin:str.format" => (k_here; (with_reducible show wpAny _ _ (call (Value.builtin "str.format") [Value.str _ _, Value.int _ _]) _ _ _); (refine Mine.line_2d (by assumption) (by assumption) ?_); intro _ _)
  k_with "call builtin:str.join" => (k_here; (with_reducible show wpAny _ _ (call (Value.builtin "str.join") [Value.str _ _, Value.ref _]) _ _ _); k_dflt (refine' Mine.join_cat ?jN ?jm ?ji ?jB ?jn ?_; (case jN => k_asm); (case jm => k_mem); (case ji => repeat (first | exact PyProof.Rows.StrsAre.nil | apply PyProof.Rows.StrsAre.cons)); (case jB => (repeat (first | exact List.forall_mem_nil _ | refine List.forall_mem_cons.mpr ⟨by first | (with_reducible exact Mine.le5 (Mine.ReprAs.len (by assumption))) | (with_reducible exact Mine.line_len (by assumption) (by assumption)) | decide +kernel, ?_⟩))); (case jn => exact Nat.le_of_ble_eq_true rfl)); intro _ _; (try simp only [Mine.catS]))
  k_with "setAttr ref" => (k_here; k_dflt (refine' Mine.set_newK ?k1 ?k2 ?k3 ?k4 ?k5 ?k6 ?_; (case k1 => k_asm); (case k2 => k_asm); (case k3 => k_asm); (case k6 => (intro dx'; k_upd)); (case k4 => first | (with_reducible assumption) | exact Mine.xc67 _ rfl | exact Mine.xc87 _ rfl | exact Mine.xc151 _ rfl | exact Mine.xc170 _ rfl); (case k5 => k_is); k_whole; intro d' h' F' N' l1; (try dsimp only at N'); (try k_lt l1); (try k_sweep)))
  k_with "setAttr ref" => (k_here; k_dflt (refine' Mine.set_dictK ?k1 ?k2 ?k3 ?k4 ?k5 ?k6 ?k7 ?k10 ?k11 ?k12 ?k13 ?_; (case k1 => k_asm); (case k2 => k_asm); (case k3 => k_asm); (case k4 => (refine' Mine.instX ?N ?h1 ?h2; (case N => k_asm); (case h1 => k_mem); (case h2 => k_mem))); (case k5 => exact rfl); (case k6 => first | (with_reducible assumption) | exact Mine.xc67 _ rfl | exact Mine.xc87 _ rfl | exact Mine.xc151 _ rfl | exact Mine.xc170 _ rfl); (case k7 => k_is); (case k10 => k_get); (case k11 => k_put); (case k12 => k_upd); (case k13 => exact Nat.le_of_ble_eq_true rfl); k_whole; intro h' F' N'; (try k_sweep)))
  k_with "setAttr ref" => (k_here; (with_reducible show wpAny _ _ (setAttr (Value.ref _) (PySem.Str.ofString "args") (Value.ref _)) _ _ _); k_dflt (refine' Mine.set_argsK ?k1 ?k2 ?k3 ?k4 ?k5 ?k6 ?k7 ?k8 ?_; (case k1 => k_asm); (case k2 => k_asm); (case k3 => k_asm); (case k4 => (refine' Mine.instX ?N ?h1 ?h2; (case N => k_asm); (case h1 => k_mem); (case h2 => k_mem))); (case k5 => first | (with_reducible assumption) | exact Mine.xc67 _ rfl | exact Mine.xc87 _ rfl | exact Mine.xc151 _ rfl | exact Mine.xc170 _ rfl); (case k6 => k_is); (case k7 => exact News.isTup (by k_asm) (by k_mem)); (case k8 => k_upd); k_whole; intro h' F' N'; (try k_sweep)))
  k_with "getAttr ref" => (k_here; k_dflt (refine' Mine.get_ownX ?k1 ?k2 ?k3 ?k4 ?k5 ?k6 ?k7 ?k8 ?_; (case k1 => k_asm); (case k2 => k_asm); (case k3 => (refine' Mine.instX ?N ?h1 ?h2; (case N => k_asm); (case h1 => k_mem); (case h2 => k_mem))); (case k4 => first | (with_reducible assumption) | exact Mine.xc67 _ rfl | exact Mine.xc87 _ rfl | exact Mine.xc151 _ rfl | exact Mine.xc170 _ rfl); (case k5 => k_is); (case k6 => k_is); (case k7 => k_get); (case k8 => first | k_handed | with_reducible assumption); k_whole))
  k_with "getAttr ref" => (k_here; (with_reducible show wpAny _ _ (getAttr (Value.ref _) (PySem.Str.ofString "args") _) _ _ _); k_dflt (refine' Mine.get_argsX ?k1 ?k2 ?k3 ?k4 ?k5 ?k6 ?k7 ?_; (case k1 => k_asm); (case k2 => k_asm); (case k3 => (refine' Mine.instX ?N ?h1 ?h2; (case N => k_asm); (case h1 => k_mem); (case h2 => k_mem))); (case k4 => first | (with_reducible assumption) | exact Mine.xc67 _ rfl | exact Mine.xc87 _ rfl | exact Mine.xc151 _ rfl | exact Mine.xc170 _ rfl); (case k5 => k_is); (case k6 => k_is); (case k7 => k_is); k_whole))
  k_with "call builtin:str.join" => (k_here; (with_reducible show wpAny _ _ (call (Value.builtin "str.join") [Value.str _ _, Value.ref _]) _ _ _); k_dflt (refine' Mine.join_cat ?jN ?jm ?ji ?jB ?jn ?_; (case jN => k_asm); (case jm => k_mem); (case ji => with_reducible assumption); (case jB => with_reducible assumption); (case jn => with_reducible assumption)); intro _ _; (rw [he9]))
  k_fill
  intro vw w loose mean mg mb dp un cn cs a ccd cl outer A₀ base h₀ L m h g d tk os Q E v_section r_section v_option r_option src lin rs ln B F X T hk hd hu hrv_section hrv_option hsrc hlin hret
  refine' Mine.call_X0 ?k1 ?k2 ?k4 ?k5 ?k6 ?k7 ?_
  (case k1 => k_asm)
  (case k2 => k_asm)
  (case k4 => first | (with_reducible assumption) | exact Mine.xc67 _ rfl | exact Mine.xc87 _ rfl | exact Mine.xc151 _ rfl | exact Mine.xc170 _ rfl)
  (case k5 => k_is)
  (case k6 => k_is)
  (case k7 => exact Nat.le_of_ble_eq_true rfl)
  intro x0 tx0 h1 hkeep F1 N1 l1
  k_lt2 l1
  (refine' Mine.code_defG ?k1 ?k2 ?k3 ?k4 ?k5 ?kA ?kF ?kK ?k6 ?k7 ?k8 ?k9 ?kB ?_ ?c2 ?c3 ?c4 ?c5)
  (case kA => exact rfl)
  (case kF => exact rfl)
  (case kK => first | exact rfl | assumption)
  (case k1 => k_asm)
  (case k2 => k_asm)
  (case k3 => k_asm)
  (case k4 => k_asm)
  (case k5 => k_asm)
  (case k6 => k_is)
  (case k7 => k_is)
  (case k8 => ktr_room)
  (case k9 => first | exact BindsTo.of_eq rfl | exact binds_K (by k_in) rfl (by k_is) rfl rfl rfl | fail "no rule for these arguments")
  (case c5 => decide)
  (case kB => exact locs rfl)
  (case c2 => exact rfl)
  (case c3 => exact rfl)
  (case c4 => exact rfl)
  intro g1 L1 h2 tk2 hg1 FG1 F2 N2 B2 X2 T2 l2
  k_lt l2
  (try k_lift B2)
  (try k_fold)
  repeat ((fail_if_success (with_reducible show wpAny _ _ (exec (Stmt.If _ _ _ _) _) _ _ _)); first | (k_unfold; (try dsimp only)) | (k_end; wrow_close) | walk1 | (dsimp only; walk1) | (leave1; walk_say "STEP leave1"; try dsimp only))
  refine' Mine.cut_list (againMsg (PySem.Str.ofString "Option ") (PySem.Str.ofString ": option ") [r_option, PySem.Str.ofString " in section ", r_section, PySem.Str.ofString " already exists"] rs ln) ?zzF ?zzN ?zz1 ?zz2
  (case zzF => k_asm)
  (case zzN => k_asm)
  (case zz1 =>
    cases hsrc
    case' some => cases hlin
    all_goals k_steps
    all_goals (refine' Mine.cut_end ?yf ?yn ?yl ?yb ?ym ?yr ?ys ?ye ?yx ?yk ?yz; (case yf => k_asm); (case yn => k_asm); (case ym => rfl); (case yl => k_mem); (case yb => repeat (first | exact List.forall_mem_nil _ | refine List.forall_mem_cons.mpr ⟨by k_mem, ?_⟩)); (case yr => (intro z z1 z2; simp [z1, z2])); (case ys => repeat (first | exact PyProof.Rows.StrsAre.nil | apply PyProof.Rows.StrsAre.cons)); (case ye => simp only [againMsg, catS, List.cons_append, List.nil_append]); (case yx => (repeat (first | exact List.forall_mem_nil _ | refine List.forall_mem_cons.mpr ⟨by first | (with_reducible exact Mine.le5 (Mine.ReprAs.len (by assumption))) | (with_reducible exact Mine.line_len (by assumption) (by assumption)) | decide +kernel, ?_⟩))); (case yk => exact Nat.le_of_ble_eq_true rfl); (case yz => repeat (first | exact List.forall_mem_nil _ | refine List.forall_mem_cons.mpr ⟨by k_ne, ?_⟩))))
  intro a9 its n9 xs h9 tk9 u9 F9 N9 hs9 he9 hx9 hn9 ne9
  simp only [List.forall_mem_cons, List.not_mem_nil, false_implies, implies_true, and_true] at ne9
  obtain ⟨ne8, ne9⟩ := ne9
  k_steps
  all_goals (refine' hret _ _ _ _ _ _ _ _ _ _ _ ?keep ?F ?N; (case keep => exact (fun b o e => (Mine.keep_X (by assumption) (by assumption) (by assumption) (by k_asm) b o e).1)); (case F => k_asm); (case N => (refine' Mine.news3 ?n0 ?n1 ?n2 ?n3; (case n0 => k_asm); (case n1 => k_mem); (case n2 => k_mem); (case n3 => k_mem))))
end Mine
end
section
open PySem PySem.W PyProof.Rows PySem.Calls
namespace Mine
local macro_rules | `(tactic| kt_len) => `(tactic| (with_reducible exact Mine.ReprAs.len (by with_reducible assumption)))
local macro_rules | `(tactic| kt_len) => `(tactic| (with_reducible exact Mine.pad2_len (by with_reducible assumption) (by with_reducible assumption)))
local macro_rules | `(tactic| kt_len) => `(tactic| (with_reducible exact Mine.itext_len_le (by with_reducible assumption) (by with_reducible assumption)))
set_option rowWalk.seconds 0 in
set_option maxRecDepth 100000 in
set_option maxHeartbeats 16000000 in
theorem mshe_T : ∀ {vw : Program} (w : World) (loose : List PySem.Str) (mean : ExcName → Option Value) (mg mb : PySem.Str → Option Value) (dp un : Nat) (cn : PySem.Str) (cs : Scope) (a : Addr) (ccd : Value) (cl : List (PySem.Str × Addr)) (outer : List Env) (A₀ : Around) (base h₀ : Heap) (L : Addr) (m : PySem.Str → Option Value) (h : Heap) (g : Array GenState) (d : Drawn) (tk : Nat) (os : OsState) (Q E : Value → Shared → Prop) (src : Value) (rv y : PySem.Str) (n : Int) (t1 t2 : Tok),
    Below A₀ base outer h₀ → Fr h₀ L h m → (Mine.hd.heap_39 w.params).In h₀ → Top vw loose mean mg mb h₀ → cs.kind = .function → dp + 5 < recursionLimit → un + 80 < cLine → Shows src rv → (reprText y).length ≤ 4000 → -(10 ^ 12) < n → n < 10 ^ 12 →
    (∀ (x dx tx : Addr) (kt0 kt1 kt2 kt3 km : Tok) (h' : Heap) (tk' : Nat), (∀ b o, h.get? b = some o → h'.get? b = some o) → Fr h₀ L h' m → News h₀ L h' [(x, xObj 151 (some dx) (excF (.ref tx))), (dx, dictOf [⟨PyData.keyHash w.params (PySem.Str.ofString "message"), .str (PySem.Str.ofString "message") kt0, .str (placeMsg (PySem.Str.ofString "File contains no section headers.") rv n (reprText y)) km⟩, ⟨PyData.keyHash w.params (PySem.Str.ofString "source"), .str (PySem.Str.ofString "source") kt1, src⟩, ⟨PyData.keyHash w.params (PySem.Str.ofString "lineno"), .str (PySem.Str.ofString "lineno") kt2, .int n t1⟩, ⟨PyData.keyHash w.params (PySem.Str.ofString "line"), .str (PySem.Str.ofString "line") kt3, .str y t2⟩] 4), (tx, tupObj [src, .int n t1, .str y t2])] → Q (.ref x) ⟨h', g, d, tk', os⟩) →
    wpAny (model PySem.Challenge.rw_dm0029_04.row.prog w) (ktrTop dp un (some []) cn cs L a ccd cl outer) (call (.ref 151) [src, .int n t1, .str y t2]) Q E ⟨h, g, d, tk, os⟩ := by
  k_with_none
  k_with "ite" => (k_here; (first | refine Mine.ite_ff ?_ | refine Mine.ite_tt ?_))
  k_with "ne" => (first | exact Mine.ne_l1 (by assumption) | exact Mine.ne_l1' (by assumption) | exact Mine.ne_r1 (by assumption) | exact Mine.ne_r1' (by assumption) | exact Mine.ne_l2 (by assumption) | exact Mine.ne_l2' (by assumption) | exact Mine.ne_r2 (by assumption) | exact Mine.ne_r2' (by assumption) | exact Mine.ne_l3 (by assumption) | exact Mine.ne_l3' (by assumption) | exact Mine.ne_r3 (by assumption) | exact Mine.ne_r3' (by assumption) | exact Mine.ne_l4 (by assumption) | exact Mine.ne_l4' (by assumption) | exact Mine.ne_r4 (by assumption) | exact Mine.ne_r4' (by assumption) | exact Mine.ne_l5 (by assumption) | exact Mine.ne_l5' (by assumption) | exact Mine.ne_r5 (by assumption) | exact Mine.ne_r5' (by assumption) | exact Mine.ne_l6 (by assumption) | exact Mine.ne_l6' (by assumption) | exact Mine.ne_r6 (by assumption) | exact Mine.ne_r6' (by assumption) | exact Mine.ne_l7 (by assumption) | exact Mine.ne_l7' (by assumption) | exact Mine.ne_r7 (by assumption) | exact Mine.ne_r7' (by assumption) | exact Mine.ne_l8 (by assumption) | exact Mine.ne_l8' (by assumption) | exact Mine.ne_r8 (by assumption) | exact Mine.ne_r8' (by assumption) | exact Mine.ne_l9 (by assumption) | exact Mine.ne_l9' (by assumption) | exact Mine.ne_r9 (by assumption) | exact Mine.ne_r9' (by assumption))
  k_with "exec For Name BinOp cons nil" => (k_here; (rename Fr _ _ _ _ => lF'); (with_unfolding_all refine' For_invVF lF' ?k1 ?k2 ?_; (case k1 => exact rfl); (case k2 => exact rfl); k_whole))
  k_with "call ref" => (k_here; k_dflt ((refine wpAny_call ?_); (refine' Mine.code_defG ?k1 ?k2 ?k3 ?k4 ?k5 ?kA ?kF ?kK ?k6 ?k7 ?k8 ?k9 ?kB ?_ ?c2 ?c3 ?c4 ?c5); (case kA => exact rfl); (case kF => exact rfl); (case kK => first | exact rfl | assumption); (case k1 => k_asm); (case k2 => k_asm); (case k3 => k_asm); (case k4 => k_asm); (case k5 => k_asm); (case k6 => k_is); (case k7 => k_is); (case k8 => ktr_room); (case k9 => first | exact BindsTo.of_eq rfl | exact binds_K (by k_in) rfl (by k_is) rfl rfl rfl | fail "no rule for these arguments"); (case c5 => decide); (case kB => exact locs rfl); (case c2 => exact rfl); (case c3 => exact rfl); (case c4 => exact rfl); k_whole; intro g' L' h' tk' hg' FG' F' N' B' X' T' l'; (clear hg'); (try k_lt l'); (try dsimp only); (try k_lift B'); (try k_fold)))
  k_with "call builtin:repr" => (k_here; (with_reducible show wpAny _ _ (call (Value.builtin "repr") [_]) _ _ _); k_dflt ((refine' Mine.ReprAs.run ?r0 ?rF ?rN ?rk ?ru ?rg ?_); (case r0 => with_reducible assumption); (case rF => k_asm); (case rN => k_asm); (case rk => first | exact (fun b o e => (Mine.keep_X (by with_reducible assumption) (by with_reducible assumption) (by with_reducible assumption) (by with_reducible assumption) b o e).1) | exact (fun _ _ e => Fr.keep (by with_reducible assumption) _ _ (Fr.keep (by with_reducible assumption) _ _ e)) | exact (fun _ _ e => Fr.keep (by with_reducible assumption) _ _ e)); (case ru => ((try simp only [units_deeper, units_in1, units_under_make]); ktr_units)); (case rg => exact rfl); k_whole; intro t' k' h' F' N'))
  k_with "compareOp IsNot" => (k_here; (with_reducible show wpAny _ _ (compareOp CmpOp.IsNot _ Value.none) _ _ _); refine Mine.isNot_none' (by with_reducible assumption) ?_)
  k_with "compareOp Is" => (k_here; (with_reducible show wpAny _ _ (compareOp CmpOp.Is _ Value.none) _ _ _); refine Mine.is_none' (by with_reducible assumption) ?_)
  k_with "getMethod type:Exception" => (k_here; refine' method_type ?F ?X ?m (by decide +kernel) ?e ?h ?_; (case F => k_asm); (case X => k_asm); (case m => kernel_rfl); (case e => k_dflt k_is); (case h => k_handed))
  k_with "call builtin:Exception.__init__" => (k_here; k_dflt (refine' Mine.init_K ?k1 ?k2 ?k3 ?k4 ?k5 ?k6 ?_; (case k1 => k_asm); (case k2 => k_asm); (case k3 => k_asm); (case k6 => (intro tx'; k_upd)); (case k4 => first | exact Mine.xc67 _ rfl | exact Mine.xc87 _ rfl | exact Mine.xc151 _ rfl | exact Mine.xc170 _ rfl); (case k5 => exact Nat.le_of_ble_eq_true rfl); k_whole); intro t' h' F' N' l1; (try dsimp only at N'); (try k_lt l1); (try k_sweep))
  k_with "call builtin:str.format" => (k_here; (with_reducible show wpAny _ _ (call (Value.builtin "str.format") [Value.str _ _, Value.int _ _]) _ _ _); (refine Mine.line_2d (by assumption) (by assumption) ?_); intro _ _)
  k_with "call builtin:str.join" => (k_here; (with_reducible show wpAny _ _ (call (Value.builtin "str.join") [Value.str _ _, Value.ref _]) _ _ _); k_dflt (refine' Mine.join_cat ?jN ?jm ?ji ?jB ?jn ?_; (case jN => k_asm); (case jm => k_mem); (case ji => repeat (first | exact PyProof.Rows.StrsAre.nil | apply PyProof.Rows.StrsAre.cons)); (case jB => (repeat (first | exact List.forall_mem_nil _ | refine List.forall_mem_cons.mpr ⟨by first | (with_reducible exact Mine.le5 (Mine.ReprAs.len (by assumption))) | (with_reducible exact Mine.line_len (by assumption) (by assumption)) | decide +kernel, ?_⟩))); (case jn => exact Nat.le_of_ble_eq_true rfl)); intro _ _; (try simp only [Mine.catS]))
  k_with "setAttr ref" => (k_here; k_dflt (refine' Mine.set_newK ?k1 ?k2 ?k3 ?k4 ?k5 ?k6 ?_; (case k1 => k_asm); (case k2 => k_asm); (case k3 => k_asm); (case k6 => (intro dx'; k_upd)); (case k4 => first | exact Mine.xc67 _ rfl | exact Mine.xc87 _ rfl | exact Mine.xc151 _ rfl | exact Mine.xc170 _ rfl); (case k5 => k_is); k_whole; intro d' h' F' N' l1; (try dsimp only at N'); (try k_lt l1); (try k_sweep)))
  k_with "setAttr ref" => (k_here; k_dflt (refine' Mine.set_dictK ?k1 ?k2 ?k3 ?k4 ?k5 ?k6 ?k7 ?k10 ?k11 ?k12 ?k13 ?_; (case k1 => k_asm); (case k2 => k_asm); (case k3 => k_asm); (case k4 => (refine' Mine.instX ?N ?h1 ?h2; (case N => k_asm); (case h1 => k_mem); (case h2 => k_mem))); (case k5 => exact rfl); (case k6 => first | exact Mine.xc67 _ rfl | exact Mine.xc87 _ rfl | exact Mine.xc151 _ rfl | exact Mine.xc170 _ rfl); (case k7 => k_is); (case k10 => k_get); (case k11 => k_put); (case k12 => k_upd); (case k13 => exact Nat.le_of_ble_eq_true rfl); k_whole; intro h' F' N'; (try k_sweep)))
  k_with "setAttr ref" => (k_here; (with_reducible show wpAny _ _ (setAttr (Value.ref _) (PySem.Str.ofString "args") (Value.ref _)) _ _ _); k_dflt (refine' Mine.set_argsK ?k1 ?k2 ?k3 ?k4 ?k5 ?k6 ?k7 ?k8 ?_; (case k1 => k_asm); (case k2 => k_asm); (case k3 => k_asm); (case k4 => (refine' Mine.instX ?N ?h1 ?h2; (case N => k_asm); (case h1 => k_mem); (case h2 => k_mem))); (case k5 => first | exact Mine.xc67 _ rfl | exact Mine.xc87 _ rfl | exact Mine.xc151 _ rfl | exact Mine.xc170 _ rfl); (case k6 => k_is); (case k7 => exact News.isTup (by k_asm) (by k_mem)); (case k8 => k_upd); k_whole; intro h' F' N'; (try k_sweep)))
  k_with "getAttr ref" => (k_here; k_dflt (refine' Mine.get_ownX ?k1 ?k2 ?k3 ?k4 ?k5 ?k6 ?k7 ?k8 ?_; (case k1 => k_asm); (case k2 => k_asm); (case k3 => (refine' Mine.instX ?N ?h1 ?h2; (case N => k_asm); (case h1 => k_mem); (case h2 => k_mem))); (case k4 => first | exact Mine.xc67 _ rfl | exact Mine.xc87 _ rfl | exact Mine.xc151 _ rfl | exact Mine.xc170 _ rfl); (case k5 => k_is); (case k6 => k_is); (case k7 => k_get); (case k8 => k_handed); k_whole))
  k_with "getAttr ref" => (k_here; (with_reducible show wpAny _ _ (getAttr (Value.ref _) (PySem.Str.ofString "args") _) _ _ _); k_dflt (refine' Mine.get_argsX ?k1 ?k2 ?k3 ?k4 ?k5 ?k6 ?k7 ?_; (case k1 => k_asm); (case k2 => k_asm); (case k3 => (refine' Mine.instX ?N ?h1 ?h2; (case N => k_asm); (case h1 => k_mem); (case h2 => k_mem))); (case k4 => first | exact Mine.xc67 _ rfl | exact Mine.xc87 _ rfl | exact Mine.xc151 _ rfl | exact Mine.xc170 _ rfl); (case k5 => k_is); (case k6 => k_is); (case k7 => k_is); k_whole))
  k_with "binaryOp Mod str ref" => (k_here; (with_reducible show wpAny _ _ (binaryOp Operator.Mod (Value.str (PySem.Str.ofString "File contains no section headers.\nfile: %r, line: %d\n%r") _) (Value.ref _)) _ _ _); k_dflt (refine' Mine.place_1' ?hv ?hy ?h1 ?h2 ?N ?hb ?_; (case hv => with_reducible assumption); (case hy => with_reducible assumption); (case h1 => with_reducible assumption); (case h2 => with_reducible assumption); (case N => k_asm); (case hb => k_mem)); intro _ _; (try dsimp only))
  k_with "binaryOp Mod str ref" => (k_here; (with_reducible show wpAny _ _ (binaryOp Operator.Mod (Value.str (PySem.Str.ofString "Key without value continued with an indented line.\nfile: %r, line: %d\n%r") _) (Value.ref _)) _ _ _); k_dflt (refine' Mine.place_2' ?hv ?hy ?h1 ?h2 ?N ?hb ?_; (case hv => with_reducible assumption); (case hy => with_reducible assumption); (case h1 => with_reducible assumption); (case h2 => with_reducible assumption); (case N => k_asm); (case hb => k_mem)); intro _ _; (try dsimp only))
  k_with "call builtin:str.split" => (k_here; (with_reducible show wpAny _ _ (call (Value.builtin "str.split") [Value.str (Mine.placeMsg _ _ _ _) _, _]) _ _ _); k_dflt (refine' Mine.split_place ?hF ?hN ?ho ?hr ?hy ?l1 ?l2 ?l3 ?l4 ?_; (case hF => k_asm); (case hN => k_asm); (case ho => with_reducible assumption); (case hr => with_reducible assumption); (case hy => with_reducible assumption); (case l1 => with_reducible assumption); (case l2 => with_reducible assumption); (case l3 => with_reducible assumption); (case l4 => with_reducible assumption)); intro D' t1' t2' t3' h' k' F' N' l1; (try dsimp only at N'); (try k_lt l1))
  k_fill
  intro vw w loose mean mg mb dp un cn cs a ccd cl outer A₀ base h₀ L m h g d tk os Q E src rv y n t1 t2 B F X T hk hd hu hv hy hn1 hn2 hret
  refine' Mine.call_X0 ?k1 ?k2 ?k4 ?k5 ?k6 ?k7 ?_
  (case k1 => k_asm)
  (case k2 => k_asm)
  (case k4 => first | exact Mine.xc67 _ rfl | exact Mine.xc87 _ rfl | exact Mine.xc151 _ rfl | exact Mine.xc170 _ rfl)
  (case k5 => k_is)
  (case k6 => k_is)
  (case k7 => exact Nat.le_of_ble_eq_true rfl)
  intro x0 tx0 h1 hkeep F1 N1 l1
  k_lt2 l1
  (refine' Mine.code_defG ?k1 ?k2 ?k3 ?k4 ?k5 ?kA ?kF ?kK ?k6 ?k7 ?k8 ?k9 ?kB ?_ ?c2 ?c3 ?c4 ?c5)
  (case kA => exact rfl)
  (case kF => exact rfl)
  (case kK => first | exact rfl | assumption)
  (case k1 => k_asm)
  (case k2 => k_asm)
  (case k3 => k_asm)
  (case k4 => k_asm)
  (case k5 => k_asm)
  (case k6 => k_is)
  (case k7 => k_is)
  (case k8 => ktr_room)
  (case k9 => first | exact BindsTo.of_eq rfl | exact binds_K (by k_in) rfl (by k_is) rfl rfl rfl | fail "no rule for these arguments")
  (case c5 => decide)
  (case kB => exact locs rfl)
  (case c2 => exact rfl)
  (case c3 => exact rfl)
  (case c4 => exact rfl)
  intro g1 L1 h2 tk2 hg1 FG1 F2 N2 B2 X2 T2 l2
  k_lt l2
  (try k_lift B2)
  (try k_fold)
  k_steps
  all_goals (refine' hret _ _ _ _ _ _ _ _ _ _ ?keep ?F ?N; (case keep => exact (fun b o e => (Mine.keep_X (by assumption) (by assumption) (by assumption) (by k_asm) b o e).1)); (case F => k_asm); (case N => (refine' Mine.news3 ?n0 ?n1 ?n2 ?n3; (case n0 => k_asm); (case n1 => k_mem); (case n2 => k_mem); (case n3 => k_mem))))
set_option rowWalk.seconds 0 in
set_option maxRecDepth 100000 in
set_option maxHeartbeats 16000000 in
theorem mce_T : ∀ {vw : Program} (w : World) (loose : List PySem.Str) (mean : ExcName → Option Value) (mg mb : PySem.Str → Option Value) (dp un : Nat) (cn : PySem.Str) (cs : Scope) (a : Addr) (ccd : Value) (cl : List (PySem.Str × Addr)) (outer : List Env) (A₀ : Around) (base h₀ : Heap) (L : Addr) (m : PySem.Str → Option Value) (h : Heap) (g : Array GenState) (d : Drawn) (tk : Nat) (os : OsState) (Q E : Value → Shared → Prop) (src : Value) (rv y : PySem.Str) (n : Int) (t1 t2 : Tok),
    Below A₀ base outer h₀ → Fr h₀ L h m → (Mine.hd.heap_39 w.params).In h₀ → Top vw loose mean mg mb h₀ → cs.kind = .function → dp + 5 < recursionLimit → un + 80 < cLine → Shows src rv → (reprText y).length ≤ 4000 → -(10 ^ 12) < n → n < 10 ^ 12 →
    (∀ (x dx tx : Addr) (kt0 kt1 kt2 kt3 km : Tok) (h' : Heap) (tk' : Nat), (∀ b o, h.get? b = some o → h'.get? b = some o) → Fr h₀ L h' m → News h₀ L h' [(x, xObj 170 (some dx) (excF (.ref tx))), (dx, dictOf [⟨PyData.keyHash w.params (PySem.Str.ofString "message"), .str (PySem.Str.ofString "message") kt0, .str (placeMsg (PySem.Str.ofString "Key without value continued with an indented line.") rv n (reprText y)) km⟩, ⟨PyData.keyHash w.params (PySem.Str.ofString "source"), .str (PySem.Str.ofString "source") kt1, src⟩, ⟨PyData.keyHash w.params (PySem.Str.ofString "lineno"), .str (PySem.Str.ofString "lineno") kt2, .int n t1⟩, ⟨PyData.keyHash w.params (PySem.Str.ofString "line"), .str (PySem.Str.ofString "line") kt3, .str y t2⟩] 4), (tx, tupObj [src, .int n t1, .str y t2])] → Q (.ref x) ⟨h', g, d, tk', os⟩) →
    wpAny (model PySem.Challenge.rw_dm0029_04.row.prog w) (ktrTop dp un (some []) cn cs L a ccd cl outer) (call (.ref 170) [src, .int n t1, .str y t2]) Q E ⟨h, g, d, tk, os⟩ := by
  k_with_none
  k_with "ite" => (k_here; (first | refine Mine.ite_ff ?_ | refine Mine.ite_tt ?_))
  k_with "ne" => (first | exact Mine.ne_l1 (by assumption) | exact Mine.ne_l1' (by assumption) | exact Mine.ne_r1 (by assumption) | exact Mine.ne_r1' (by assumption) | exact Mine.ne_l2 (by assumption) | exact Mine.ne_l2' (by assumption) | exact Mine.ne_r2 (by assumption) | exact Mine.ne_r2' (by assumption) | exact Mine.ne_l3 (by assumption) | exact Mine.ne_l3' (by assumption) | exact Mine.ne_r3 (by assumption) | exact Mine.ne_r3' (by assumption) | exact Mine.ne_l4 (by assumption) | exact Mine.ne_l4' (by assumption) | exact Mine.ne_r4 (by assumption) | exact Mine.ne_r4' (by assumption) | exact Mine.ne_l5 (by assumption) | exact Mine.ne_l5' (by assumption) | exact Mine.ne_r5 (by assumption) | exact Mine.ne_r5' (by assumption) | exact Mine.ne_l6 (by assumption) | exact Mine.ne_l6' (by assumption) | exact Mine.ne_r6 (by assumption) | exact Mine.ne_r6' (by assumption) | exact Mine.ne_l7 (by assumption) | exact Mine.ne_l7' (by assumption) | exact Mine.ne_r7 (by assumption) | exact Mine.ne_r7' (by assumption) | exact Mine.ne_l8 (by assumption) | exact Mine.ne_l8' (by assumption) | exact Mine.ne_r8 (by assumption) | exact Mine.ne_r8' (by assumption) | exact Mine.ne_l9 (by assumption) | exact Mine.ne_l9' (by assumption) | exact Mine.ne_r9 (by assumption) | exact Mine.ne_r9' (by assumption))
  k_with "exec For Name BinOp cons nil" => (k_here; (rename Fr _ _ _ _ => lF'); (with_unfolding_all refine' For_invVF lF' ?k1 ?k2 ?_; (case k1 => exact rfl); (case k2 => exact rfl); k_whole))
  k_with "call ref" => (k_here; k_dflt ((refine wpAny_call ?_); (refine' Mine.code_defG ?k1 ?k2 ?k3 ?k4 ?k5 ?kA ?kF ?kK ?k6 ?k7 ?k8 ?k9 ?kB ?_ ?c2 ?c3 ?c4 ?c5); (case kA => exact rfl); (case kF => exact rfl); (case kK => first | exact rfl | assumption); (case k1 => k_asm); (case k2 => k_asm); (case k3 => k_asm); (case k4 => k_asm); (case k5 => k_asm); (case k6 => k_is); (case k7 => k_is); (case k8 => ktr_room); (case k9 => first | exact BindsTo.of_eq rfl | exact binds_K (by k_in) rfl (by k_is) rfl rfl rfl | fail "no rule for these arguments"); (case c5 => decide); (case kB => exact locs rfl); (case c2 => exact rfl); (case c3 => exact rfl); (case c4 => exact rfl); k_whole; intro g' L' h' tk' hg' FG' F' N' B' X' T' l'; (clear hg'); (try k_lt l'); (try dsimp only); (try k_lift B'); (try k_fold)))
  k_with "call builtin:repr" => (k_here; (with_reducible show wpAny _ _ (call (Value.builtin "repr") [_]) _ _ _); k_dflt ((refine' Mine.ReprAs.run ?r0 ?rF ?rN ?rk ?ru ?rg ?_); (case r0 => with_reducible assumption); (case rF => k_asm); (case rN => k_asm); (case rk => first | exact (fun b o e => (Mine.keep_X (by with_reducible assumption) (by with_reducible assumption) (by with_reducible assumption) (by with_reducible assumption) b o e).1) | exact (fun _ _ e => Fr.keep (by with_reducible assumption) _ _ (Fr.keep (by with_reducible assumption) _ _ e)) | exact (fun _ _ e => Fr.keep (by with_reducible assumption) _ _ e)); (case ru => ((try simp only [units_deeper, units_in1, units_under_make]); ktr_units)); (case rg => exact rfl); k_whole; intro t' k' h' F' N'))
  k_with "compareOp IsNot" => (k_here; (with_reducible show wpAny _ _ (compareOp CmpOp.IsNot _ Value.none) _ _ _); refine Mine.isNot_none' (by with_reducible assumption) ?_)
  k_with "compareOp Is" => (k_here; (with_reducible show wpAny _ _ (compareOp CmpOp.Is _ Value.none) _ _ _); refine Mine.is_none' (by with_reducible assumption) ?_)
  k_with "getMethod type:Exception" => (k_here; refine' method_type ?F ?X ?m (by decide +kernel) ?e ?h ?_; (case F => k_asm); (case X => k_asm); (case m => kernel_rfl); (case e => k_dflt k_is); (case h => k_handed))
  k_with "call builtin:Exception.__init__" => (k_here; k_dflt (refine' Mine.init_K ?k1 ?k2 ?k3 ?k4 ?k5 ?k6 ?_; (case k1 => k_asm); (case k2 => k_asm); (case k3 => k_asm); (case k6 => (intro tx'; k_upd)); (case k4 => first | exact Mine.xc67 _ rfl | exact Mine.xc87 _ rfl | exact Mine.xc151 _ rfl | exact Mine.xc170 _ rfl); (case k5 => exact Nat.le_of_ble_eq_true rfl); k_whole); intro t' h' F' N' l1; (try dsimp only at N'); (try k_lt l1); (try k_sweep))
  k_with "call builtin:str.format" => (k_here; (with_reducible show wpAny _ _ (call (Value.builtin "str.format") [Value.str _ _, Value.int _ _]) _ _ _); (refine Mine.line_2d (by assumption) (by assumption) ?_); intro _ _)
  k_with "call builtin:str.join" => (k_here; (with_reducible show wpAny _ _ (call (Value.builtin "str.join") [Value.str _ _, Value.ref _]) _ _ _); k_dflt (refine' Mine.join_cat ?jN ?jm ?ji ?jB ?jn ?_; (case jN => k_asm); (case jm => k_mem); (case ji => repeat (first | exact PyProof.Rows.StrsAre.nil | apply PyProof.Rows.StrsAre.cons)); (case jB => (repeat (first | exact List.forall_mem_nil _ | refine List.forall_mem_cons.mpr ⟨by first | (with_reducible exact Mine.le5 (Mine.ReprAs.len (by assumption))) | (with_reducible exact Mine.line_len (by assumption) (by assumption)) | decide +kernel, ?_⟩))); (case jn => exact Nat.le_of_ble_eq_true rfl)); intro _ _; (try simp only [Mine.catS]))
  k_with "setAttr ref" => (k_here; k_dflt (refine' Mine.set_newK ?k1 ?k2 ?k3 ?k4 ?k5 ?k6 ?_; (case k1 => k_asm); (case k2 => k_asm); (case k3 => k_asm); (case k6 => (intro dx'; k_upd)); (case k4 => first | exact Mine.xc67 _ rfl | exact Mine.xc87 _ rfl | exact Mine.xc151 _ rfl | exact Mine.xc170 _ rfl); (case k5 => k_is); k_whole; intro d' h' F' N' l1; (try dsimp only at N'); (try k_lt l1); (try k_sweep)))
  k_with "setAttr ref" => (k_here; k_dflt (refine' Mine.set_dictK ?k1 ?k2 ?k3 ?k4 ?k5 ?k6 ?k7 ?k10 ?k11 ?k12 ?k13 ?_; (case k1 => k_asm); (case k2 => k_asm); (case k3 => k_asm); (case k4 => (refine' Mine.instX ?N ?h1 ?h2; (case N => k_asm); (case h1 => k_mem); (case h2 => k_mem))); (case k5 => exact rfl); (case k6 => first | exact Mine.xc67 _ rfl | exact Mine.xc87 _ rfl | exact Mine.xc151 _ rfl | exact Mine.xc170 _ rfl); (case k7 => k_is); (case k10 => k_get); (case k11 => k_put); (case k12 => k_upd); (case k13 => exact Nat.le_of_ble_eq_true rfl); k_whole; intro h' F' N'; (try k_sweep)))
  k_with "setAttr ref" => (k_here; (with_reducible show wpAny _ _ (setAttr (Value.ref _) (PySem.Str.ofString "args") (Value.ref _)) _ _ _); k_dflt (refine' Mine.set_argsK ?k1 ?k2 ?k3 ?k4 ?k5 ?k6 ?k7 ?k8 ?_; (case k1 => k_asm); (case k2 => k_asm); (case k3 => k_asm); (case k4 => (refine' Mine.instX ?N ?h1 ?h2; (case N => k_asm); (case h1 => k_mem); (case h2 => k_mem))); (case k5 => first | exact Mine.xc67 _ rfl | exact Mine.xc87 _ rfl | exact Mine.xc151 _ rfl | exact Mine.xc170 _ rfl); (case k6 => k_is); (case k7 => exact News.isTup (by k_asm) (by k_mem)); (case k8 => k_upd); k_whole; intro h' F' N'; (try k_sweep)))
  k_with "getAttr ref" => (k_here; k_dflt (refine' Mine.get_ownX ?k1 ?k2 ?k3 ?k4 ?k5 ?k6 ?k7 ?k8 ?_; (case k1 => k_asm); (case k2 => k_asm); (case k3 => (refine' Mine.instX ?N ?h1 ?h2; (case N => k_asm); (case h1 => k_mem); (case h2 => k_mem))); (case k4 => first | exact Mine.xc67 _ rfl | exact Mine.xc87 _ rfl | exact Mine.xc151 _ rfl | exact Mine.xc170 _ rfl); (case k5 => k_is); (case k6 => k_is); (case k7 => k_get); (case k8 => k_handed); k_whole))
  k_with "getAttr ref" => (k_here; (with_reducible show wpAny _ _ (getAttr (Value.ref _) (PySem.Str.ofString "args") _) _ _ _); k_dflt (refine' Mine.get_argsX ?k1 ?k2 ?k3 ?k4 ?k5 ?k6 ?k7 ?_; (case k1 => k_asm); (case k2 => k_asm); (case k3 => (refine' Mine.instX ?N ?h1 ?h2; (case N => k_asm); (case h1 => k_mem); (case h2 => k_mem))); (case k4 => first | exact Mine.xc67 _ rfl | exact Mine.xc87 _ rfl | exact Mine.xc151 _ rfl | exact Mine.xc170 _ rfl); (case k5 => k_is); (case k6 => k_is); (case k7 => k_is); k_whole))
  k_with "binaryOp Mod str ref" => (k_here; (with_reducible show wpAny _ _ (binaryOp Operator.Mod (Value.str (PySem.Str.ofString "File contains no section headers.\nfile: %r, line: %d\n%r") _) (Value.ref _)) _ _ _); k_dflt (refine' Mine.place_1' ?hv ?hy ?h1 ?h2 ?N ?hb ?_; (case hv => with_reducible assumption); (case hy => with_reducible assumption); (case h1 => with_reducible assumption); (case h2 => with_reducible assumption); (case N => k_asm); (case hb => k_mem)); intro _ _; (try dsimp only))
  k_with "binaryOp Mod str ref" => (k_here; (with_reducible show wpAny _ _ (binaryOp Operator.Mod (Value.str (PySem.Str.ofString "Key without value continued with an indented line.\nfile: %r, line: %d\n%r") _) (Value.ref _)) _ _ _); k_dflt (refine' Mine.place_2' ?hv ?hy ?h1 ?h2 ?N ?hb ?_; (case hv => with_reducible assumption); (case hy => with_reducible assumption); (case h1 => with_reducible assumption); (case h2 => with_reducible assumption); (case N => k_asm); (case hb => k_mem)); intro _ _; (try dsimp only))
  k_with "call builtin:str.split" => (k_here; (with_reducible show wpAny _ _ (call (Value.builtin "str.split") [Value.str (Mine.placeMsg _ _ _ _) _, _]) _ _ _); k_dflt (refine' Mine.split_place ?hF ?hN ?ho ?hr ?hy ?l1 ?l2 ?l3 ?l4 ?_; (case hF => k_asm); (case hN => k_asm); (case ho => with_reducible assumption); (case hr => with_reducible assumption); (case hy => with_reducible assumption); (case l1 => with_reducible assumption); (case l2 => with_reducible assumption); (case l3 => with_reducible assumption); (case l4 => with_reducible assumption)); intro D' t1' t2' t3' h' k' F' N' l1; (try dsimp only at N'); (try k_lt l1))
  k_fill
  intro vw w loose mean mg mb dp un cn cs a ccd cl outer A₀ base h₀ L m h g d tk os Q E src rv y n t1 t2 B F X T hk hd hu hv hy hn1 hn2 hret
  refine' Mine.call_X0 ?k1 ?k2 ?k4 ?k5 ?k6 ?k7 ?_
  (case k1 => k_asm)
  (case k2 => k_asm)
  (case k4 => first | exact Mine.xc67 _ rfl | exact Mine.xc87 _ rfl | exact Mine.xc151 _ rfl | exact Mine.xc170 _ rfl)
  (case k5 => k_is)
  (case k6 => k_is)
  (case k7 => exact Nat.le_of_ble_eq_true rfl)
  intro x0 tx0 h1 hkeep F1 N1 l1
  k_lt2 l1
  (refine' Mine.code_defG ?k1 ?k2 ?k3 ?k4 ?k5 ?kA ?kF ?kK ?k6 ?k7 ?k8 ?k9 ?kB ?_ ?c2 ?c3 ?c4 ?c5)
  (case kA => exact rfl)
  (case kF => exact rfl)
  (case kK => first | exact rfl | assumption)
  (case k1 => k_asm)
  (case k2 => k_asm)
  (case k3 => k_asm)
  (case k4 => k_asm)
  (case k5 => k_asm)
  (case k6 => k_is)
  (case k7 => k_is)
  (case k8 => ktr_room)
  (case k9 => first | exact BindsTo.of_eq rfl | exact binds_K (by k_in) rfl (by k_is) rfl rfl rfl | fail "no rule for these arguments")
  (case c5 => decide)
  (case kB => exact locs rfl)
  (case c2 => exact rfl)
  (case c3 => exact rfl)
  (case c4 => exact rfl)
  intro g1 L1 h2 tk2 hg1 FG1 F2 N2 B2 X2 T2 l2
  k_lt l2
  (try k_lift B2)
  (try k_fold)
  k_steps
  all_goals (refine' hret _ _ _ _ _ _ _ _ _ _ ?keep ?F ?N; (case keep => exact (fun b o e => (Mine.keep_X (by assumption) (by assumption) (by assumption) (by k_asm) b o e).1)); (case F => k_asm); (case N => (refine' Mine.news3 ?n0 ?n1 ?n2 ?n3; (case n0 => k_asm); (case n1 => k_mem); (case n2 => k_mem); (case n3 => k_mem))))
end Mine
end
section
open PySem PySem.W PyProof.Rows PySem.Calls
namespace Mine
local macro_rules | `(tactic| kt_len) => `(tactic| (with_reducible exact Mine.ReprAs.len (by with_reducible assumption)))
local macro_rules | `(tactic| kt_len) => `(tactic| (with_reducible exact Mine.pad2_len (by with_reducible assumption) (by with_reducible assumption)))
local macro_rules | `(tactic| kt_len) => `(tactic| (with_reducible exact Mine.itext_len_le (by with_reducible assumption) (by with_reducible assumption)))
set_option rowWalk.seconds 0 in
set_option maxRecDepth 100000 in
set_option maxHeartbeats 16000000 in
theorem place151_T : ∀ {vw : Program} (w : World) (loose : List PySem.Str) (mean : ExcName → Option Value) (mg mb : PySem.Str → Option Value) (dp un : Nat) (cn : PySem.Str) (cs : Scope) (a : Addr) (ccd : Value) (cl : List (PySem.Str × Addr)) (outer : List Env) (A₀ : Around) (base h₀ : Heap) (L : Addr) (m : PySem.Str → Option Value) (h : Heap) (g : Array GenState) (d : Drawn) (tk : Nat) (os : OsState) (Q E : Value → Shared → Prop) (src lv : Value) (rv ry : PySem.Str) (n : Int) (to tn : Tok) (x dx tx : Addr) (kt0 kt1 kt2 kt3 km : Tok),
    Below A₀ base outer h₀ → Fr h₀ L h m → (Mine.hd.heap_39 w.params).In h₀ → Top vw loose mean mg mb h₀ → cs.kind = .function → dp + 9 < recursionLimit → un + 160 < cLine → ReprAs PySem.Challenge.rw_dm0029_04.row.prog w h₀ src rv → ReprAs PySem.Challenge.rw_dm0029_04.row.prog w h₀ lv ry → 10 ∉ rv.cps.toList → 10 ∉ ry.cps.toList → rv.length ≤ 4000 → ry.length ≤ 4000 → -(10 ^ 12) < n → n < 10 ^ 12 →
    News h₀ L h [(x, xObj 151 (some dx) (excF (.ref tx))), (dx, dictOf [⟨PyData.keyHash w.params (PySem.Str.ofString "message"), .str (PySem.Str.ofString "message") kt0, .str (placeMsg (PySem.Str.ofString "File contains no section headers.") rv n ry) km⟩, ⟨PyData.keyHash w.params (PySem.Str.ofString "source"), .str (PySem.Str.ofString "source") kt1, src⟩, ⟨PyData.keyHash w.params (PySem.Str.ofString "lineno"), .str (PySem.Str.ofString "lineno") kt2, .int n tn⟩, ⟨PyData.keyHash w.params (PySem.Str.ofString "line"), .str (PySem.Str.ofString "line") kt3, lv⟩] 4)] →
    (∀ h' tk', (∀ b o, h.get? b = some o → h'.get? b = some o) → Fr h₀ L h' m → Q (.bool true) ⟨h', g, d, tk', os⟩) →
    wpAny (model PySem.Challenge.rw_dm0029_04.row.prog w) (ktrTop dp un (some []) cn cs L a ccd cl outer) (call (.ref 193) [.ref x, .str (PySem.Str.ofString "File contains no section headers.") to, src, .int n tn, lv]) Q E ⟨h, g, d, tk, os⟩ := by
  k_with_none
  k_with "ite" => (k_here; (first | refine Mine.ite_ff ?_ | refine Mine.ite_tt ?_))
  k_with "ne" => (first | exact Mine.ne_l1 (by assumption) | exact Mine.ne_l1' (by assumption) | exact Mine.ne_r1 (by assumption) | exact Mine.ne_r1' (by assumption) | exact Mine.ne_l2 (by assumption) | exact Mine.ne_l2' (by assumption) | exact Mine.ne_r2 (by assumption) | exact Mine.ne_r2' (by assumption) | exact Mine.ne_l3 (by assumption) | exact Mine.ne_l3' (by assumption) | exact Mine.ne_r3 (by assumption) | exact Mine.ne_r3' (by assumption) | exact Mine.ne_l4 (by assumption) | exact Mine.ne_l4' (by assumption) | exact Mine.ne_r4 (by assumption) | exact Mine.ne_r4' (by assumption) | exact Mine.ne_l5 (by assumption) | exact Mine.ne_l5' (by assumption) | exact Mine.ne_r5 (by assumption) | exact Mine.ne_r5' (by assumption) | exact Mine.ne_l6 (by assumption) | exact Mine.ne_l6' (by assumption) | exact Mine.ne_r6 (by assumption) | exact Mine.ne_r6' (by assumption) | exact Mine.ne_l7 (by assumption) | exact Mine.ne_l7' (by assumption) | exact Mine.ne_r7 (by assumption) | exact Mine.ne_r7' (by assumption) | exact Mine.ne_l8 (by assumption) | exact Mine.ne_l8' (by assumption) | exact Mine.ne_r8 (by assumption) | exact Mine.ne_r8' (by assumption) | exact Mine.ne_l9 (by assumption) | exact Mine.ne_l9' (by assumption) | exact Mine.ne_r9 (by assumption) | exact Mine.ne_r9' (by assumption))
  k_with "exec For Name BinOp cons nil" => (k_here; (rename Fr _ _ _ _ => lF'); (with_unfolding_all refine' For_invVF lF' ?k1 ?k2 ?_; (case k1 => exact rfl); (case k2 => exact rfl); k_whole))
  k_with "call ref" => (k_here; (fail_if_success (with_reducible show wpAny _ _ (call (Value.ref 179) _) _ _ _)); k_dflt ((refine wpAny_call ?_); (refine' Mine.code_defG ?k1 ?k2 ?k3 ?k4 ?k5 ?kA ?kF ?kK ?k6 ?k7 ?k8 ?k9 ?kB ?_ ?c2 ?c3 ?c4 ?c5); (case kA => exact rfl); (case kF => exact rfl); (case kK => first | exact rfl | assumption); (case k1 => k_asm); (case k2 => k_asm); (case k3 => k_asm); (case k4 => k_asm); (case k5 => k_asm); (case k6 => k_is); (case k7 => k_is); (case k8 => ktr_room); (case k9 => first | exact BindsTo.of_eq rfl | exact binds_K (by k_in) rfl (by k_is) rfl rfl rfl | fail "no rule for these arguments"); (case c5 => decide); (case kB => exact locs rfl); (case c2 => exact rfl); (case c3 => exact rfl); (case c4 => exact rfl); k_whole; intro g' L' h' tk' hg' FG' F' N' B' X' T' l'; (clear hg'); (try k_lt l'); (try dsimp only); (try k_lift B'); (try k_fold)))
  k_with "call builtin:repr" => (k_here; (with_reducible show wpAny _ _ (call (Value.builtin "repr") [_]) _ _ _); k_dflt ((refine' Mine.ReprAs.run ?r0 ?rF ?rN ?rk ?ru ?rg ?_); (case r0 => with_reducible assumption); (case rF => k_asm); (case rN => k_asm); (case rk => first | exact (fun b o e => (Mine.keep_X (by with_reducible assumption) (by with_reducible assumption) (by with_reducible assumption) (by with_reducible assumption) b o e).1) | exact (fun _ _ e => Fr.keep (by with_reducible assumption) _ _ (Fr.keep (by with_reducible assumption) _ _ e)) | exact (fun _ _ e => Fr.keep (by with_reducible assumption) _ _ e)); (case ru => ((try simp only [units_deeper, units_in1, units_under_make]); ktr_units)); (case rg => exact rfl); k_whole; intro t' k' h' F' N'))
  k_with "compareOp IsNot" => (k_here; (with_reducible show wpAny _ _ (compareOp CmpOp.IsNot _ Value.none) _ _ _); refine Mine.isNot_none' (by with_reducible assumption) ?_)
  k_with "compareOp Is" => (k_here; (with_reducible show wpAny _ _ (compareOp CmpOp.Is _ Value.none) _ _ _); refine Mine.is_none' (by with_reducible assumption) ?_)
  k_with "getMethod type:Exception" => (k_here; refine' method_type ?F ?X ?m (by decide +kernel) ?e ?h ?_; (case F => k_asm); (case X => k_asm); (case m => kernel_rfl); (case e => k_dflt k_is); (case h => k_handed))
  k_with "call builtin:Exception.__init__" => (k_here; k_dflt (refine' Mine.init_K ?k1 ?k2 ?k3 ?k4 ?k5 ?k6 ?_; (case k1 => k_asm); (case k2 => k_asm); (case k3 => k_asm); (case k6 => (intro tx'; k_upd)); (case k4 => first | (with_reducible assumption) | exact Mine.xc67 _ rfl | exact Mine.xc87 _ rfl | exact Mine.xc151 _ rfl | exact Mine.xc170 _ rfl); (case k5 => exact Nat.le_of_ble_eq_true rfl); k_whole); intro t' h' F' N' l1; (try dsimp only at N'); (try k_lt l1); (try k_sweep))
  k_with "call builtin:str.format" => (k_here; (with_reducible show wpAny _ _ (call (Value.builtin "str.format") [Value.str _ _, Value.int _ _]) _ _ _); (refine Mine.line_2d (by assumption) (by assumption) ?_); intro _ _)
  k_with "call builtin:str.join" => (k_here; (with_reducible show wpAny _ _ (call (Value.builtin "str.join") [Value.str _ _, Value.ref _]) _ _ _); k_dflt (refine' Mine.join_cat ?jN ?jm ?ji ?jB ?jn ?_; (case jN => k_asm); (case jm => k_mem); (case ji => repeat (first | exact PyProof.Rows.StrsAre.nil | apply PyProof.Rows.StrsAre.cons)); (case jB => (repeat (first | exact List.forall_mem_nil _ | refine List.forall_mem_cons.mpr ⟨by first | (with_reducible exact Mine.le5 (Mine.ReprAs.len (by assumption))) | (with_reducible exact Mine.line_len (by assumption) (by assumption)) | decide +kernel, ?_⟩))); (case jn => exact Nat.le_of_ble_eq_true rfl)); intro _ _; (try simp only [Mine.catS]))
  k_with "setAttr ref" => (k_here; k_dflt (refine' Mine.set_newK ?k1 ?k2 ?k3 ?k4 ?k5 ?k6 ?_; (case k1 => k_asm); (case k2 => k_asm); (case k3 => k_asm); (case k6 => (intro dx'; k_upd)); (case k4 => first | (with_reducible assumption) | exact Mine.xc67 _ rfl | exact Mine.xc87 _ rfl | exact Mine.xc151 _ rfl | exact Mine.xc170 _ rfl); (case k5 => k_is); k_whole; intro d' h' F' N' l1; (try dsimp only at N'); (try k_lt l1); (try k_sweep)))
  k_with "setAttr ref" => (k_here; k_dflt (refine' Mine.set_dictK ?k1 ?k2 ?k3 ?k4 ?k5 ?k6 ?k7 ?k10 ?k11 ?k12 ?k13 ?_; (case k1 => k_asm); (case k2 => k_asm); (case k3 => k_asm); (case k4 => (refine' Mine.instX ?N ?h1 ?h2; (case N => k_asm); (case h1 => k_mem); (case h2 => k_mem))); (case k5 => exact rfl); (case k6 => first | (with_reducible assumption) | exact Mine.xc67 _ rfl | exact Mine.xc87 _ rfl | exact Mine.xc151 _ rfl | exact Mine.xc170 _ rfl); (case k7 => k_is); (case k10 => k_get); (case k11 => k_put); (case k12 => k_upd); (case k13 => exact Nat.le_of_ble_eq_true rfl); k_whole; intro h' F' N'; (try k_sweep)))
  k_with "setAttr ref" => (k_here; (with_reducible show wpAny _ _ (setAttr (Value.ref _) (PySem.Str.ofString "args") (Value.ref _)) _ _ _); k_dflt (refine' Mine.set_argsK ?k1 ?k2 ?k3 ?k4 ?k5 ?k6 ?k7 ?k8 ?_; (case k1 => k_asm); (case k2 => k_asm); (case k3 => k_asm); (case k4 => (refine' Mine.instX ?N ?h1 ?h2; (case N => k_asm); (case h1 => k_mem); (case h2 => k_mem))); (case k5 => first | (with_reducible assumption) | exact Mine.xc67 _ rfl | exact Mine.xc87 _ rfl | exact Mine.xc151 _ rfl | exact Mine.xc170 _ rfl); (case k6 => k_is); (case k7 => exact News.isTup (by k_asm) (by k_mem)); (case k8 => k_upd); k_whole; intro h' F' N'; (try k_sweep)))
  k_with "getAttr ref" => (k_here; k_dflt (refine' Mine.get_ownX ?k1 ?k2 ?k3 ?k4 ?k5 ?k6 ?k7 ?k8 ?_; (case k1 => k_asm); (case k2 => k_asm); (case k3 => (refine' Mine.instX ?N ?h1 ?h2; (case N => k_asm); (case h1 => k_mem); (case h2 => k_mem))); (case k4 => first | (with_reducible assumption) | exact Mine.xc67 _ rfl | exact Mine.xc87 _ rfl | exact Mine.xc151 _ rfl | exact Mine.xc170 _ rfl); (case k5 => k_is); (case k6 => k_is); (case k7 => k_get); (case k8 => k_handed); k_whole))
  k_with "getAttr ref" => (k_here; (with_reducible show wpAny _ _ (getAttr (Value.ref _) (PySem.Str.ofString "args") _) _ _ _); k_dflt (refine' Mine.get_argsX ?k1 ?k2 ?k3 ?k4 ?k5 ?k6 ?k7 ?_; (case k1 => k_asm); (case k2 => k_asm); (case k3 => (refine' Mine.instX ?N ?h1 ?h2; (case N => k_asm); (case h1 => k_mem); (case h2 => k_mem))); (case k4 => first | (with_reducible assumption) | exact Mine.xc67 _ rfl | exact Mine.xc87 _ rfl | exact Mine.xc151 _ rfl | exact Mine.xc170 _ rfl); (case k5 => k_is); (case k6 => k_is); (case k7 => k_is); k_whole))
  k_with "binaryOp Mod str ref" => (k_here; (with_reducible show wpAny _ _ (binaryOp Operator.Mod (Value.str (PySem.Str.ofString "File contains no section headers.\nfile: %r, line: %d\n%r") _) (Value.ref _)) _ _ _); k_dflt (refine' Mine.place_1' ?hv ?hy ?h1 ?h2 ?N ?hb ?_; (case hv => with_reducible assumption); (case hy => with_reducible assumption); (case h1 => with_reducible assumption); (case h2 => with_reducible assumption); (case N => k_asm); (case hb => k_mem)); intro _ _; (try dsimp only))
  k_with "binaryOp Mod str ref" => (k_here; (with_reducible show wpAny _ _ (binaryOp Operator.Mod (Value.str (PySem.Str.ofString "Key without value continued with an indented line.\nfile: %r, line: %d\n%r") _) (Value.ref _)) _ _ _); k_dflt (refine' Mine.place_2' ?hv ?hy ?h1 ?h2 ?N ?hb ?_; (case hv => with_reducible assumption); (case hy => with_reducible assumption); (case h1 => with_reducible assumption); (case h2 => with_reducible assumption); (case N => k_asm); (case hb => k_mem)); intro _ _; (try dsimp only))
  k_with "call builtin:str.split" => (k_here; (with_reducible show wpAny _ _ (call (Value.builtin "str.split") [Value.str (Mine.placeMsg _ _ _ _) _, _]) _ _ _); k_dflt (refine' Mine.split_place ?hF ?hN ?ho ?hr ?hy ?l1 ?l2 ?l3 ?l4 ?_; (case hF => k_asm); (case hN => k_asm); (case ho => with_reducible assumption); (case hr => with_reducible assumption); (case hy => with_reducible assumption); (case l1 => with_reducible assumption); (case l2 => with_reducible assumption); (case l3 => with_reducible assumption); (case l4 => with_reducible assumption)); intro D' t1' t2' t3' h' k' F' N' l1; (try dsimp only at N'); (try k_lt l1))
  k_with "call ref" => (k_here; (with_reducible show wpAny _ _ (call (Value.ref 179) _) _ _ _); (try unfold Mine.placeRow); k_dflt ((first | (refine' Mine.stripped_T _ _ _ _ _ _ _ _ _ _ _ _ _ _ _ _ _ _ _ _ _ _ _ _ _ _ _ (PySem.Str.ofString "") _ _ _ _ ?k1 ?k2 ?k3 ?k4 ?k5 ?k6 ?k7 ?s1 ?s2 ?s3 ?se ?_; (case se => ((refine Mine.str_eq ?_); (simp only [Mine.cps_app, List.append_assoc, Mine.lit0, Mine.lit1, Mine.lit2, Mine.lit3, Mine.lit4, Mine.lit5, Mine.lit6, Mine.lit7, Mine.lit8, Mine.lit9, Mine.lit10, Mine.lit11, Mine.lit12, Mine.lit13, Mine.lit14, Mine.lit15, Mine.lit16, Mine.lit17, List.cons_append, List.nil_append, List.append_nil])))) | (refine' Mine.stripped_T _ _ _ _ _ _ _ _ _ _ _ _ _ _ _ _ _ _ _ _ _ _ _ _ _ _ _ (PySem.Str.ofString " [line " ++ Mine.pad2 ‹Int› ++ PySem.Str.ofString "]") _ _ _ _ ?k1 ?k2 ?k3 ?k4 ?k5 ?k6 ?k7 ?s1 ?s2 ?s3 ?se ?_; (case se => ((refine Mine.str_eq ?_); (simp only [Mine.cps_app, List.append_assoc, Mine.lit0, Mine.lit1, Mine.lit2, Mine.lit3, Mine.lit4, Mine.lit5, Mine.lit6, Mine.lit7, Mine.lit8, Mine.lit9, Mine.lit10, Mine.lit11, Mine.lit12, Mine.lit13, Mine.lit14, Mine.lit15, Mine.lit16, Mine.lit17, List.cons_append, List.nil_append, List.append_nil])))) | (refine' Mine.stripped_T _ _ _ _ _ _ _ _ _ _ _ _ _ _ _ _ _ _ _ _ _ _ _ _ _ _ _ (Mine.pad2 ‹Int›) _ _ _ _ ?k1 ?k2 ?k3 ?k4 ?k5 ?k6 ?k7 ?s1 ?s2 ?s3 ?se ?_; (case se => ((refine Mine.str_eq ?_); (simp only [Mine.cps_app, List.append_assoc, Mine.lit0, Mine.lit1, Mine.lit2, Mine.lit3, Mine.lit4, Mine.lit5, Mine.lit6, Mine.lit7, Mine.lit8, Mine.lit9, Mine.lit10, Mine.lit11, Mine.lit12, Mine.lit13, Mine.lit14, Mine.lit15, Mine.lit16, Mine.lit17, List.cons_append, List.nil_append, List.append_nil]))))); (case k1 => k_asm); (case k2 => k_asm); (case k3 => k_asm); (case k4 => k_asm); (case k5 => first | exact rfl | assumption); (case k6 => ktr_room); (case k7 => ktr_units); (case s1 => (refine Nat.le_trans (by kt_len) ?_; exact Nat.le_of_ble_eq_true rfl)); (case s2 => (refine Nat.le_trans (by kt_len) ?_; exact Nat.le_of_ble_eq_true rfl)); (case s3 => (refine Nat.le_trans (by kt_len) ?_; exact Nat.le_of_ble_eq_true rfl)); k_whole); intro t' h' tk' hk' F'; (have N' := Mine.news_kept hk' (by k_asm)); (clear hk'); (try dsimp only))
  k_fill
  intro vw w loose mean mg mb dp un cn cs a ccd cl outer A₀ base h₀ L m h g d tk os Q E src lv rv ry n to tn x dx tx kt0 kt1 kt2 kt3 km B F X T hk hd hu hr1 hr2 hs1 hs2 hs3 hs4 hn1 hn2 N hret
  have hp2 := itext_len_le hn1 hn2
  have ho1 : 10 ∉ (PySem.Str.ofString "File contains no section headers.").cps.toList := by decide +kernel
  have ho2 : (PySem.Str.ofString "File contains no section headers.").length ≤ 1000 := by decide +kernel
  refine wpAny_call ?_
  (refine' Mine.code_defG ?k1 ?k2 ?k3 ?k4 ?k5 ?kA ?kF ?kK ?k6 ?k7 ?k8 ?k9 ?kB ?_ ?c2 ?c3 ?c4 ?c5)
  (case kA => exact rfl)
  (case kF => exact rfl)
  (case kK => first | exact rfl | assumption)
  (case k1 => k_asm)
  (case k2 => k_asm)
  (case k3 => k_asm)
  (case k4 => k_asm)
  (case k5 => k_asm)
  (case k6 => k_is)
  (case k7 => k_is)
  (case k8 => ktr_room)
  (case k9 => first | exact BindsTo.of_eq rfl | exact binds_K (by k_in) rfl (by k_is) rfl rfl rfl | fail "no rule for these arguments")
  (case c5 => decide)
  (case kB => exact locs rfl)
  (case c2 => exact rfl)
  (case c3 => exact rfl)
  (case c4 => exact rfl)
  intro g1 L1 h2 tk2 hg1 FG1 F2 N2 B2 X2 T2 l2
  k_lt l2
  (try k_lift B2)
  (try k_fold)
  k_steps
  · exact absurd (show (ry != ry) = true by assumption) (by simp)
  · rw [empty_same]
    exact hret _ _ (keep_N hg1 N (by k_asm) (by k_asm) (fun p hp => by first | exact hp | exact List.mem_cons_of_mem _ hp)) (by k_asm)
set_option rowWalk.seconds 0 in
set_option maxRecDepth 100000 in
set_option maxHeartbeats 16000000 in
theorem place170_T : ∀ {vw : Program} (w : World) (loose : List PySem.Str) (mean : ExcName → Option Value) (mg mb : PySem.Str → Option Value) (dp un : Nat) (cn : PySem.Str) (cs : Scope) (a : Addr) (ccd : Value) (cl : List (PySem.Str × Addr)) (outer : List Env) (A₀ : Around) (base h₀ : Heap) (L : Addr) (m : PySem.Str → Option Value) (h : Heap) (g : Array GenState) (d : Drawn) (tk : Nat) (os : OsState) (Q E : Value → Shared → Prop) (src lv : Value) (rv ry : PySem.Str) (n : Int) (to tn : Tok) (x dx tx : Addr) (kt0 kt1 kt2 kt3 km : Tok),
    Below A₀ base outer h₀ → Fr h₀ L h m → (Mine.hd.heap_39 w.params).In h₀ → Top vw loose mean mg mb h₀ → cs.kind = .function → dp + 9 < recursionLimit → un + 160 < cLine → ReprAs PySem.Challenge.rw_dm0029_04.row.prog w h₀ src rv → ReprAs PySem.Challenge.rw_dm0029_04.row.prog w h₀ lv ry → 10 ∉ rv.cps.toList → 10 ∉ ry.cps.toList → rv.length ≤ 4000 → ry.length ≤ 4000 → -(10 ^ 12) < n → n < 10 ^ 12 →
    News h₀ L h [(x, xObj 170 (some dx) (excF (.ref tx))), (dx, dictOf [⟨PyData.keyHash w.params (PySem.Str.ofString "message"), .str (PySem.Str.ofString "message") kt0, .str (placeMsg (PySem.Str.ofString "Key without value continued with an indented line.") rv n ry) km⟩, ⟨PyData.keyHash w.params (PySem.Str.ofString "source"), .str (PySem.Str.ofString "source") kt1, src⟩, ⟨PyData.keyHash w.params (PySem.Str.ofString "lineno"), .str (PySem.Str.ofString "lineno") kt2, .int n tn⟩, ⟨PyData.keyHash w.params (PySem.Str.ofString "line"), .str (PySem.Str.ofString "line") kt3, lv⟩] 4)] →
    (∀ h' tk', (∀ b o, h.get? b = some o → h'.get? b = some o) → Fr h₀ L h' m → Q (.bool true) ⟨h', g, d, tk', os⟩) →
    wpAny (model PySem.Challenge.rw_dm0029_04.row.prog w) (ktrTop dp un (some []) cn cs L a ccd cl outer) (call (.ref 193) [.ref x, .str (PySem.Str.ofString "Key without value continued with an indented line.") to, src, .int n tn, lv]) Q E ⟨h, g, d, tk, os⟩ := by
  k_with_none
  k_with "ite" => (k_here; (first | refine Mine.ite_ff ?_ | refine Mine.ite_tt ?_))
  k_with "ne" => (first | exact Mine.ne_l1 (by assumption) | exact Mine.ne_l1' (by assumption) | exact Mine.ne_r1 (by assumption) | exact Mine.ne_r1' (by assumption) | exact Mine.ne_l2 (by assumption) | exact Mine.ne_l2' (by assumption) | exact Mine.ne_r2 (by assumption) | exact Mine.ne_r2' (by assumption) | exact Mine.ne_l3 (by assumption) | exact Mine.ne_l3' (by assumption) | exact Mine.ne_r3 (by assumption) | exact Mine.ne_r3' (by assumption) | exact Mine.ne_l4 (by assumption) | exact Mine.ne_l4' (by assumption) | exact Mine.ne_r4 (by assumption) | exact Mine.ne_r4' (by assumption) | exact Mine.ne_l5 (by assumption) | exact Mine.ne_l5' (by assumption) | exact Mine.ne_r5 (by assumption) | exact Mine.ne_r5' (by assumption) | exact Mine.ne_l6 (by assumption) | exact Mine.ne_l6' (by assumption) | exact Mine.ne_r6 (by assumption) | exact Mine.ne_r6' (by assumption) | exact Mine.ne_l7 (by assumption) | exact Mine.ne_l7' (by assumption) | exact Mine.ne_r7 (by assumption) | exact Mine.ne_r7' (by assumption) | exact Mine.ne_l8 (by assumption) | exact Mine.ne_l8' (by assumption) | exact Mine.ne_r8 (by assumption) | exact Mine.ne_r8' (by assumption) | exact Mine.ne_l9 (by assumption) | exact Mine.ne_l9' (by assumption) | exact Mine.ne_r9 (by assumption) | exact Mine.ne_r9' (by assumption))
  k_with "exec For Name BinOp cons nil" => (k_here; (rename Fr _ _ _ _ => lF'); (with_unfolding_all refine' For_invVF lF' ?k1 ?k2 ?_; (case k1 => exact rfl); (case k2 => exact rfl); k_whole))
  k_with "call ref" => (k_here; (fail_if_success (with_reducible show wpAny _ _ (call (Value.ref 179) _) _ _ _)); k_dflt ((refine wpAny_call ?_); (refine' Mine.code_defG ?k1 ?k2 ?k3 ?k4 ?k5 ?kA ?kF ?kK ?k6 ?k7 ?k8 ?k9 ?kB ?_ ?c2 ?c3 ?c4 ?c5); (case kA => exact rfl); (case kF => exact rfl); (case kK => first | exact rfl | assumption); (case k1 => k_asm); (case k2 => k_asm); (case k3 => k_asm); (case k4 => k_asm); (case k5 => k_asm); (case k6 => k_is); (case k7 => k_is); (case k8 => ktr_room); (case k9 => first | exact BindsTo.of_eq rfl | exact binds_K (by k_in) rfl (by k_is) rfl rfl rfl | fail "no rule for these arguments"); (case c5 => decide); (case kB => exact locs rfl); (case c2 => exact rfl); (case c3 => exact rfl); (case c4 => exact rfl); k_whole; intro g' L' h' tk' hg' FG' F' N' B' X' T' l'; (clear hg'); (try k_lt l'); (try dsimp only); (try k_lift B'); (try k_fold)))
  k_with "call builtin:repr" => (k_here; (with_reducible show wpAny _ _ (call (Value.builtin "repr") [_]) _ _ _); k_dflt ((refine' Mine.ReprAs.run ?r0 ?rF ?rN ?rk ?ru ?rg ?_); (case r0 => with_reducible assumption); (case rF => k_asm); (case rN => k_asm); (case rk => first | exact (fun b o e => (Mine.keep_X (by with_reducible assumption) (by with_reducible assumption) (by with_reducible assumption) (by with_reducible assumption) b o e).1) | exact (fun _ _ e => Fr.keep (by with_reducible assumption) _ _ (Fr.keep (by with_reducible assumption) _ _ e)) | exact (fun _ _ e => Fr.keep (by with_reducible assumption) _ _ e)); (case ru => ((try simp only [units_deeper, units_in1, units_under_make]); ktr_units)); (case rg => exact rfl); k_whole; intro t' k' h' F' N'))
  k_with "compareOp IsNot" => (k_here; (with_reducible show wpAny _ _ (compareOp CmpOp.IsNot _ Value.none) _ _ _); refine Mine.isNot_none' (by with_reducible assumption) ?_)
  k_with "compareOp Is" => (k_here; (with_reducible show wpAny _ _ (compareOp CmpOp.Is _ Value.none) _ _ _); refine Mine.is_none' (by with_reducible assumption) ?_)
  k_with "getMethod type:Exception" => (k_here; refine' method_type ?F ?X ?m (by decide +kernel) ?e ?h ?_; (case F => k_asm); (case X => k_asm); (case m => kernel_rfl); (case e => k_dflt k_is); (case h => k_handed))
  k_with "call builtin:Exception.__init__" => (k_here; k_dflt (refine' Mine.init_K ?k1 ?k2 ?k3 ?k4 ?k5 ?k6 ?_; (case k1 => k_asm); (case k2 => k_asm); (case k3 => k_asm); (case k6 => (intro tx'; k_upd)); (case k4 => first | (with_reducible assumption) | exact Mine.xc67 _ rfl | exact Mine.xc87 _ rfl | exact Mine.xc151 _ rfl | exact Mine.xc170 _ rfl); (case k5 => exact Nat.le_of_ble_eq_true rfl); k_whole); intro t' h' F' N' l1; (try dsimp only at N'); (try k_lt l1); (try k_sweep))
  k_with "call builtin:str.format" => (k_here; (with_reducible show wpAny _ _ (call (Value.builtin "str.format") [Value.str _ _, Value.int _ _]) _ _ _); (refine Mine.line_2d (by assumption) (by assumption) ?_); intro _ _)
  k_with "call builtin:str.join" => (k_here; (with_reducible show wpAny _ _ (call (Value.builtin "str.join") [Value.str _ _, Value.ref _]) _ _ _); k_dflt (refine' Mine.join_cat ?jN ?jm ?ji ?jB ?jn ?_; (case jN => k_asm); (case jm => k_mem); (case ji => repeat (first | exact PyProof.Rows.StrsAre.nil | apply PyProof.Rows.StrsAre.cons)); (case jB => (repeat (first | exact List.forall_mem_nil _ | refine List.forall_mem_cons.mpr ⟨by first | (with_reducible exact Mine.le5 (Mine.ReprAs.len (by assumption))) | (with_reducible exact Mine.line_len (by assumption) (by assumption)) | decide +kernel, ?_⟩))); (case jn => exact Nat.le_of_ble_eq_true rfl)); intro _ _; (try simp only [Mine.catS]))
  k_with "setAttr ref" => (k_here; k_dflt (refine' Mine.set_newK ?k1 ?k2 ?k3 ?k4 ?k5 ?k6 ?_; (case k1 => k_asm); (case k2 => k_asm); (case k3 => k_asm); (case k6 => (intro dx'; k_upd)); (case k4 => first | (with_reducible assumption) | exact Mine.xc67 _ rfl | exact Mine.xc87 _ rfl | exact Mine.xc151 _ rfl | exact Mine.xc170 _ rfl); (case k5 => k_is); k_whole; intro d' h' F' N' l1; (try dsimp only at N'); (try k_lt l1); (try k_sweep)))
  k_with "setAttr ref" => (k_here; k_dflt (refine' Mine.set_dictK ?k1 ?k2 ?k3 ?k4 ?k5 ?k6 ?k7 ?k10 ?k11 ?k12 ?k13 ?_; (case k1 => k_asm); (case k2 => k_asm); (case k3 => k_asm); (case k4 => (refine' Mine.instX ?N ?h1 ?h2; (case N => k_asm); (case h1 => k_mem); (case h2 => k_mem))); (case k5 => exact rfl); (case k6 => first | (with_reducible assumption) | exact Mine.xc67 _ rfl | exact Mine.xc87 _ rfl | exact Mine.xc151 _ rfl | exact Mine.xc170 _ rfl); (case k7 => k_is); (case k10 => k_get); (case k11 => k_put); (case k12 => k_upd); (case k13 => exact Nat.le_of_ble_eq_true rfl); k_whole; intro h' F' N'; (try k_sweep)))
  k_with "setAttr ref" => (k_here; (with_reducible show wpAny _ _ (setAttr (Value.ref _) (PySem.Str.ofString "args") (Value.ref _)) _ _ _); k_dflt (refine' Mine.set_argsK ?k1 ?k2 ?k3 ?k4 ?k5 ?k6 ?k7 ?k8 ?_; (case k1 => k_asm); (case k2 => k_asm); (case k3 => k_asm); (case k4 => (refine' Mine.instX ?N ?h1 ?h2; (case N => k_asm); (case h1 => k_mem); (case h2 => k_mem))); (case k5 => first | (with_reducible assumption) | exact Mine.xc67 _ rfl | exact Mine.xc87 _ rfl | exact Mine.xc151 _ rfl | exact Mine.xc170 _ rfl); (case k6 => k_is); (case k7 => exact News.isTup (by k_asm) (by k_mem)); (case k8 => k_upd); k_whole; intro h' F' N'; (try k_sweep)))
  k_with "getAttr ref" => (k_here; k_dflt (refine' Mine.get_ownX ?k1 ?k2 ?k3 ?k4 ?k5 ?k6 ?k7 ?k8 ?_; (case k1 => k_asm); (case k2 => k_asm); (case k3 => (refine' Mine.instX ?N ?h1 ?h2; (case N => k_asm); (case h1 => k_mem); (case h2 => k_mem))); (case k4 => first | (with_reducible assumption) | exact Mine.xc67 _ rfl | exact Mine.xc87 _ rfl | exact Mine.xc151 _ rfl | exact Mine.xc170 _ rfl); (case k5 => k_is); (case k6 => k_is); (case k7 => k_get); (case k8 => k_handed); k_whole))
  k_with "getAttr ref" => (k_here; (with_reducible show wpAny _ _ (getAttr (Value.ref _) (PySem.Str.ofString "args") _) _ _ _); k_dflt (refine' Mine.get_argsX ?k1 ?k2 ?k3 ?k4 ?k5 ?k6 ?k7 ?_; (case k1 => k_asm); (case k2 => k_asm); (case k3 => (refine' Mine.instX ?N ?h1 ?h2; (case N => k_asm); (case h1 => k_mem); (case h2 => k_mem))); (case k4 => first | (with_reducible assumption) | exact Mine.xc67 _ rfl | exact Mine.xc87 _ rfl | exact Mine.xc151 _ rfl | exact Mine.xc170 _ rfl); (case k5 => k_is); (case k6 => k_is); (case k7 => k_is); k_whole))
  k_with "binaryOp Mod str ref" => (k_here; (with_reducible show wpAny _ _ (binaryOp Operator.Mod (Value.str (PySem.Str.ofString "File contains no section headers.\nfile: %r, line: %d\n%r") _) (Value.ref _)) _ _ _); k_dflt (refine' Mine.place_1' ?hv ?hy ?h1 ?h2 ?N ?hb ?_; (case hv => with_reducible assumption); (case hy => with_reducible assumption); (case h1 => with_reducible assumption); (case h2 => with_reducible assumption); (case N => k_asm); (case hb => k_mem)); intro _ _; (try dsimp only))
  k_with "binaryOp Mod str ref" => (k_here; (with_reducible show wpAny _ _ (binaryOp Operator.Mod (Value.str (PySem.Str.ofString "Key without value continued with an indented line.\nfile: %r, line: %d\n%r") _) (Value.ref _)) _ _ _); k_dflt (refine' Mine.place_2' ?hv ?hy ?h1 ?h2 ?N ?hb ?_; (case hv => with_reducible assumption); (case hy => with_reducible assumption); (case h1 => with_reducible assumption); (case h2 => with_reducible assumption); (case N => k_asm); (case hb => k_mem)); intro _ _; (try dsimp only))
  k_with "call builtin:str.split" => (k_here; (with_reducible show wpAny _ _ (call (Value.builtin "str.split") [Value.str (Mine.placeMsg _ _ _ _) _, _]) _ _ _); k_dflt (refine' Mine.split_place ?hF ?hN ?ho ?hr ?hy ?l1 ?l2 ?l3 ?l4 ?_; (case hF => k_asm); (case hN => k_asm); (case ho => with_reducible assumption); (case hr => with_reducible assumption); (case hy => with_reducible assumption); (case l1 => with_reducible assumption); (case l2 => with_reducible assumption); (case l3 => with_reducible assumption); (case l4 => with_reducible assumption)); intro D' t1' t2' t3' h' k' F' N' l1; (try dsimp only at N'); (try k_lt l1))
  k_with "call ref" => (k_here; (with_reducible show wpAny _ _ (call (Value.ref 179) _) _ _ _); (try unfold Mine.placeRow); k_dflt ((first | (refine' Mine.stripped_T _ _ _ _ _ _ _ _ _ _ _ _ _ _ _ _ _ _ _ _ _ _ _ _ _ _ _ (PySem.Str.ofString "") _ _ _ _ ?k1 ?k2 ?k3 ?k4 ?k5 ?k6 ?k7 ?s1 ?s2 ?s3 ?se ?_; (case se => ((refine Mine.str_eq ?_); (simp only [Mine.cps_app, List.append_assoc, Mine.lit0, Mine.lit1, Mine.lit2, Mine.lit3, Mine.lit4, Mine.lit5, Mine.lit6, Mine.lit7, Mine.lit8, Mine.lit9, Mine.lit10, Mine.lit11, Mine.lit12, Mine.lit13, Mine.lit14, Mine.lit15, Mine.lit16, Mine.lit17, List.cons_append, List.nil_append, List.append_nil])))) | (refine' Mine.stripped_T _ _ _ _ _ _ _ _ _ _ _ _ _ _ _ _ _ _ _ _ _ _ _ _ _ _ _ (PySem.Str.ofString " [line " ++ Mine.pad2 ‹Int› ++ PySem.Str.ofString "]") _ _ _ _ ?k1 ?k2 ?k3 ?k4 ?k5 ?k6 ?k7 ?s1 ?s2 ?s3 ?se ?_; (case se => ((refine Mine.str_eq ?_); (simp only [Mine.cps_app, List.append_assoc, Mine.lit0, Mine.lit1, Mine.lit2, Mine.lit3, Mine.lit4, Mine.lit5, Mine.lit6, Mine.lit7, Mine.lit8, Mine.lit9, Mine.lit10, Mine.lit11, Mine.lit12, Mine.lit13, Mine.lit14, Mine.lit15, Mine.lit16, Mine.lit17, List.cons_append, List.nil_append, List.append_nil])))) | (refine' Mine.stripped_T _ _ _ _ _ _ _ _ _ _ _ _ _ _ _ _ _ _ _ _ _ _ _ _ _ _ _ (Mine.pad2 ‹Int›) _ _ _ _ ?k1 ?k2 ?k3 ?k4 ?k5 ?k6 ?k7 ?s1 ?s2 ?s3 ?se ?_; (case se => ((refine Mine.str_eq ?_); (simp only [Mine.cps_app, List.append_assoc, Mine.lit0, Mine.lit1, Mine.lit2, Mine.lit3, Mine.lit4, Mine.lit5, Mine.lit6, Mine.lit7, Mine.lit8, Mine.lit9, Mine.lit10, Mine.lit11, Mine.lit12, Mine.lit13, Mine.lit14, Mine.lit15, Mine.lit16, Mine.lit17, List.cons_append, List.nil_append, List.append_nil]))))); (case k1 => k_asm); (case k2 => k_asm); (case k3 => k_asm); (case k4 => k_asm); (case k5 => first | exact rfl | assumption); (case k6 => ktr_room); (case k7 => ktr_units); (case s1 => (refine Nat.le_trans (by kt_len) ?_; exact Nat.le_of_ble_eq_true rfl)); (case s2 => (refine Nat.le_trans (by kt_len) ?_; exact Nat.le_of_ble_eq_true rfl)); (case s3 => (refine Nat.le_trans (by kt_len) ?_; exact Nat.le_of_ble_eq_true rfl)); k_whole); intro t' h' tk' hk' F'; (have N' := Mine.news_kept hk' (by k_asm)); (clear hk'); (try dsimp only))
  k_fill
  intro vw w loose mean mg mb dp un cn cs a ccd cl outer A₀ base h₀ L m h g d tk os Q E src lv rv ry n to tn x dx tx kt0 kt1 kt2 kt3 km B F X T hk hd hu hr1 hr2 hs1 hs2 hs3 hs4 hn1 hn2 N hret
  have hp2 := itext_len_le hn1 hn2
  have ho1 : 10 ∉ (PySem.Str.ofString "Key without value continued with an indented line.").cps.toList := by decide +kernel
  have ho2 : (PySem.Str.ofString "Key without value continued with an indented line.").length ≤ 1000 := by decide +kernel
  refine wpAny_call ?_
  (refine' Mine.code_defG ?k1 ?k2 ?k3 ?k4 ?k5 ?kA ?kF ?kK ?k6 ?k7 ?k8 ?k9 ?kB ?_ ?c2 ?c3 ?c4 ?c5)
  (case kA => exact rfl)
  (case kF => exact rfl)
  (case kK => first | exact rfl | assumption)
  (case k1 => k_asm)
  (case k2 => k_asm)
  (case k3 => k_asm)
  (case k4 => k_asm)
  (case k5 => k_asm)
  (case k6 => k_is)
  (case k7 => k_is)
  (case k8 => ktr_room)
  (case k9 => first | exact BindsTo.of_eq rfl | exact binds_K (by k_in) rfl (by k_is) rfl rfl rfl | fail "no rule for these arguments")
  (case c5 => decide)
  (case kB => exact locs rfl)
  (case c2 => exact rfl)
  (case c3 => exact rfl)
  (case c4 => exact rfl)
  intro g1 L1 h2 tk2 hg1 FG1 F2 N2 B2 X2 T2 l2
  k_lt l2
  (try k_lift B2)
  (try k_fold)
  k_steps
  · exact absurd (show (ry != ry) = true by assumption) (by simp)
  · rw [empty_same]
    exact hret _ _ (keep_N hg1 N (by k_asm) (by k_asm) (fun p hp => by first | exact hp | exact List.mem_cons_of_mem _ hp)) (by k_asm)
end Mine
end
section
open PySem PySem.W PyProof.Rows PySem.Calls PySem.Builtin
set_option maxRecDepth 100000
set_option maxHeartbeats 4000000
namespace Mine
/-- a value without parts -/
inductive Plain : Value → PyData → Prop
  | none : Plain .none .none
  | bool (b : Bool) : Plain (.bool b) (.bool b)
  | int (i : Int) (t : Tok) : Plain (.int i t) (.int i)
  | str (x : PySem.Str) (t : Tok) : PyData.strOk x = true → Plain (.str x t) (.str x)
inductive PlainAll : List Value → List PyData → Prop
  | nil : PlainAll [] []
  | cons {v : Value} {d : PyData} {vs : List Value} {ds : List PyData} : Plain v d → PlainAll vs ds → PlainAll (v :: vs) (d :: ds)
theorem Plain.reads {v : Value} {d : PyData} (p : Plain v d) (h : Heap) : Reads h v d [] := by cases p <;> constructor
theorem Plain.lay {v : Value} {d : PyData} (p : Plain v d) : d.canLay0 = true := by
  cases p with
  | none => rfl
  | bool => rfl
  | int => rfl
  | str x t h => simpa [PyData.canLay0] using h
theorem Plain.dep {v : Value} {d : PyData} (p : Plain v d) : d.depth ≤ 1 := by
  cases p <;> simp [PyData.depth]
theorem PlainAll.reads {vs : List Value} {ds : List PyData} (p : PlainAll vs ds) (h : Heap) : ReadsAll h vs ds [] := by
  induction p with
  | nil => exact .nil
  | cons q _ ih => exact ReadsAll.cons (as := []) (bs := []) (q.reads h) ih
theorem PlainAll.lay {vs : List Value} {ds : List PyData} (p : PlainAll vs ds) : PyData.canLayAll0 ds = true := by
  induction p with
  | nil => rfl
  | cons q _ ih => simp [PyData.canLayAll0, q.lay, ih]
theorem PlainAll.dep {vs : List Value} {ds : List PyData} (p : PlainAll vs ds) : PyData.depthAll ds ≤ 1 := by
  induction p with
  | nil => simp [PyData.depthAll]
  | cons q _ ih => have := q.dep; simp [PyData.depthAll]; omega
section
variable {prog : Program} {w : World} {A : Around} {E : Value → Shared → Prop} {s : Shared} {Q : Value → Shared → Prop} {h₀ : Heap} {L : Addr} {news : List (Addr × Obj)}
theorem eq_tup {a b : Addr} {vs : List Value} {ds : List PyData} {n n' : Nat} (N : News h₀ L s.heap news) (ha : (a, ({ cls := .type "tuple", data := .seq vs.toArray n } : Obj)) ∈ news) (hb : (b, ({ cls := .type "tuple", data := .seq vs.toArray n' } : Obj)) ∈ news) (p : PlainAll vs ds) (hu : A.units + 64 < cLine)
    (h : Q (.bool true) s) : wpAny (model prog w) A (compareOp .Eq (.ref a) (.ref b)) Q E s := by
  have hs : PySem.SeqAt.shaped (.tuple ds) = true := by
    have := p.dep
    simp [PySem.SeqAt.shaped, PyData.canLay0, p.lay, PyData.depth]; omega
  refine eq_dataH (Reads.tuple (N _ ha).1 rfl rfl (p.reads _)) (Reads.tuple (N _ hb).1 rfl rfl (p.reads _)) hs hs hu ?_
  rw [PySem.SeqAt.eqv_refl _ (PySem.SeqAt.canLay_of_shaped hs)]
  exact h
theorem eq_lst {a b : Addr} {vs : List Value} {ds : List PyData} {n n' : Nat} (N : News h₀ L s.heap news) (ha : (a, W.listOf vs.toArray n) ∈ news) (hb : (b, W.listOf vs.toArray n') ∈ news) (p : PlainAll vs ds) (hu : A.units + 64 < cLine)
    (h : Q (.bool true) s) : wpAny (model prog w) A (compareOp .Eq (.ref a) (.ref b)) Q E s := by
  have hs : PySem.SeqAt.shaped (.list ds) = true := by
    have := p.dep
    simp [PySem.SeqAt.shaped, PyData.canLay0, p.lay, PyData.depth]; omega
  refine eq_dataH (Reads.list (N _ ha).1 rfl rfl (p.reads _)) (Reads.list (N _ hb).1 rfl rfl (p.reads _)) hs hs hu ?_
  rw [PySem.SeqAt.eqv_refl _ (PySem.SeqAt.canLay_of_shaped hs)]
  exact h
theorem menu_K {value slice : PySem.Expr} {l : Addr} {vs : List Value} {k : Int} {u : Tok} (P : Value → Prop) (hl : s.heap.IsList l vs.toArray) (hP : ∀ v ∈ vs, P v) (h0 : 0 ≤ k) (h1 : k < (vs.length : Int)) (hfit : k < 2 ^ 63) (h : ∀ v k', P v → Q v { s with toks := k' })
    (hs : subscripted slice false (.ref l) (.int k u) = operate [.ref l, .int k u] (getItem (.ref l) (.int k u)) := by with_unfolding_all rfl) :
    wpAny (model prog w) A (subscriptTail value slice (.ref l) (.int k u)) Q E s := by
  have hlt : k.toNat < vs.length := by omega
  exact tail_any hl.typeIs PySem.F.slot_list_getitem.lookup (wpAny_getItem_list hl h0 hfit (x := vs[k.toNat]) (by simp [hlt]) (h _ s.toks (hP _ (List.getElem_mem hlt)))) hs
end
/-- a text of a menu -/
inductive StrItem : Value → Prop
  | mk (x : PySem.Str) (t : Tok) : (reprText x).length ≤ 50 → 10 ∉ (reprText x).cps.toList → PyData.strOk x = true → StrItem (.str x t)
theorem reprAs_none {prog : Program} {w : World} {hB : Heap} : ReprAs prog w hB .none (PySem.Str.ofString "None") :=
  ⟨fun {A E s Q h₀ L m news} F N _ _ _ h => P.repr_of_none (h _ _ s.heap F N), by decide +kernel⟩
/-- a source of a menu -/
structure SrcItem (v : Value) : Prop where
  has : ∃ rs rv d, (∀ prog w hB, SrcIs prog w hB v rs) ∧ Shows v rv ∧ (∀ prog w hB, ReprAs prog w hB v rv) ∧ 10 ∉ rv.cps.toList ∧ Plain v d
theorem srcItem_none : SrcItem .none := ⟨_, _, _, fun _ _ _ => .none, shows_none, fun _ _ _ => reprAs_none, by decide +kernel, .none⟩
theorem srcItem_str {x : PySem.Str} {t : Tok} (h1 : (reprText x).length ≤ 50) (h2 : 10 ∉ (reprText x).cps.toList) (h3 : PyData.strOk x = true) : SrcItem (.str x t) :=
  ⟨_, _, _, fun _ _ _ => .some _ _ rfl (reprAs_str (Nat.le_trans h1 (by decide))), shows_str (Nat.le_trans h1 (by decide)), fun _ _ _ => reprAs_str (Nat.le_trans h1 (by decide)), h2, .str x t h3⟩
theorem srcItem_int {n : Int} {t : Tok} (h1 : -(10 ^ 12) < n) (h2 : n < 10 ^ 12) : SrcItem (.int n t) :=
  ⟨_, _, _, fun _ _ _ => .some _ _ rfl (reprAs_int h1 h2), shows_int h1 h2, fun _ _ _ => reprAs_int h1 h2, itext_no10 n, .int n t⟩
theorem num_lo (a : Int) : -(10 ^ 12) < a.fmod 240 - 20 := by have := Int.fmod_nonneg_of_pos a (b := 240) (by decide); omega
theorem num_hi (a : Int) : a.fmod 240 - 20 < 10 ^ 12 := by have := Int.fmod_lt_of_pos a (b := 240) (by decide); omega
theorem idx_lo (a : Int) {b : Int} (h : 0 < b) : 0 ≤ a.fmod b := Int.fmod_nonneg_of_pos a h
theorem idx_hi (a : Int) {b : Int} {n : Nat} (h : 0 < b) (e : b = (n : Int)) : a.fmod b < (n : Int) := e ▸ Int.fmod_lt_of_pos a h
theorem idx_fit (a : Int) {b : Int} (h : 0 < b) (e : b < 2 ^ 63) : a.fmod b < 2 ^ 63 := Int.lt_trans (Int.fmod_lt_of_pos a h) e
end Mine
end
section
open PySem PySem.W PyProof.Rows PySem.Calls PySem.Builtin
set_option maxRecDepth 100000
set_option maxHeartbeats 4000000
namespace Mine
theorem fifty : 50 ≤ 4000 := by decide
theorem reprAs_all {v : Value} {r : PySem.Str} (h : ∀ prog w hB, ReprAs prog w hB v r) (prog : Program) (w : World) (hB : Heap) : ReprAs prog w hB v r := h prog w hB
theorem srcIs_all {v : Value} {r : Option PySem.Str} (h : ∀ prog w hB, SrcIs prog w hB v r) (prog : Program) (w : World) (hB : Heap) : SrcIs prog w hB v r := h prog w hB
theorem news2 {h₀ h : Heap} {L : Addr} {news : List (Addr × Obj)} {p q : Addr × Obj} (N : News h₀ L h news) (h1 : p ∈ news) (h2 : q ∈ news) : News h₀ L h [p, q] := fun x hx => by
  simp only [List.mem_cons, List.not_mem_nil, or_false] at hx
  rcases hx with rfl | rfl
  · exact N _ h1
  · exact N _ h2
theorem plain_handed {v : Value} {d : PyData} (p : Plain v d) : handedIn v = true := by cases p <;> rfl
theorem plains {vs : List Value} (p : ∀ v ∈ vs, ∃ d, Plain v d) : ∃ ds, PlainAll vs ds := by
  induction vs with
  | nil => exact ⟨[], .nil⟩
  | cons v vs ih =>
    obtain ⟨d, hd⟩ := p v (.head _)
    obtain ⟨ds, hds⟩ := ih fun w hw => p w (.tail _ hw)
    exact ⟨d :: ds, .cons hd hds⟩
section
variable {prog : Program} {w : World} {A : Around} {E : Value → Shared → Prop} {s : Shared} {Q : Value → Shared → Prop} {K : Frag} {x C D : Addr} {ox : Obj} {od : Option Obj}
variable {h₀ : Heap} {L : Addr} {news : List (Addr × Obj)}
theorem eq_tupV {a b : Addr} {vs : List Value} {n n' : Nat} (N : News h₀ L s.heap news) (ha : (a, ({ cls := .type "tuple", data := .seq vs.toArray n } : Obj)) ∈ news) (hb : (b, ({ cls := .type "tuple", data := .seq vs.toArray n' } : Obj)) ∈ news) (p : ∀ v ∈ vs, ∃ d, Plain v d) (hu : A.units + 64 < cLine)
    (h : Q (.bool true) s) : wpAny (model prog w) A (compareOp .Eq (.ref a) (.ref b)) Q E s := by
  obtain ⟨ds, hds⟩ := plains p
  exact eq_tup N ha hb hds hu h
theorem eq_lstV {a b : Addr} {vs : List Value} {n n' : Nat} (N : News h₀ L s.heap news) (ha : (a, W.listOf vs.toArray n) ∈ news) (hb : (b, W.listOf vs.toArray n') ∈ news) (p : ∀ v ∈ vs, ∃ d, Plain v d) (hu : A.units + 64 < cLine)
    (h : Q (.bool true) s) : wpAny (model prog w) A (compareOp .Eq (.ref a) (.ref b)) Q E s := by
  obtain ⟨ds, hds⟩ := plains p
  exact eq_lst N ha hb hds hu h
end
end Mine
end
section
open PySem PySem.W PyProof.Rows PySem.Calls PySem.Builtin PySem.Builtin.ObjectAttr PySem.Builtin.Getset_descriptor
set_option maxRecDepth 100000
set_option maxHeartbeats 4000000
namespace Mine
section
variable {prog : Program} {w : World} {A : Around} {E : Value → Shared → Prop} {s : Shared} {K : Frag} {x C D : Addr} {ox : Obj} {od : Option Obj} {name : PySem.Str}
theorem get_openX? {Q : Option Value → Shared → Prop} {r : Found} (X : K.In s.heap) (hx : XCls K C) (I : PySem.W.InstAt s.heap x ox C od) (hf : findObj K C od name = some r)
    (h : wpAny (model prog w) A.in1 (match r with | .value v => ret v | .bind g a => bindTo g a (.ref x) (.ref C) | .missing => unsupported "no")
      (fun fin s' => match fin with | .done (.ret v) => wpAny (model prog w) A (handedOut v) (fun v s'' => Q (some v) s'') (fun _ _ => False) s' | _ => False) (fun _ _ => False) { s with toks := s.toks + 1 }) :
    wpAny (model prog w) A (getAttr? (.ref x) name) Q E s := by
  have Y := makesX_of (M := model prog w) X hx
  have hT : Looks (model prog w) s.heap (isInstance (.ref x) (.type "BaseException")) true := I.type.andThen Y.bexc
  have L0 := I.type (M := model prog w)
  have L1 := looks_findIn (M := model prog w) X hx.get
  have L2 := looks_findIn (M := model prog w) X hx.hook
  have L3 := looks_find (M := model prog w) X I hf
  have FB := PySem.F.attr_ValueError
  obtain ⟨hh, g, d, tk', os⟩ := s
  dsimp only at X I hT L0 L1 L2 L3 h ⊢
  unfold getAttr? getAttrBy? getAttrBy
  refine wpAny_bind (wpAny_mkText (wpAny_bind (wpAny_attempt (wpAny_holding (wpAny_bind (L0.at (wpAny_bind (L1.at ?_))))))))
  have hx2 : (Value.builtin "BaseException.__getattribute__" == Value.builtin "object.__getattribute__") = false := by decide +kernel
  dsimp only
  rw [hx2, Bool.and_false, if_neg (by decide)]
  unfold getAttrByItsOwn hookBefore
  refine wpAny_bind (L2.at ?_)
  refine wpAny_bind (wpAny_attempt ?_)
  unfold callGetattribute
  rw [show (false && onTheHeap (Value.builtin "BaseException.__getattribute__")) = false from rfl, if_neg (by decide)]
  unfold boundAndCalled
  rw [FB.ga.bind]
  refine wpAny_holding (wpAny_bind (wpAny_pure (wpAny_call ?_)))
  show codeAny _ _ (.call (.builtin "BaseException.__getattribute__") ⟨[.ref x, .str name tk'], []⟩) _ _
  refine codeAny_call_builtin FB.ga.plain PySem.F.entry_bexc_ga (@check_slot (model prog w) _ _ ⟨hh, g, d, tk' + 1, os⟩ "BaseException.__getattribute__" "BaseException" "__getattribute__" (.ref x) [.str name tk'] [] _ (by decide +kernel) (by decide +kernel) hT (PySem.F.args_bexc_ga (.ref x) (.str name tk')) ?_)
  unfold Builtin.«object.__getattribute__»
  refine wpAny_bind (wpAny_pure (wpAny_bind (wpAny_pure (wpAny_bind (L0.at (wpAny_bind (L3.at ?_)))))))
  cases r with
  | missing => exact (fun Γ p hΓ => (h Γ p hΓ).elim)
  | value v =>
    refine wpAny_mono h (fun fin s' z => ?_) (fun _ _ z => z.elim)
    rcases fin with (_ | _ | _ | _) | _ <;> first | exact wpAny_mono z (fun v s'' hv => wpAny_pure hv) (fun _ _ z => z.elim) | exact z.elim
  | bind g' a =>
    refine wpAny_mono h (fun fin s' z => ?_) (fun _ _ z => z.elim)
    rcases fin with (_ | _ | _ | _) | _ <;> first | exact wpAny_mono z (fun v s'' hv => wpAny_pure hv) (fun _ _ z => z.elim) | exact z.elim
end
section
variable {prog : Program} {w : World} {A : Around} {E : Value → Shared → Prop} {s : Shared} {K : Frag} {x C D : Addr} {ox : Obj} {od : Obj}
variable (hx : XCls K D) (ha : findIn K (.ref D) "__class__" = some (some (.builtin "object.__class__")))
  (hn : specialIn K (.builtin "object.__class__") "__get__" = some (some (.builtin "getset_descriptor.__get__"))) (htk : takesIn K (.builtin "object.__class__") = some true) (hm : mroIn K D (.type "object") = some true)
include hx ha hn htk hm
theorem classX {Q : Option Value → Shared → Prop} (X : K.In s.heap) (I : PySem.W.InstAt s.heap x ox D (some od)) (h : Q (some (.ref D)) { s with toks := s.toks + 1 }) : wpAny (model prog w) A (getAttr? (.ref x) "__class__") Q E s := by
  refine get_openX? X hx I (findObj_data (by obtain ⟨oc, odd, cd, sl, ho, hc, _⟩ := hx.parts; rw [hc]; rfl) ha hn htk) ?_
  dsimp only
  unfold bindTo
  dsimp only
  refine wpAny_bind (wpAny_holding (wpAny_call ?_))
  refine class_get (s := { s with toks := s.toks + 1 }) (ox := ox) (od := some od) X I hm ?_
  exact wpAny_pure (handed_on rfl h)
theorem nestedX {c : Value} {dep : Int} {tk : Tok} {Q : Fin → Shared → Prop} (X : K.In s.heap) (I : PySem.W.InstAt s.heap x ox D (some od)) (hty : Looks (model prog w) s.heap (typeOf c) (.type "type")) (his : Looks (model prog w) s.heap (isType c) true)
    (hne : (Value.ref D == c) = false) (hsub : Looks (model prog w) s.heap (isSubtype (.ref D) c) false) (h : Q (.done (.ret (.bool false))) { s with toks := s.toks + 1 }) :
    wpAny (model prog w) A (Builtin.«isinstance.nested» ⟨[.ref x, c, .int dep tk], []⟩) Q E s := by
  obtain ⟨oc, odd, cdD, sl, hoD, hcD, _⟩ := id hx.parts
  have hisD : Looks (model prog w) s.heap (isType (.ref D)) true := by
    unfold clsIn at hcD
    split at hcD
    · rename_i c' d' cd' sl' ho
      intro A' Q' E' s' k q
      unfold isType loadHead
      exact wpAny_bind (wpAny_loadPart (k _ _ (X _ _ ho)) (wpAny_pure q))
    · cases hcD
  obtain ⟨h0, g, d, tt, os⟩ := s
  have L0 := I.type (M := model prog w)
  have LI : Looks (model prog w) h0 (isInstance (.ref x) c) false := L0.andThen hsub
  unfold Builtin.«isinstance.nested»
  refine wpAny_bind (L0.at ?_)
  rw [if_neg (fun q => by rw [hne] at q; exact Bool.noConfusion q)]
  refine wpAny_bind (hty.at ?_)
  rw [if_pos (by decide)]
  k_delta "plainIsInstance"
  refine wpAny_bind (wpAny_bind (his.at ?_))
  simp only [Bool.not_true, Bool.false_eq_true, if_false]
  refine wpAny_bind (LI.at ?_)
  simp only [Bool.false_eq_true, if_false]
  refine wpAny_bind (classX hx ha hn htk hm X I ?_)
  refine wpAny_bind (hisD.at ?_)
  simp only [Bool.not_true, Bool.false_eq_true, if_false]
  refine wpAny_bind (wpAny_rule ?_)
  refine hsub.at ?_
  first
    | exact wpAny_pure h
    | exact wpAny_pure (wpAny_pure h)
    | exact wpAny_bind (wpAny_pure (wpAny_pure h))
theorem isi_noX {Q : Value → Shared → Prop} (X : K.In s.heap) (I : PySem.W.InstAt s.heap x ox D (some od)) (e : kin_not K D C = true) (h : Q (.bool false) { s with toks := s.toks + 1 }) : wpAny (model prog w) A (call (.builtin "isinstance") [.ref x, .ref C]) Q E s := by
  unfold kin_not at e
  rw [Bool.and_eq_true, Bool.and_eq_true, Bool.and_eq_true] at e
  obtain ⟨⟨⟨e0, e1⟩, e2⟩, e3⟩ := e
  have his : ∀ (M : Model) h', K.In h' → Looks M h' (isType (.ref C)) true := fun _ h' X' => by
    unfold clsIn at e1
    split at e1
    · rename_i c' d' cd' sl' ho
      intro A' Q' E' s' k q
      unfold isType loadHead
      exact wpAny_bind (wpAny_loadPart (k _ _ (X' _ _ ho)) (wpAny_pure q))
    · cases e1
  exact call_isinstance (S := fun _ R s => (K.In s.heap ∧ PySem.W.InstAt s.heap x ox D (some od)) ∧ R (.ok (.ret (.bool false))) { s with toks := s.toks + 1 })
    (fun _ _ _ _ _ hs => isinstance_outer (nestedX hx ha hn htk hm hs.1.1 hs.1.2 (looks_typeIn hs.1.1 (beq_iff_eq.mp e2)) (his _ _ hs.1.1) (Bool.eq_false_iff.mpr fun q => of_decide_eq_true e0 (Value.ref.inj (beq_iff_eq.mp q))) (looks_subIn hs.1.1 (beq_iff_eq.mp e3)) hs.2) (by intro q; cases q)) ⟨⟨X, I⟩, h⟩
end
section
variable {prog : Program} {w : World} {A : Around} {E : Value → Shared → Prop} {s : Shared} {K : Frag} {x C D f L : Addr} {ox : Obj} {od : Obj} {odo : Option Obj} {h₀ : Heap} {m : PySem.Str → Option Value} {Q : Value → Shared → Prop}
theorem isi_yesF (F : Fr h₀ L s.heap m) (X₀ : K.In h₀) (I : PySem.W.InstAt s.heap x ox D odo) (e : isIn K (.ref D) C = true) (h : Q (.bool true) s) : wpAny (model prog w) A (call (.builtin "isinstance") [.ref x, .ref C]) Q E s :=
  isi_call (X₀.keeps F.keep) (fun _ => I.type) e (fun e => nomatch e) h
theorem isi_noF (F : Fr h₀ L s.heap m) (X₀ : K.In h₀) (I : PySem.W.InstAt s.heap x ox D (some od)) (hx : XCls K D) (ha : findIn K (.ref D) "__class__" = some (some (.builtin "object.__class__")))
    (hn : specialIn K (.builtin "object.__class__") "__get__" = some (some (.builtin "getset_descriptor.__get__"))) (htk : takesIn K (.builtin "object.__class__") = some true) (hm : mroIn K D (.type "object") = some true) (e : kin_not K D C = true) (h : Q (.bool false) { s with toks := s.toks + 1 }) : wpAny (model prog w) A (call (.builtin "isinstance") [.ref x, .ref C]) Q E s :=
  isi_noX hx ha hn htk hm (X₀.keeps F.keep) I e h
theorem str_F (F : Fr h₀ L s.heap m) (X₀ : K.In h₀) (I : PySem.W.InstAt s.heap x ox C odo) (hu : A.in1.in1.units < cLine) (hs : findIn K (.ref C) "__str__" = some (some (.ref f))) (hf : isFn K (.ref f) = true)
    (h : wpAny (model prog w) A.in1.in1 (call (.ref f) [.ref x]) (StrBack Q) E s) : wpAny (model prog w) A (call (.type "str") [.ref x]) Q E s :=
  kso_call hu (X₀.keeps F.keep) I hs hf h
end
theorem ite_no {c : Prop} [Decidable c] {P Q : Prop} (h : ¬ c) (q : Q) : if c then P else Q := by rw [if_neg h]; exact q
theorem bne_self (x : PySem.Str) : ¬ ((x != x) = true) := by simp
theorem no_low {a : Int} (h : a = 0 ∨ a = 1) : ¬ ((false != decide (a > 1)) = true) := by rcases h with rfl | rfl <;> decide
theorem no_high {a : Int} (h0 : ¬ a.fmod 4 = 0) (h1 : ¬ a.fmod 4 = 1) : ¬ ((true != decide (a.fmod 4 > 1)) = true) := by
  have h2 := Int.fmod_nonneg_of_pos a (b := 4) (by decide)
  have : a.fmod 4 > 1 := by omega
  simp [this]
end Mine
end
section
open PySem PySem.W PyProof.Rows PySem.Calls PySem.Builtin
namespace Mine
/-- a line as it is told: None or a number -/
structure Told (v : Value) (ln : Option Int) : Prop where
  lin : LinIs v ln
  handed : handedIn v = true
  plain : ∃ d, Plain v d
theorem Told.none : Told .none none := ⟨.none, rfl, ⟨_, .none⟩⟩
theorem Told.int {n : Int} (t : Tok) (h1 : -(10 ^ 12) < n) (h2 : n < 10 ^ 12) : Told (.int n t) (some n) := ⟨.int n t h1 h2, rfl, ⟨_, .int _ _⟩⟩
theorem cut_told {M : Model} {A : Around} {E : Value → Shared → Prop} {s : Shared} {e : PySem.Expr} {env : Env} {Q : Value → Shared → Prop}
    (h1 : wpAny M A (eval e env) (fun v s' => ∃ ln k, Told v ln ∧ s' = { s with toks := k }) E s) (h2 : ∀ v ln k, Told v ln → Q v { s with toks := k }) : wpAny M A (eval e env) Q E s :=
  wpAny_mono h1 (fun v s' h => by
    obtain ⟨ln, k, t, rfl⟩ := h
    exact h2 v ln k t) fun _ _ x => x
end Mine
end
open PySem PySem.W PyProof.Rows PySem.Calls
local macro_rules | `(tactic| walk_at "exec For Name BinOp cons nil") => `(tactic| (k_here; k_extra "j1"))
local macro_rules | `(tactic| walk_at "getAttr ref") => `(tactic| (k_here; k_extra "j2"))
local macro_rules | `(tactic| walk_at "getAttr ref") => `(tactic| (k_here; (with_reducible show wpAny _ _ (getAttr (Value.ref _) (PySem.Str.ofString "args") _) _ _ _); k_extra "j3"))
local macro_rules | `(tactic| walk_at "execs cons") => `(tactic| (k_here; (dsimp only); walk_at "execs cons"))
local macro_rules | `(tactic| walk_at "storeName") => `(tactic| (k_here; (dsimp only); walk_at "storeName"))
local macro_rules | `(tactic| walk_at "subscriptTail List cons BinOp ref int") => `(tactic| (k_here; k_extra "j4"))
local macro_rules | `(tactic| walk_at "subscriptTail List cons BinOp ref int") => `(tactic| (k_here; k_extra "j5"))
local macro_rules | `(tactic| walk_at "call ref") => `(tactic| (k_here; (with_reducible show wpAny _ _ (call (Value.ref 67) _) _ _ _); k_extra "j6"))
local macro_rules | `(tactic| walk_at "call ref") => `(tactic| (k_here; (with_reducible show wpAny _ _ (call (Value.ref 87) _) _ _ _); k_extra "j7"))
local macro_rules | `(tactic| walk_at "call ref") => `(tactic| (k_here; k_extra "j8"))
local macro_rules | `(tactic| walk_at "call ref") => `(tactic| (k_here; (with_reducible show wpAny _ _ (call (Value.ref 186) _) _ _ _); k_extra "j9"))
local macro_rules | `(tactic| walk_at "call ref") => `(tactic| (k_here; (with_reducible show wpAny _ _ (call (Value.ref 186) _) _ _ _); k_extra "j10"))
local macro_rules | `(tactic| walk_at "call ref") => `(tactic| (k_here; k_extra "j11"))
local macro_rules | `(tactic| walk_at "compareOp Eq ref ref") => `(tactic| (k_here; k_extra "j12"))
local macro_rules | `(tactic| walk_at "compareOp Eq ref ref") => `(tactic| (k_here; k_extra "j13"))
local macro_rules | `(tactic| walk_at "ite") => `(tactic| (k_here; k_extra "j14"))
local macro_rules | `(tactic| walk_at "call builtin:isinstance") => `(tactic| (k_here; (with_reducible show wpAny _ _ (call _ [Value.ref _, Value.ref _]) _ _ _); k_extra "j15"))
local macro_rules | `(tactic| walk_at "call builtin:isinstance") => `(tactic| (k_here; (with_reducible show wpAny _ _ (call _ [Value.ref _, Value.ref _]) _ _ _); k_extra "j16"))
local macro_rules | `(tactic| walk_at "call type:str") => `(tactic| (k_here; (with_reducible show wpAny _ _ (call (Value.type "str") [Value.ref _]) _ _ _); k_extra "j17"))
local macro_rules | `(tactic| walk_at "call builtin:repr") => `(tactic| (k_here; (with_reducible show wpAny _ _ (call (Value.builtin "repr") [Value.ref _]) _ _ _); k_extra "j18"))
local macro_rules | `(tactic| walk_at "eval IfExp") => `(tactic| (k_here; (fail_if_success (with_reducible show wpAny _ _ _ (fun v s' => ∃ ln k, _ ∧ _) _ _)); k_extra "j19"))
local macro_rules | `(tactic| walk_at "Exists") => `(tactic| (k_here; first | exact ⟨_, _, Mine.Told.none, rfl⟩ | exact ⟨_, _, Mine.Told.int _ (Mine.num_lo _) (Mine.num_hi _), rfl⟩))
set_option rowWalk.seconds 0 in
set_option maxRecDepth 100000 in
set_option maxHeartbeats 16000000 in
theorem PySem.Challenge.cw_dm0029_04_holds : PySem.Challenge.rw_dm0029_04.Holds := by
  k_with_none
  k_with "ne" => (first | exact Mine.ne_l1 (by assumption) | exact Mine.ne_l1' (by assumption) | exact Mine.ne_r1 (by assumption) | exact Mine.ne_r1' (by assumption) | exact Mine.ne_l2 (by assumption) | exact Mine.ne_l2' (by assumption) | exact Mine.ne_r2 (by assumption) | exact Mine.ne_r2' (by assumption) | exact Mine.ne_l3 (by assumption) | exact Mine.ne_l3' (by assumption) | exact Mine.ne_r3 (by assumption) | exact Mine.ne_r3' (by assumption) | exact Mine.ne_l4 (by assumption) | exact Mine.ne_l4' (by assumption) | exact Mine.ne_r4 (by assumption) | exact Mine.ne_r4' (by assumption) | exact Mine.ne_l5 (by assumption) | exact Mine.ne_l5' (by assumption) | exact Mine.ne_r5 (by assumption) | exact Mine.ne_r5' (by assumption) | exact Mine.ne_l6 (by assumption) | exact Mine.ne_l6' (by assumption) | exact Mine.ne_r6 (by assumption) | exact Mine.ne_r6' (by assumption) | exact Mine.ne_l7 (by assumption) | exact Mine.ne_l7' (by assumption) | exact Mine.ne_r7 (by assumption) | exact Mine.ne_r7' (by assumption) | exact Mine.ne_l8 (by assumption) | exact Mine.ne_l8' (by assumption) | exact Mine.ne_r8 (by assumption) | exact Mine.ne_r8' (by assumption) | exact Mine.ne_l9 (by assumption) | exact Mine.ne_l9' (by assumption) | exact Mine.ne_r9 (by assumption) | exact Mine.ne_r9' (by assumption))
  k_with "pyIter ref" => k_search (fun (pre : List Int) => True)
  k_with "ite" => (k_here; (first | refine Mine.ite_ff ?_ | refine Mine.ite_tt ?_))
  k_with "j1" => ((rename Fr _ _ _ _ => lF'); (with_unfolding_all refine' For_invVF lF' ?j1k1 ?j1k2 ?_; (case j1k1 => exact rfl); (case j1k2 => exact rfl); k_whole))
  k_with "j2" => (k_dflt (refine' Mine.get_ownX ?j2k1 ?j2k2 ?j2k3 ?j2k4 ?j2k5 ?j2k6 ?j2k7 ?j2k8 ?_; (case j2k1 => k_asm); (case j2k2 => k_asm); (case j2k3 => (refine' Mine.instX ?j2N ?j2h1 ?j2h2; (case j2N => k_asm); (case j2h1 => k_mem); (case j2h2 => k_mem))); (case j2k4 => first | (with_reducible assumption) | exact Mine.xc67 _ rfl | exact Mine.xc87 _ rfl | exact Mine.xc151 _ rfl | exact Mine.xc170 _ rfl); (case j2k5 => k_is); (case j2k6 => k_is); (case j2k7 => k_get); (case j2k8 => first | k_handed | with_reducible assumption | exact Mine.Told.handed (by with_reducible assumption)); k_whole))
  k_with "j3" => (k_dflt (refine' Mine.get_argsX ?j3k1 ?j3k2 ?j3k3 ?j3k4 ?j3k5 ?j3k6 ?j3k7 ?_; (case j3k1 => k_asm); (case j3k2 => k_asm); (case j3k3 => (refine' Mine.instX ?j3N ?j3h1 ?j3h2; (case j3N => k_asm); (case j3h1 => k_mem); (case j3h2 => k_mem))); (case j3k4 => first | (with_reducible assumption) | exact Mine.xc67 _ rfl | exact Mine.xc87 _ rfl | exact Mine.xc151 _ rfl | exact Mine.xc170 _ rfl); (case j3k5 => k_is); (case j3k6 => k_is); (case j3k7 => k_is); k_whole))
  k_with "j4" => (k_dflt (refine' Mine.menu_K Mine.SrcItem ?j4hl ?j4hP ?j4h0 ?j4h1 ?j4hf ?_ ?j4hs; (case j4hl => is_list); (case j4h0 => exact Mine.idx_lo _ (by decide)); (case j4h1 => exact Mine.idx_hi _ (by decide) rfl); (case j4hf => exact Mine.idx_fit _ (by decide) (by decide)); (case j4hs => with_unfolding_all rfl); (case j4hP => (repeat (first | exact List.forall_mem_nil _ | refine List.forall_mem_cons.mpr ⟨by first | exact Mine.srcItem_none | exact Mine.srcItem_str (by decide +kernel) (by decide +kernel) (by decide +kernel) | exact Mine.srcItem_int (by decide) (by decide), ?_⟩))); k_whole); intro v' k' hv'; (rcases hv' with ⟨rs', rv', d', hs1', hs2', hs3', hs4', hs5'⟩); (have hs6' := hs2'.len); (have hs7' := Mine.plain_handed hs5'); (try dsimp only))
  k_with "j5" => (k_dflt (refine' Mine.menu_K Mine.StrItem ?j5hl ?j5hP ?j5h0 ?j5h1 ?j5hf ?_ ?j5hs; (case j5hl => is_list); (case j5h0 => exact Mine.idx_lo _ (by decide)); (case j5h1 => exact Mine.idx_hi _ (by decide) rfl); (case j5hf => exact Mine.idx_fit _ (by decide) (by decide)); (case j5hs => with_unfolding_all rfl); (case j5hP => (repeat (first | exact List.forall_mem_nil _ | refine List.forall_mem_cons.mpr ⟨Mine.StrItem.mk _ _ (by decide +kernel) (by decide +kernel) (by decide +kernel), ?_⟩))); k_whole); intro v' k' hv'; (rcases hv' with ⟨x', t', hs1', hs2', hs3'⟩); (have hs4' := Nat.le_trans hs1' Mine.fifty); (try dsimp only))
  k_with "j6" => (k_dflt (refine' Mine.dse_T _ _ _ _ _ _ _ _ _ _ _ _ _ _ _ _ _ _ _ _ _ _ _ _ _ _ _ _ _ _ _ ?j6kB ?j6kF ?j6kX ?j6kT ?j6kk ?j6kd ?j6ku ?j6r1 ?j6s1 ?j6l1 ?_; (case j6kB => k_asm); (case j6kF => k_asm); (case j6kX => k_asm); (case j6kT => k_asm); (case j6kk => first | exact rfl | assumption); (case j6kd => ktr_room); (case j6ku => ktr_units); (case j6r1 => first | ((refine @Mine.reprAs_str _ _ _ _ _ ?_); with_reducible assumption) | ((with_reducible refine Mine.reprAs_all ?_ _ _ _); with_reducible assumption)); (case j6s1 => first | ((with_reducible refine Mine.srcIs_all ?_ _ _ _); with_reducible assumption)); (case j6l1 => exact Mine.Told.lin (by with_reducible assumption)); k_whole); intro x' dx' tx' kt0' kt1' kt2' kt3' km' h' tk' hk' F' N1'; (have N' := Mine.news_lift (by k_asm) N1' hk'); (clear N1' hk'); (try simp only [List.cons_append, List.nil_append] at N'); (try dsimp only))
  k_with "j7" => (k_dflt (refine' Mine.doe_T _ _ _ _ _ _ _ _ _ _ _ _ _ _ _ _ _ _ _ _ _ _ _ _ _ _ _ _ _ _ _ _ _ ?j7kB ?j7kF ?j7kX ?j7kT ?j7kk ?j7kd ?j7ku ?j7r1 ?j7r2 ?j7s1 ?j7l1 ?_; (case j7kB => k_asm); (case j7kF => k_asm); (case j7kX => k_asm); (case j7kT => k_asm); (case j7kk => first | exact rfl | assumption); (case j7kd => ktr_room); (case j7ku => ktr_units); (case j7r1 => first | ((refine @Mine.reprAs_str _ _ _ _ _ ?_); with_reducible assumption) | ((with_reducible refine Mine.reprAs_all ?_ _ _ _); with_reducible assumption)); (case j7r2 => first | ((refine @Mine.reprAs_str _ _ _ _ _ ?_); with_reducible assumption) | ((with_reducible refine Mine.reprAs_all ?_ _ _ _); with_reducible assumption)); (case j7s1 => first | ((with_reducible refine Mine.srcIs_all ?_ _ _ _); with_reducible assumption)); (case j7l1 => exact Mine.Told.lin (by with_reducible assumption)); k_whole); intro x' dx' tx' kt0' kt1' kt2' kt3' kt4' km' h' tk' hk' F' N1'; (have N' := Mine.news_lift (by k_asm) N1' hk'); (clear N1' hk'); (try simp only [List.cons_append, List.nil_append] at N'); (try dsimp only))
  k_with "j8" => (k_dflt ((first | refine' Mine.mshe_T _ _ _ _ _ _ _ _ _ _ _ _ _ _ _ _ _ _ _ _ _ _ _ _ _ _ _ _ _ _ _ ?j8kB ?j8kF ?j8kX ?j8kT ?j8kk ?j8kd ?j8ku ?j8s1 ?j8r1 ?j8n1 ?j8n2 ?_ | refine' Mine.mce_T _ _ _ _ _ _ _ _ _ _ _ _ _ _ _ _ _ _ _ _ _ _ _ _ _ _ _ _ _ _ _ ?j8kB ?j8kF ?j8kX ?j8kT ?j8kk ?j8kd ?j8ku ?j8s1 ?j8r1 ?j8n1 ?j8n2 ?_); (case j8kB => k_asm); (case j8kF => k_asm); (case j8kX => k_asm); (case j8kT => k_asm); (case j8kk => first | exact rfl | assumption); (case j8kd => ktr_room); (case j8ku => ktr_units); (case j8s1 => with_reducible assumption); (case j8r1 => with_reducible assumption); (case j8n1 => exact Mine.num_lo _); (case j8n2 => exact Mine.num_hi _); k_whole); intro x' dx' tx' kt0' kt1' kt2' kt3' km' h' tk' hk' F' N1'; (have N' := Mine.news_lift (by k_asm) N1' hk'); (clear N1' hk'); (try simp only [List.cons_append, List.nil_append] at N'); (try dsimp only))
  k_with "j9" => (k_dflt (refine' Mine.againS_T _ _ _ _ _ _ _ _ _ _ _ _ _ _ _ _ _ _ _ _ _ _ _ _ _ _ _ _ _ _ _ _ _ _ _ _ _ _ _ _ _ ?j9kB ?j9kF ?j9kX ?j9kT ?j9kk ?j9kd ?j9ku ?j9r0 ?j9s1 ?j9l1 ?j9N ?_; (case j9N => refine' Mine.news3 ?j9n0 ?j9n1 ?j9n2 ?j9n3; (case j9n0 => k_asm); (case j9n1 => k_mem); (case j9n2 => k_mem); (case j9n3 => k_mem)); (case j9kB => k_asm); (case j9kF => k_asm); (case j9kX => k_asm); (case j9kT => k_asm); (case j9kk => first | exact rfl | assumption); (case j9kd => ktr_room); (case j9ku => ktr_units); (case j9r0 => first | ((refine @Mine.reprAs_str _ _ _ _ _ ?_); with_reducible assumption) | ((with_reducible refine Mine.reprAs_all ?_ _ _ _); with_reducible assumption)); (case j9s1 => first | ((with_reducible refine Mine.srcIs_all ?_ _ _ _); with_reducible assumption)); (case j9l1 => exact Mine.Told.lin (by with_reducible assumption)); k_whole); intro h' tk' hk' F'; (have N' := Mine.news_kept hk' (by k_asm)); (clear hk'); (try dsimp only))
  k_with "j10" => (k_dflt (refine' Mine.againO_T _ _ _ _ _ _ _ _ _ _ _ _ _ _ _ _ _ _ _ _ _ _ _ _ _ _ _ _ _ _ _ _ _ _ _ _ _ _ _ _ _ _ _ _ ?j10kB ?j10kF ?j10kX ?j10kT ?j10kk ?j10kd ?j10ku ?j10r0 ?j10r1 ?j10s1 ?j10l1 ?j10N ?_; (case j10N => refine' Mine.news3 ?j10n0 ?j10n1 ?j10n2 ?j10n3; (case j10n0 => k_asm); (case j10n1 => k_mem); (case j10n2 => k_mem); (case j10n3 => k_mem)); (case j10kB => k_asm); (case j10kF => k_asm); (case j10kX => k_asm); (case j10kT => k_asm); (case j10kk => first | exact rfl | assumption); (case j10kd => ktr_room); (case j10ku => ktr_units); (case j10r0 => first | ((refine @Mine.reprAs_str _ _ _ _ _ ?_); with_reducible assumption) | ((with_reducible refine Mine.reprAs_all ?_ _ _ _); with_reducible assumption)); (case j10r1 => first | ((refine @Mine.reprAs_str _ _ _ _ _ ?_); with_reducible assumption) | ((with_reducible refine Mine.reprAs_all ?_ _ _ _); with_reducible assumption)); (case j10s1 => first | ((with_reducible refine Mine.srcIs_all ?_ _ _ _); with_reducible assumption)); (case j10l1 => exact Mine.Told.lin (by with_reducible assumption)); k_whole); intro h' tk' hk' F'; (have N' := Mine.news_kept hk' (by k_asm)); (clear hk'); (try dsimp only))
  k_with "j11" => (k_dflt ((first | refine' Mine.place151_T _ _ _ _ _ _ _ _ _ _ _ _ _ _ _ _ _ _ _ _ _ _ _ _ _ _ _ _ _ _ _ _ _ _ _ _ _ _ _ _ ?j11kB ?j11kF ?j11kX ?j11kT ?j11kk ?j11kd ?j11ku ?j11r1 ?j11r2 ?j11m1 ?j11m2 ?j11m3 ?j11m4 ?j11q1 ?j11q2 ?j11N ?_ | refine' Mine.place170_T _ _ _ _ _ _ _ _ _ _ _ _ _ _ _ _ _ _ _ _ _ _ _ _ _ _ _ _ _ _ _ _ _ _ _ _ _ _ _ _ ?j11kB ?j11kF ?j11kX ?j11kT ?j11kk ?j11kd ?j11ku ?j11r1 ?j11r2 ?j11m1 ?j11m2 ?j11m3 ?j11m4 ?j11q1 ?j11q2 ?j11N ?_); (case j11N => refine' Mine.news2 ?j11n0 ?j11n1 ?j11n2; (case j11n0 => k_asm); (case j11n1 => k_mem); (case j11n2 => k_mem)); (case j11kB => k_asm); (case j11kF => k_asm); (case j11kX => k_asm); (case j11kT => k_asm); (case j11kk => first | exact rfl | assumption); (case j11kd => ktr_room); (case j11ku => ktr_units); (case j11r1 => first | ((refine @Mine.reprAs_str _ _ _ _ _ ?_); with_reducible assumption) | ((with_reducible refine Mine.reprAs_all ?_ _ _ _); with_reducible assumption)); (case j11r2 => first | ((refine @Mine.reprAs_str _ _ _ _ _ ?_); with_reducible assumption) | ((with_reducible refine Mine.reprAs_all ?_ _ _ _); with_reducible assumption)); (case j11m1 => with_reducible assumption); (case j11m2 => with_reducible assumption); (case j11m3 => with_reducible assumption); (case j11m4 => with_reducible assumption); (case j11q1 => exact Mine.num_lo _); (case j11q2 => exact Mine.num_hi _); k_whole); intro h' tk' hk' F'; (have N' := Mine.news_kept hk' (by k_asm)); (clear hk'); (try dsimp only))
  k_with "j12" => (k_dflt (refine' Mine.eq_tupV ?j12N ?j12a ?j12b ?j12p ?j12u ?_; (case j12N => k_asm); (case j12a => k_mem); (case j12b => k_mem); (case j12p => (repeat (first | exact List.forall_mem_nil _ | refine List.forall_mem_cons.mpr ⟨by first | exact Mine.Told.plain (by with_reducible assumption) | exact ⟨_, Mine.Plain.int _ _⟩ | exact ⟨_, Mine.Plain.str _ _ (by with_reducible assumption)⟩ | exact ⟨_, by with_reducible assumption⟩, ?_⟩))); (case j12u => ktr_units); k_whole))
  k_with "j13" => (k_dflt (refine' Mine.eq_lstV ?j13N ?j13a ?j13b ?j13p ?j13u ?_; (case j13N => k_asm); (case j13a => k_mem); (case j13b => k_mem); (case j13p => (repeat (first | exact List.forall_mem_nil _ | refine List.forall_mem_cons.mpr ⟨by first | exact Mine.Told.plain (by with_reducible assumption) | exact ⟨_, Mine.Plain.int _ _⟩ | exact ⟨_, Mine.Plain.str _ _ (by with_reducible assumption)⟩ | exact ⟨_, by with_reducible assumption⟩, ?_⟩))); (case j13u => ktr_units); k_whole))
  k_with "j14" => ((refine Mine.ite_no (by first | exact Mine.bne_self _ | exact Mine.no_low (Or.inl (by assumption)) | exact Mine.no_low (Or.inr (by assumption)) | exact Mine.no_high (by assumption) (by assumption)) ?_))
  k_with "j15" => (k_dflt (refine' Mine.isi_noF ?j15F ?j15X ?j15I ?j15hx ?j15k6 ?j15k7 ?j15k8 ?j15k9 ?j15k3 ?_; (case j15F => k_asm); (case j15X => k_asm); (case j15I => (refine' Mine.instX ?j15N ?j15h1 ?j15h2; (case j15N => k_asm); (case j15h1 => k_mem); (case j15h2 => k_mem))); (case j15hx => first | (with_reducible assumption) | exact Mine.xc67 _ rfl | exact Mine.xc87 _ rfl | exact Mine.xc151 _ rfl | exact Mine.xc170 _ rfl); (case j15k6 => k_is); (case j15k7 => k_is); (case j15k8 => k_is); (case j15k9 => k_is); (case j15k3 => kin_no); k_whole))
  k_with "j16" => (k_dflt (refine' Mine.isi_yesF ?j16F ?j16X ?j16I ?j16k3 ?_; (case j16F => k_asm); (case j16X => k_asm); (case j16I => (refine' Mine.instX ?j16N ?j16h1 ?j16h2; (case j16N => k_asm); (case j16h1 => k_mem); (case j16h2 => k_mem))); (case j16k3 => k_is); k_whole))
  k_with "j17" => (k_dflt (refine' Mine.str_F ?j17F ?j17X ?j17I ?j17k1 ?j17k4 ?j17k5 ?_; (case j17F => k_asm); (case j17X => k_asm); (case j17I => (refine' Mine.instX ?j17N ?j17h1 ?j17h2; (case j17N => k_asm); (case j17h1 => k_mem); (case j17h2 => k_mem))); (case j17k1 => k_units); (case j17k4 => k_is); (case j17k5 => k_is); k_whole))
  k_with "j18" => (k_dflt (refine' repr_K ?j18k1 ?j18F ?j18X ?j18I ?j18k4 ?j18k5 ?_; (case j18F => k_asm); (case j18X => k_asm); (case j18I => (refine' Mine.instX ?j18N ?j18h1 ?j18h2; (case j18N => k_asm); (case j18h1 => k_mem); (case j18h2 => k_mem))); (case j18k1 => k_units); (case j18k4 => k_is); (case j18k5 => k_is); k_whole))
  k_with "j19" => ((refine Mine.cut_told ?_ (fun v' ln' k' ht' => ?_)))
  (w_on; o_law; o_head (kHook Mine.hd.heap_39 (nat_lit 2 :: nat_lit 3 :: nat_lit 29 :: nat_lit 35 :: nat_lit 36 :: nat_lit 42 :: nat_lit 43 :: nat_lit 45 :: nat_lit 46 :: nat_lit 57 :: nat_lit 63 :: nat_lit 64 :: nat_lit 66 :: nat_lit 67 :: nat_lit 77 :: nat_lit 83 :: nat_lit 84 :: nat_lit 86 :: nat_lit 87 :: nat_lit 131 :: nat_lit 132 :: nat_lit 147 :: nat_lit 148 :: nat_lit 150 :: nat_lit 151 :: nat_lit 166 :: nat_lit 167 :: nat_lit 169 :: nat_lit 170 :: nat_lit 178 :: nat_lit 179 :: nat_lit 185 :: nat_lit 186 :: nat_lit 192 :: nat_lit 193 :: nat_lit 199 :: nat_lit 200 :: []) (fun _ => by kernel_rfl)); (case hw => w_witness2))
  k_go0
  (all_goals try k_fold)
  k_steps
