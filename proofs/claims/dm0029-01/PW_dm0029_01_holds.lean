import PyProof.Rows.All
import Wide.All
import OpenK.AllK
import Wide.FinOn
import Lean
import PySem.Challenge.RW_dm0029_01
set_option Elab.async false
set_option linter.all false
set_option compiler.extract_closed false
section
open PySem PySem.W PyProof.Rows PySem.Calls PySem.Builtin PySem.Builtin.ObjectAttr PySem.Builtin.Getset_descriptor
set_option maxRecDepth 100000
set_option maxHeartbeats 4000000
namespace Mine

abbrev excObj (C tx : Addr) (dx : Option Addr) : Obj := { cls := .ref C, dict := dx, data := .fields #[.ref tx, .none, .none, .none, .bool false, .none] }
abbrev tupObj (vs : List Value) : Obj := { cls := .type "tuple", data := .seq vs.toArray }

def excMro : List Value → Bool
  | [.type a, .type b, .type c] => a == "Exception" && b == "BaseException" && c == "object"
  | .ref _ :: r => excMro r
  | _ => false
theorem excMro_has {b : Value} (hb : ([.type "Exception", .type "BaseException", .type "object"] : List Value).contains b = true) : ∀ {l : List Value}, excMro l = true → l.contains b = true
  | [.type x, .type y, .type z], e => by
    simp only [excMro, Bool.and_eq_true, beq_iff_eq] at e
    obtain ⟨⟨rfl, rfl⟩, rfl⟩ := e
    exact hb
  | .ref c :: r, e => by rw [List.contains_cons, excMro_has hb (l := r) (by cases r <;> first | exact e | cases e), Bool.or_true]
theorem excMro_not {n : String} (hb : ([.type "Exception", .type "BaseException", .type "object"] : List Value).contains (.type n) = false) : ∀ {l : List Value}, excMro l = true → l.contains (.type n) = false
  | [.type x, .type y, .type z], e => by
    simp only [excMro, Bool.and_eq_true, beq_iff_eq] at e
    obtain ⟨⟨rfl, rfl⟩, rfl⟩ := e
    exact hb
  | .ref c :: r, e => by rw [List.contains_cons, excMro_not hb (l := r) (by cases r <;> first | exact e | cases e)]; rfl
theorem excMro_refuse (self : Value) : ∀ {l : List Value}, excMro l = true → refuseLoop self "__setattr__" l = pure ()
  | [.type x, .type y, .type z], e => by
    simp only [excMro, Bool.and_eq_true, beq_iff_eq] at e
    obtain ⟨⟨rfl, rfl⟩, rfl⟩ := e
    exact PySem.F.store_Exception.passes self
  | .ref c :: r, e => by rw [refuseLoop_ref]; exact excMro_refuse self (by cases r <;> first | exact e | cases e)

def xOk (C : Addr) (cd : ClassData) (sl : Array (Option Value)) : Bool := !cd.hasDel && cd.hasDict && (sl.toList[4]?).join == some (.builtin "Exception.__new__") && cd.mro.head? == some (.ref C) && excMro cd.mro

/-- what is asked of an exception class of the text's own -/
structure XCls (K : Frag) (C : Addr) : Prop where
  obj : ∃ oc od cd sl, K.lookup C = some ⟨oc, od, .cls cd, sl⟩ ∧ xOk C cd sl = true
  call : specialIn K (.ref C) "__call__" = some (some (.builtin "type.__call__"))
  typ : instIn K (.ref C) (.type "type") = some true
  set : findIn K (.ref C) "__setattr__" = some (some (.builtin "object.__setattr__"))
  get : findIn K (.ref C) "__getattribute__" = some (some (.builtin "BaseException.__getattribute__"))
  hook : findIn K (.ref C) "__getattr__" = some none

structure MakesX (M : Model) (h : Heap) (C : Addr) : Prop where
  obj : ∃ oc od cd sl, h.get? C = some ⟨oc, od, .cls cd, sl⟩ ∧ cd.hasDel = false ∧ cd.mro.isEmpty = false
  made : Looks M h (Bind.madeBy (.ref C)) (some "Exception.__new__")
  base : Looks M h (Bind.staticBase (.ref C)) (.ref C)
  self : Looks M h (isSubtype (.ref C) (.ref C)) true
  exc : Looks M h (isSubtype (.ref C) (.type "Exception")) true
  bexc : Looks M h (isSubtype (.ref C) (.type "BaseException")) true
  noAttr : Looks M h (isSubtype (.ref C) (.type "AttributeError")) false
  noName : Looks M h (isSubtype (.ref C) (.type "NameError")) false
  call : Looks M h (specialOf (.ref C) "__call__") (some (.builtin "type.__call__"))
  typ : Looks M h (isInstance (.ref C) (.type "type")) true
theorem XCls.parts {K : Frag} {C : Addr} (x : XCls K C) : ∃ oc od cd sl, K.lookup C = some ⟨oc, od, .cls cd, sl⟩ ∧ clsIn K C = some cd ∧ cd.hasDel = false ∧ cd.hasDict = true ∧ (sl.toList[4]?).join = some (.builtin "Exception.__new__") ∧ cd.mro.isEmpty = false ∧ cd.mro.contains (.ref C) = true ∧ excMro cd.mro = true := by
  obtain ⟨⟨oc, od, cd, sl, ho, e⟩, _, _⟩ := x
  simp only [xOk, Bool.and_eq_true, Bool.not_eq_true', beq_iff_eq] at e
  obtain ⟨⟨⟨⟨e1, e2⟩, e3⟩, e4⟩, e5⟩ := e
  refine ⟨oc, od, cd, sl, ho, by unfold clsIn; rw [ho], e1, e2, e3, ?_, ?_, e5⟩
  · cases q : cd.mro with | nil => rw [q] at e4; cases e4 | cons c l => rfl
  · cases q : cd.mro with
    | nil => rw [q] at e4; cases e4
    | cons c l => rw [q] at e4; cases e4; simp
theorem makesX_of {K : Frag} {M : Model} {h : Heap} (X : K.In h) {C : Addr} (x : XCls K C) : MakesX M h C := by
  obtain ⟨oc, od, cd, sl, ho, hc, e2, ed, e3, e4, e5, ex⟩ := x.parts
  have hm : Looks M h (mroOf (.ref C)) cd.mro := (looks_clsIn X hc).andThen .now
  obtain ⟨c, l, hl⟩ : ∃ c l, cd.mro = c :: l := by cases q : cd.mro with | nil => rw [q] at e4; cases e4 | cons c l => exact ⟨c, l, rfl⟩
  have made : Looks M h (Bind.madeBy (.ref C)) (some "Exception.__new__") := by
    intro A Q E s k q
    unfold Bind.madeBy
    refine wpAny_bind (hm A _ E s k ?_)
    rw [hl, List.forIn_cons]
    refine wpAny_bind (wpAny_bind (wpAny_bind (wpAny_bind (wpAny_loadPart (k _ _ (X _ _ ho)) (wpAny_pure ?_)))))
    dsimp only
    rw [← Array.getElem?_toList, e3]
    exact wpAny_pure (wpAny_pure (wpAny_pure q))
  have sub : ∀ b, Looks M h (isSubtype (.ref C) b) (cd.mro.contains b) := fun b => looks_mroIn X (by unfold mroIn; rw [hc, Option.bind_some, if_neg (by rw [e4]; decide)])
  have has : ∀ b, ([.type "Exception", .type "BaseException", .type "object"] : List Value).contains b = true → Looks M h (isSubtype (.ref C) b) true := fun b hb => by have := sub b; rwa [excMro_has hb ex] at this
  have hasnt : ∀ n, ([.type "Exception", .type "BaseException", .type "object"] : List Value).contains (.type n) = false → Looks M h (isSubtype (.ref C) (.type n)) false := fun n hb => by have := sub (.type n); rwa [excMro_not hb ex] at this
  refine ⟨⟨oc, od, cd, sl, X _ _ ho, e2, e4⟩, made, ?_, e5 ▸ sub _, has _ (by decide), has _ (by decide), hasnt _ (by decide), hasnt _ (by decide), looks_specialIn X x.call, looks_instIn X x.typ⟩
  intro A Q E s k q
  unfold Bind.staticBase
  refine wpAny_bind (hm A _ E s k ?_)
  rw [hl, List.forIn_cons]
  exact wpAny_bind (wpAny_bind (wpAny_bind (made A _ E s k (wpAny_pure (wpAny_pure (wpAny_pure q))))))

section
variable {prog : Program} {w : World} {A : Around} {K : Frag} {C : Addr} {R : Result → Shared → Prop} {h : Heap} {g : Array GenState} {d : Drawn} {t : Nat} {os : OsState}

theorem check_X {M : Model} (Y : MakesX M h C) {Q : Unit → Shared → Prop} {E : Value → Shared → Prop} {rest : List Value} {kw : List (Str × Value)} (q : Q () ⟨h, g, d, t, os⟩) :
    wpAny M A (checkBuiltinCall "Exception.__new__" ⟨.ref C :: rest, kw⟩) Q E ⟨h, g, d, t, os⟩ := by
  have F := PySem.F.excBase_Exception
  obtain ⟨⟨oc, od, cd, sl, hC, e2, e4⟩, made, base, self, exc, bexc, na, nn, call, typ⟩ := Y
  have hstar := F.noStar
  simp only [checkBuiltinCall, F.newKind, F.newSplit, F.newRow]
  repeat (first | simp only [bne_self_eq_false, Bool.false_eq_true, if_false] | lk)
  exact q
theorem new_X {rest : List Value} {kw : List (Str × Value)} (Y : MakesX (model prog w) h C) (hrest : rest.length ≤ sizeLine)
    (hq : R (.ok (.ret (.ref (h.objs.size + 1)))) ⟨(h.push (tupObj rest)).push (excObj C h.objs.size none), g, d, t, os⟩) :
    codeAny (model prog w) A (.call (.builtin "Exception.__new__") ⟨.ref C :: rest, kw⟩) R ⟨h, g, d, t, os⟩ := by
  have F := PySem.F.excBase_Exception
  refine codeAny_call_builtin_code (Code.quiet_builtin _ F.quiet) (check_X Y ?_)
  have hends := F.ends
  refine codeAny_builtinAt F.entry ?_
  unfold Builtin.«BaseException.__new__»
  refine PySem.wpAt_bind ?_
  show PySem.wpAt _ _ _ (stack >>= _) _ _ _
  refine PySem.wpAt_bind (PySem.wpAt_stack fun p below => PySem.wpAt_of_wpAny ?_)
  wp_walk
  refine PySem.wpAt_of_wpAny ?_
  rw [F.owner]
  obtain ⟨⟨oc, od, cd, sl, hC, e2, e4⟩, made, base, self, exc, bexc, na, nn, call, typ⟩ := Y
  have hm : Looks (model prog w) h (Bind.madeHere "BaseException.__new__" (.ref C)) () := base.andThen (made.andThen (Looks.of_pure (by simp only [Option.map_some, F.canon, bne_self_eq_false, Bool.false_eq_true, if_false])))
  have hsz : ¬ (rest.toArray.size > sizeLine) := by rw [List.size_toArray]; omega
  repeat (first | simp only [Bool.false_eq_true, if_false, Bool.not_true] | rw [if_neg hsz] | lk)
  refine nd_load (Heap.get?_push_of_some _ (Heap.get?_push_of_some _ hC)) ?_
  repeat (first | simp only [e2, Bool.false_eq_true, if_false] | lk)
  rw [Heap.size_push]
  exact hq

theorem make_X_core {rest : List Value} {kw : List (Str × Value)} {init : Value} (Y : MakesX (model prog w) h C) (hrest : rest.length ≤ sizeLine) (hi : Looks (model prog w) h (typeLookup (.ref C) "__init__") (some init))
    (hb : ∀ self, Looks (model prog w) h (bindSpecial init self) (init, [self]))
    (hq : codeAny (model prog w) (A.under (.builtin "type.__call__" ⟨.ref C :: rest, kw⟩)) (.call init ⟨.ref (h.objs.size + 1) :: rest, kw⟩) (InitBack (h.objs.size + 1) R) ⟨(h.push (tupObj rest)).push (excObj C h.objs.size none), g, d, t, os⟩) :
    codeAny (model prog w) A (.call (.ref C) ⟨rest, kw⟩) R ⟨h, g, d, t, os⟩ := by
  have Y' := Y
  obtain ⟨⟨oc, od, cd, sl, hC, e2, e4⟩, made, base, self, exc, bexc, na, nn, call, typ⟩ := Y
  refine codeAny_of_tree ?_
  show wpAny _ _ (callAny (.ref C) _) _ _ _
  refine nd_load hC ?_
  show wpAny _ _ (callAny.viaDunder (.ref C) _) _ _ _
  unfold callAny.viaDunder
  refine wpAny_bind (call.at ?_)
  dsimp only
  rw [tc_bind]
  refine wpAny_bind (wpAny_pure (wpAny_bind (wpAny_pure ?_)))
  refine wpAny_pure (a := Fin.again (.call (.builtin "type.__call__") ⟨.ref C :: rest, kw⟩)) (And.intro rfl ?_)
  refine codeAny_call_builtin_at (Code.quiet_builtin _ (by decide +kernel)) entry_typeCall (check_slot tc_kind tc_split typ (tc_args _ _ _) ?_)
  unfold Builtin.«type.__call__»
  have hm : Looks (model prog w) h (mroOf (.ref C)) cd.mro := ((Looks.ld (part := none) hC).andThen .now).andThen .now
  repeat (first | simp only [e4, Bool.false_eq_true, if_false] | with_reducible refine wpAny_call ?_ | lk)
  refine new_X Y' hrest ?_
  have k : ∀ b o, h.get? b = some o → ((h.push (tupObj rest)).push (excObj C h.objs.size none)).get? b = some o := fun b o e => Heap.get?_push_of_some _ (Heap.get?_push_of_some _ e)
  have hx : ((h.push (tupObj rest)).push (excObj C h.objs.size none)).get? (h.objs.size + 1) = some (excObj C h.objs.size none) := by heap_get
  have t1 : Looks (model prog w) ((h.push (tupObj rest)).push (excObj C h.objs.size none)) (typeOf (.ref (h.objs.size + 1))) (.ref C) := (Looks.ld hx).andThen .now
  have s1 := self.keeps k
  have i1 := hi.keeps k
  have b1 := (hb (.ref (h.objs.size + 1))).keeps k
  unfold isInstance callSpecial? specialOf
  repeat (first | with_reducible refine wpAny_call ?_ | lk)
  refine codeAny_mono hq fun r s' z => ?_
  rcases r with e | (v | _ | _ | _) <;> first | exact z | exact z.elim | skip
  obtain ⟨rfl, z⟩ := z
  exact wpAny_pure (wpAny_pure z)
end

section
variable {prog : Program} {w : World} {A : Around} {K : Frag} {C x : Addr} {s : Shared} {h₀ : Heap} {L : Addr} {m : Str → Option Value} {news : List (Addr × Obj)} {R : Result → Shared → Prop}
end

section
variable {prog : Program} {w : World} {A : Around} {K : Frag} {C x L : Addr} {s : Shared} {h₀ : Heap} {m : Str → Option Value} {news news' : List (Addr × Obj)} {R : Result → Shared → Prop} {name : Str} {tk : Tok} {v : Value} {ox : Obj} {od : Option Obj}

theorem osa_openX {r : Option Value} (X : K.In s.heap) (I : InstAt s.heap x ox C od) (hx : XCls K C) (ht : takerIn K C name = some r)
    (h : ∀ b, wpAny (model prog w) A.in1 (match r with | some a => setByDescriptor a (.ref x) v | none => storeInOwnDict (.ref x) (.ref C) (.str name tk) name v b)
      (fun fin s' => match fin with | .done f => R (.ok f) s' | .again c' => c'.quiet = true ∧ codeAny (model prog w) A c' R s') (fun e s' => R (.error e) s') s) :
    codeAny (model prog w) A (.call (.builtin "object.__setattr__") ⟨[.ref x, .str name tk, v], []⟩) R s := by
  have SF := PySem.F.store_object
  obtain ⟨oc, odd, cd, sl, ho, hc, e2, ed, e3, ne, e5, ex⟩ := hx.parts
  have sub : Looks (model prog w) s.heap (isInstance (.ref x) (.type "object")) true := I.type.andThen (looks_mroIn X (by unfold mroIn; rw [hc, Option.bind_some, if_neg (by rw [ne]; decide), excMro_has (by decide) ex]))
  refine codeAny_call_builtin SF.slot.plain SF.entry (@check_slot (model prog w) _ _ s "object.__setattr__" "object" "__setattr__" (.ref x) [.str name tk, v] [] _ SF.kind SF.split sub (SF.args (.ref x) (.str name tk) v) ?_)
  obtain ⟨attr, ha, hr⟩ := Option.bind_eq_some_iff.mp ht
  have hm : Looks (model prog w) s.heap (mroOf (.ref C)) cd.mro := (looks_clsIn X hc).andThen .now
  have L3 : Looks (model prog w) s.heap (storeTaker? attr) r := by
    cases attr with
    | none => cases hr; exact .now
    | some a =>
      obtain ⟨b, hb, rfl⟩ := Option.map_eq_some_iff.mp hr
      refine (looks_takesIn X hb).andThen ?_
      cases b <;> exact .now
  rw [osa_eq, refuse_eq]
  refine wpAny_bind (wpAny_bind (I.type.here (wpAny_bind (hm.here ?_))))
  rw [excMro_refuse _ ex]
  refine wpAny_pure (wpAny_bind (I.type.here (wpAny_bind ((looks_findIn X ha).here (wpAny_bind (L3.here ?_))))))
  exact h _

theorem osa_dictX {od od' : Obj} {dx : Addr} {pre post : List (Addr × Obj)} {es : List DictEntry} {n : Nat} (F : Fr h₀ L s.heap m) (N : News h₀ L s.heap (pre ++ (dx, od) :: post)) (X : K.In s.heap)
    (I : InstAt s.heap x ox C (some od)) (hd : ox.dict = some dx) (hx : XCls K C) (ht : takerIn K C name = some none)
    (hl : (lookIn name od).isSome = true) (h1 : ∀ p ∈ pre, p.1 ≠ dx) (h2 : ∀ p ∈ post, p.1 ≠ dx)
    (e : Obj.putName name (PyData.keyHash w.params name) (.str name s.toks) v od = od') (e' : od'.data = .dict es.toArray n) (hz : es.length ≤ 1000)
    (h : ∀ h', Fr h₀ L h' m → News h₀ L h' (pre ++ (dx, od') :: post) → R (.ok (.ret .none)) { s with heap := h', toks := s.toks + 1 }) :
    codeAny (model prog w) A (.call (.builtin "object.__setattr__") ⟨[.ref x, .str name tk, v], []⟩) R s := by
  refine osa_openX X I hx ht fun b => ?_
  obtain ⟨oc, odd, cd, sl, ho, hc, e2, hd', e3, ne, e5, ex⟩ := hx.parts
  obtain ⟨U1, U2⟩ := news_upd (f := Obj.putName name (PyData.keyHash w.params name) (.str name s.toks) v) F N h1 h2 e (by obtain ⟨_, _, dd, _⟩ := od'; cases e'; rfl)
  have D := (N (dx, od) (by simp)).1
  have D' := (U2 (dx, od') (by simp)).1
  obtain ⟨hx, hcl, hn, -⟩ := I
  obtain ⟨oc, odi, oda, osl⟩ := ox
  dsimp only at hcl hd
  subst hcl hd
  refine wpAny_bind (wpAny_pure (wpAny_bind (wpAny_bind (wpAny_loadPart hx (wpAny_bind ((looks_clsIn X hc).here ?_))))))
  rw [hd']
  refine wpAny_pure (a := some dx) (wpAny_bind (wpAny_pure (wpAny_bind ?_)))
  unfold nsSet
  refine wpAny_bind (wpAny_bind (wpAny_askSetting (wpAny_pure (wpAny_bind (wpAny_mkText (wpAny_bind (wpAny_loadPart D ?_)))))))
  unfold lookIn at hl
  split at hl
  · rename_i es₀ n₀ q
    rw [q]
    dsimp only
    have c : (!es₀.any (·.key.isStr name) && es₀.any (·.refKey)) = false := by
      rw [← Array.any_toList, ← Array.any_toList]
      split at hl
      · rename_i en he
        rw [List.any_eq_true.mpr ⟨en, List.mem_of_find?_eq_some he, List.find?_some he⟩]; rfl
      · split at hl
        · cases hl
        · rename_i z; rw [Bool.not_eq_true] at z; rw [z, Bool.and_false]
    rw [aRefKeyMayBeTheName_at, c]
    refine wpAny_updatePart D ?_
    refine wpAny_bind (wpAny_lookBehind D' (by rw [e']; exact pastItsLine_dict (by rw [List.size_toArray, sizeLine_eq]; omega)) ?_)
    exact wpAny_pure (h _ U1 U2)
  · cases hl
end
end Mine
end
section
open PySem PySem.W PyProof.Rows PySem.Calls PySem.Builtin PySem.Builtin.ObjectAttr PySem.Builtin.Getset_descriptor
set_option maxRecDepth 100000
set_option maxHeartbeats 4000000
namespace Mine
section
variable {prog : Program} {w : World} {A : Around} {K : Frag} {C x L : Addr} {s : Shared} {h₀ : Heap} {m : Str → Option Value} {news news' : List (Addr × Obj)} {R : Result → Shared → Prop} {name : Str} {tk : Tok} {v : Value} {ox : Obj} {od : Option Obj}

abbrev xObj (C : Addr) (dx : Option Addr) (vs : Array Value) : Obj := { cls := .ref C, dict := dx, data := .fields vs }

theorem osa_newX {vs : Array Value} {pre post : List (Addr × Obj)} (F : Fr h₀ L s.heap m) (N : News h₀ L s.heap (pre ++ (x, xObj C none vs) :: post)) (X : K.In s.heap)
    (hx : XCls K C) (ht : takerIn K C name = some none)
    (h1 : ∀ p ∈ pre, p.1 ≠ x) (h2 : ∀ p ∈ post, p.1 ≠ x)
    (h : ∀ dx h', Fr h₀ L h' m → News h₀ L h' ((dx, dictOf [⟨PyData.keyHash w.params name, .str name s.toks, v⟩] 1) :: (pre ++ (x, xObj C (some dx) vs) :: post)) → (∀ p ∈ pre ++ (x, xObj C none vs) :: post, p.1 < dx) → R (.ok (.ret .none)) { s with heap := h', toks := s.toks + 1 }) :
    codeAny (model prog w) A (.call (.builtin "object.__setattr__") ⟨[.ref x, .str name tk, v], []⟩) R s := by
  have Dx := (N (x, xObj C none vs) (by simp)).1
  have I : PySem.W.InstAt s.heap x (xObj C none vs) C none := ⟨Dx, rfl, rfl, trivial⟩
  refine osa_openX X I hx ht fun b => ?_
  obtain ⟨oc, odd, cd, sl, ho, hc, e2, hd', e3, ne, e5, ex⟩ := hx.parts
  obtain ⟨hh, g, d, t, os⟩ := s
  dsimp only at F N X h Dx I ⊢
  have hlt : ∀ p ∈ pre ++ (x, xObj C none vs) :: post, p.1 < hh.objs.size := fun p hp => Heap.lt_size (N p hp).1
  have hxlt : x < hh.objs.size := Heap.lt_size Dx
  have F1 := F.push emptyDict
  have N1 := N.push F emptyDict
  have F2N2 := news_upd (f := fun o => { o with dict := some hh.objs.size }) (pre := (hh.objs.size, emptyDict) :: pre) F1 N1
    (fun p hp => by
      rcases List.mem_cons.mp hp with rfl | hp
      · exact Nat.ne_of_gt hxlt
      · exact h1 p hp) h2 (o' := xObj C (some hh.objs.size) vs) rfl rfl
  obtain ⟨F2, N2⟩ := F2N2
  have N2' : News h₀ L ((hh.push emptyDict).update x fun o => { o with dict := some hh.objs.size }) ([] ++ (hh.objs.size, emptyDict) :: (pre ++ (x, xObj C (some hh.objs.size) vs) :: post)) := N2
  obtain ⟨U1, U2⟩ := news_upd (f := Obj.putName name (PyData.keyHash w.params name) (.str name t) v) F2 N2' (fun p hp => (nomatch hp))
    (fun p hp => Nat.ne_of_lt (by
      rcases List.mem_append.mp hp with hp | hp
      · exact hlt p (List.mem_append_left _ hp)
      · rcases List.mem_cons.mp hp with rfl | hp
        · exact hxlt
        · exact hlt p (List.mem_append_right _ (.tail _ hp)))) (o' := dictOf [⟨PyData.keyHash w.params name, .str name t, v⟩] 1) (putName_dict name _ _ v [] 0) rfl
  have D := (N2' (hh.objs.size, emptyDict) (by simp)).1
  have D' := (U2 (hh.objs.size, dictOf [⟨PyData.keyHash w.params name, .str name t, v⟩] 1) (by simp)).1
  have Dx1 : (hh.push emptyDict).get? x = some (xObj C none vs) := Heap.get?_push_of_some _ Dx
  refine wpAny_bind (wpAny_pure (wpAny_bind (wpAny_bind (wpAny_loadPart Dx (wpAny_bind ((looks_clsIn X hc).here ?_))))))
  rw [hd']
  refine wpAny_bind (wpAny_alloc' (wpAny_bind (wpAny_update' Dx1 (wpAny_bind (wpAny_pure (wpAny_pure ?_))))))
  show wpAny _ _ (storeInDict hh.objs.size (.str name tk) name v) _ _ _
  unfold storeInDict newKeyGuard
  refine wpAny_bind (wpAny_pure (wpAny_bind ?_))
  unfold nsSet
  refine wpAny_bind (wpAny_bind (wpAny_askSetting (wpAny_pure (wpAny_bind (wpAny_mkText (wpAny_bind (wpAny_loadPart D ?_)))))))
  dsimp only
  have c : (!(#[] : Array DictEntry).any (·.key.isStr name) && (#[] : Array DictEntry).any (·.refKey)) = false := by simp
  rw [aRefKeyMayBeTheName_at, c]
  refine wpAny_updatePart D ?_
  refine wpAny_bind (wpAny_lookBehind D' (pastItsLine_dict (by simp)) ?_)
  exact wpAny_pure (h _ _ U1 U2 hlt)
end
end Mine
end
section
open PySem PySem.W PyProof.Rows PySem.Calls PySem.Builtin PySem.Builtin.ObjectAttr PySem.Builtin.Getset_descriptor
set_option maxRecDepth 100000
set_option maxHeartbeats 4000000
namespace Mine
namespace XF
theorem entry_gs_set : entryFor table "getset_descriptor.__set__" = some Builtin.«getset_descriptor.__set__» := entryFor_of_tree (by kernel_rfl)
theorem args_gs_set (a b c : Value) : argsOk "getset_descriptor.__set__" ⟨[a, b, c], []⟩ := by unfold argsOk; kernel_rfl
theorem entry_args_set : entryFor table "BaseException.args#set" = some Builtin.«BaseException.args#set» := entryFor_of_tree (by kernel_rfl)
theorem looks_type {M : Model} {h : Heap} : Looks M h (typeOf (.builtin "BaseException.args")) (.type "getset_descriptor") := by
  rw [PySem.F.typeOf_bexc_args]; exact .now
end XF
abbrev excF (a0 : Value) : Array Value := #[a0, .none, .none, .none, .bool false, .none]
section
variable {prog : Program} {w : World} {A : Around} {K : Frag} {C x L : Addr} {s : Shared} {h₀ : Heap} {m : Str → Option Value} {news news' : List (Addr × Obj)} {R : Result → Shared → Prop} {name : Str} {tk : Tok} {v : Value} {ox : Obj} {od : Option Obj} {E : Value → Shared → Prop}

/-- the field 0 of an exception is put anew -/
theorem bexcPut0 {a0 v : Value} {dx : Option Addr} {pre post : List (Addr × Obj)} {Q : Unit → Shared → Prop} (F : Fr h₀ L s.heap m) (N : News h₀ L s.heap (pre ++ (x, xObj C dx (excF a0)) :: post))
    (h1 : ∀ p ∈ pre, p.1 ≠ x) (h2 : ∀ p ∈ post, p.1 ≠ x) (h : ∀ h', Fr h₀ L h' m → News h₀ L h' (pre ++ (x, xObj C dx (excF v)) :: post) → Q () { s with heap := h' }) :
    wpAny (model prog w) A (Builtin.BaseException.bexcPut (.ref x) 0 v []) Q E s := by
  have Dx := (N (x, xObj C dx (excF a0)) (by simp)).1
  obtain ⟨F1, N1⟩ := news_upd (f := Obj.mapFields (·.setIfInBounds 0 v)) F N h1 h2 (o' := xObj C dx (excF v)) rfl rfl
  unfold Builtin.BaseException.bexcPut
  refine wpAny_bind (wpAny_field Dx rfl (by rfl) ?_)
  unfold setField updateField
  refine wpAny_bind (wpAny_bind (wpAny_load Dx ?_))
  dsimp only
  rw [if_pos (show 0 < (excF a0).size from Nat.zero_lt_succ _)]
  refine wpAny_update' Dx ?_
  have key : Q () { s with heap := s.heap.update x (Obj.mapFields fun x => x.setIfInBounds 0 v) } := h _ F1 N1
  cases a0 <;> first | exact wpAny_pure key | exact wpAny_letGo key

theorem args_setX {a0 : Value} {t : Addr} {items : Array Value} {dx : Option Addr} {pre post : List (Addr × Obj)} (F : Fr h₀ L s.heap m) (N : News h₀ L s.heap (pre ++ (x, xObj C dx (excF a0)) :: post)) (X : K.In s.heap) (hx : XCls K C)
    (I : PySem.W.InstAt s.heap x (xObj C dx (excF a0)) C od) (ht : takerIn K C "args" = some (some (.builtin "BaseException.args"))) (hi : IsTup s.heap t items)
    (h1 : ∀ p ∈ pre, p.1 ≠ x) (h2 : ∀ p ∈ post, p.1 ≠ x)
    (h : ∀ h', Fr h₀ L h' m → News h₀ L h' (pre ++ (x, xObj C dx (excF (.ref t))) :: post) → R (.ok (.ret .none)) { s with heap := h' }) :
    codeAny (model prog w) A (.call (.builtin "object.__setattr__") ⟨[.ref x, .str "args" tk, .ref t], []⟩) R s := by
  have Y := makesX_of (M := model prog w) X hx
  have hT : Looks (model prog w) s.heap (isInstance (.ref x) (.type "BaseException")) true := I.type.andThen Y.bexc
  refine osa_openX X I hx ht fun b => ?_
  show wpAny _ _ (setByDescriptor _ _ _) _ _ _
  unfold setByDescriptor callSpecial? specialOf
  refine wpAny_bind (wpAny_rule (wpAny_bind (wpAny_holding (wpAny_bind (wpAny_bind (XF.looks_type.here ((Looks.of_pure PySem.F.slot_gs_set.lookup).here ?_)))))))
  refine wpAny_holding ?_
  rw [PySem.F.slot_gs_set.bind]
  refine wpAny_bind (wpAny_pure (wpAny_bind (wpAny_call ?_)))
  have hT5 : s.TypeIs (.builtin "BaseException.args") "getset_descriptor" := PySem.F.typeOf_bexc_args
  refine codeAny_call_builtin PySem.F.slot_gs_set.plain XF.entry_gs_set (PySem.F.slot_gs_set.check _ _ _ _ _ _ _ _ hT5 (XF.args_gs_set _ _ _) ?_)
  obtain ⟨hh, g, d, tk', os⟩ := s
  dsimp only at F N X h hT hi I ⊢
  unfold Builtin.«getset_descriptor.__set__» descrSet descrStoreThrough descrCheckInstance descrNameAndClass descrItself
  have hT' : Looks (model prog w) hh (isInstance (.ref x) (.type (".".intercalate ("BaseException.args".cutAt '.').dropLast))) true := by rw [PySem.F.owner_bexc_args]; exact hT
  repeat lk
  have es : "BaseException.args" ++ "#set" = "BaseException.args#set" := by decide +kernel
  rw [es]
  refine ⟨Code.quiet_builtin _ (by decide +kernel), codeAny_builtin XF.entry_args_set ?_⟩
  unfold Builtin.«BaseException.args#set»
  refine wpAny_bind (call_tuple_tup hi ?_)
  refine wpAny_bind (bexcPut0 (s := ⟨hh, g, d, tk', os⟩) F N h1 h2 fun h' F' N' => ?_)
  exact wpAny_pure (wpAny_pure (wpAny_pure (h h' F' N')))
end
end Mine
end
section
open PySem PySem.W PyProof.Rows PySem.Calls PySem.Builtin PySem.Builtin.ObjectAttr PySem.Builtin.Getset_descriptor
set_option maxRecDepth 100000
set_option maxHeartbeats 4000000
namespace Mine
theorem upd_det {d : Addr} {o o' : Obj} : ∀ {l l' : List (Addr × Obj)}, Upd d o o' l l' → ∀ {pre post}, l = pre ++ (d, o) :: post → (∀ p ∈ pre, p.1 ≠ d) → l' = pre ++ (d, o') :: post
  | _, _, .head (r := r) _, pre, post, e, hp => by
    cases pre with
    | nil => cases e; rfl
    | cons q pre => cases e; exact absurd rfl (hp _ (.head _))
  | _, _, .tail (p := p) hn u, pre, post, e, hp => by
    cases pre with
    | nil => cases e; exact absurd rfl hn
    | cons q pre =>
      cases e
      rw [upd_det u rfl fun x hx => hp x (.tail _ hx)]
      rfl
theorem upd_mem {d : Addr} {o o' : Obj} : ∀ {l l' : List (Addr × Obj)}, Upd d o o' l l' → (d, o) ∈ l
  | _, _, .head _ => .head _
  | _, _, .tail _ u => .tail _ (upd_mem u)
section
variable {prog : Program} {w : World} {A : Around} {K : Frag} {C x L : Addr} {s : Shared} {h₀ : Heap} {m : Str → Option Value} {news : List (Addr × Obj)} {news' : Addr → List (Addr × Obj)} {R : Result → Shared → Prop} {name : Str} {tk : Tok} {v : Value} {ox : Obj} {od : Option Obj} {E : Value → Shared → Prop}

theorem set_newK {vs : Array Value} {Q : Unit → Shared → Prop} (F : Fr h₀ L s.heap m) (X₀ : K.In h₀) (N : News h₀ L s.heap news) (hx : XCls K C) (ht : takerIn K C name = some none)
    (U : ∀ dx, Upd x (xObj C none vs) (xObj C (some dx) vs) news (news' dx))
    (h : ∀ dx h', Fr h₀ L h' m → News h₀ L h' ((dx, dictOf [⟨PyData.keyHash w.params name, .str name (s.toks + 1), v⟩] 1) :: news' dx) → (∀ p ∈ news, p.1 < dx) → Q () { s with heap := h', toks := s.toks + 2 }) :
    wpAny (model prog w) A (setAttr (.ref x) name v) Q E s := by
  have X := X₀.keeps F.keep
  have Dx := (N _ (upd_mem (U 0))).1
  have I : PySem.W.InstAt s.heap x (xObj C none vs) C none := ⟨Dx, rfl, rfl, trivial⟩
  obtain ⟨pre, post, e1, _, a, b⟩ := (U 0).split
  refine set_plain X I hx.set ?_
  subst e1
  refine osa_newX (s := { s with toks := s.toks + 1 }) F N X hx ht a b fun dx h' F' N' l => ?_
  refine h dx h' F' ?_ l
  rw [upd_det (U dx) rfl a]
  exact N'

theorem set_dictK {news' : List (Addr × Obj)} {dx : Addr} {es es' : List DictEntry} {n n' : Nat} {Q : Unit → Shared → Prop} (F : Fr h₀ L s.heap m) (X₀ : K.In h₀) (N : News h₀ L s.heap news) (I : PySem.W.InstAt s.heap x ox C (some (dictOf es n))) (hd : ox.dict = some dx)
    (hx : XCls K C) (ht : takerIn K C name = some none) (hl : (getL name es).isSome = true)
    (e : (putL name (PyData.keyHash w.params name) (.str name (s.toks + 1)) v es, putN name es n) = (es', n')) (U : Upd dx (dictOf es n) (dictOf es' n') news news') (hz : es'.length ≤ 1000)
    (h : ∀ h', Fr h₀ L h' m → News h₀ L h' news' → Q () { s with heap := h', toks := s.toks + 2 }) :
    wpAny (model prog w) A (setAttr (.ref x) name v) Q E s := by
  obtain ⟨pre, post, rfl, rfl, a, b⟩ := U.split
  obtain ⟨e1, e2⟩ := Prod.mk.inj e
  exact set_plain (X₀.keeps F.keep) I hx.set (osa_dictX (s := { s with toks := s.toks + 1 }) F N (X₀.keeps F.keep) I hd hx ht hl a b (by rw [putName_dict, e1, e2]) rfl hz fun h' F' N' => h h' F' N')

theorem set_argsK {news' : List (Addr × Obj)} {dx : Option Addr} {a0 : Value} {t : Addr} {items : Array Value} {Q : Unit → Shared → Prop} (F : Fr h₀ L s.heap m) (X₀ : K.In h₀) (N : News h₀ L s.heap news) (I : PySem.W.InstAt s.heap x (xObj C dx (excF a0)) C od)
    (hx : XCls K C) (ht : takerIn K C "args" = some (some (.builtin "BaseException.args"))) (hi : IsTup s.heap t items) (U : Upd x (xObj C dx (excF a0)) (xObj C dx (excF (.ref t))) news news')
    (h : ∀ h', Fr h₀ L h' m → News h₀ L h' news' → Q () { s with heap := h', toks := s.toks + 1 }) :
    wpAny (model prog w) A (setAttr (.ref x) "args" (.ref t)) Q E s := by
  obtain ⟨pre, post, rfl, rfl, a, b⟩ := U.split
  exact set_plain (X₀.keeps F.keep) I hx.set (args_setX (s := { s with toks := s.toks + 1 }) F N (X₀.keeps F.keep) hx I ht hi a b fun h' F' N' => h h' F' N')

theorem init_K {dx : Option Addr} {a0 : Value} {rest : List Value} {Q : Value → Shared → Prop} (F : Fr h₀ L s.heap m) (X₀ : K.In h₀) (N : News h₀ L s.heap news) (hx : XCls K C) (hrest : rest.length ≤ 1000)
    (U : ∀ tx, Upd x (xObj C dx (excF a0)) (xObj C dx (excF (.ref tx))) news (news' tx))
    (h : ∀ tx h', Fr h₀ L h' m → News h₀ L h' ((tx, tupObj rest) :: news' tx) → (∀ p ∈ news, p.1 < tx) → Q .none { s with heap := h' }) :
    wpAny (model prog w) A (call (.builtin "Exception.__init__") (.ref x :: rest)) Q E s := by
  have X := X₀.keeps F.keep
  have EF := PySem.F.excBase_Exception
  have Y := makesX_of (M := model prog w) X hx
  have Dx := (N _ (upd_mem (U 0))).1
  have hT : Looks (model prog w) s.heap (isInstance (.ref x) (.type "Exception")) true := ((Looks.ld Dx).andThen .now).andThen Y.exc
  obtain ⟨pre, post, e1, _, a, b⟩ := (U 0).split
  subst e1
  have hlt : ∀ p ∈ pre ++ (x, xObj C dx (excF a0)) :: post, p.1 < s.heap.objs.size := fun p hp => Heap.lt_size (N p hp).1
  have hxlt : x < s.heap.objs.size := Heap.lt_size Dx
  refine wpAny_call (codeAny_call_builtin EF.init.plain EF.initEntry ?_)
  have hshort := EF.noStar
  simp only [checkBuiltinCall, EF.initKind, EF.initSplit, EF.initRow]
  obtain ⟨hh, g, d, tk', os⟩ := s
  dsimp only at F N X h hT Dx hlt hxlt ⊢
  obtain ⟨oc, odd, cd, sl, ho, hc, e2, ed, e3, ne, e5, ex⟩ := hx.parts
  have LC := X _ _ ho
  refine wpAny_bind (hT.at ?_)
  repeat (first | simp only [Bool.false_eq_true, if_false, Bool.not_true] | rw [show ∀ (a b : String) (n : Nat), Bind.check ⟨.positional, "*", "Exception", .self, [⟨"args", .varPos, false⟩]⟩ a b n (List.map (fun x => x.fst) ({ pos := Value.ref x :: rest } : Args).kw) = pure () from fun a b n => check_star_args _ _ _ _ _ _] | lk)
  rw [if_neg (by rw [List.size_toArray, sizeLine_eq]; omega)]
  refine wpAny_bind (wpAny_alloc' (wpAny_pure ?_))
  have F1 := F.push (tupObj rest)
  have N1 : News h₀ L (hh.push (tupObj rest)) (((hh.objs.size, tupObj rest) :: pre) ++ (x, xObj C dx (excF a0)) :: post) := N.push F (tupObj rest)
  refine wpAny_bind (bexcPut0 (s := ⟨hh.push (tupObj rest), g, d, tk', os⟩) F1 N1 (fun p hp => by
      rcases List.mem_cons.mp hp with rfl | hp
      · exact Nat.ne_of_gt hxlt
      · exact a p hp) b fun h' F' N' => ?_)
  refine wpAny_pure (h hh.objs.size h' F' ?_ hlt)
  rw [upd_det (U hh.objs.size) rfl a]
  exact N'

/-- what an attribute of an exception's is read by -/
theorem get_openX {expr : Bool} {Q : Value → Shared → Prop} {r : Found} (X : K.In s.heap) (hx : XCls K C) (I : PySem.W.InstAt s.heap x ox C od) (hf : findObj K C od name = some r)
    (h : wpAny (model prog w) A.in1 (match r with | .value v => ret v | .bind g a => bindTo g a (.ref x) (.ref C) | .missing => unsupported "no")
      (fun fin s' => match fin with | .done (.ret v) => wpAny (model prog w) A (handedOut v) Q E s' | _ => False) (fun _ _ => False) { s with toks := s.toks + 1 }) :
    wpAny (model prog w) A (getAttr (.ref x) name expr) Q E s := by
  have Y := makesX_of (M := model prog w) X hx
  have hT : Looks (model prog w) s.heap (isInstance (.ref x) (.type "BaseException")) true := I.type.andThen Y.bexc
  have L0 := I.type (M := model prog w)
  have L1 := looks_findIn (M := model prog w) X hx.get
  have L2 := looks_findIn (M := model prog w) X hx.hook
  have L3 := looks_find (M := model prog w) X I hf
  have FB := PySem.F.attr_ValueError
  obtain ⟨hh, g, d, tk', os⟩ := s
  dsimp only at X I hT L0 L1 L2 L3 h ⊢
  unfold getAttr getAttrBy
  refine wpAny_bind (wpAny_mkText (wpAny_holding (wpAny_bind (L0.at (wpAny_bind (L1.at ?_))))))
  have hx2 : (Value.builtin "BaseException.__getattribute__" == Value.builtin "object.__getattribute__") = false := by decide +kernel
  dsimp only
  rw [hx2, Bool.and_false, if_neg (by decide)]
  unfold getAttrByItsOwn hookBefore
  refine wpAny_bind (L2.at ?_)
  refine wpAny_bind (wpAny_attempt ?_)
  unfold callGetattribute
  rw [show (expr && onTheHeap (Value.builtin "BaseException.__getattribute__")) = false from by cases expr <;> rfl, if_neg (by decide)]
  unfold boundAndCalled
  rw [FB.ga.bind]
  refine wpAny_holding (wpAny_bind (wpAny_pure (wpAny_call ?_)))
  show codeAny _ _ (.call (.builtin "BaseException.__getattribute__") ⟨[.ref x, .str name tk'], []⟩) _ _
  refine codeAny_call_builtin FB.ga.plain PySem.F.entry_bexc_ga (@check_slot (model prog w) _ _ ⟨hh, g, d, tk' + 1, os⟩ "BaseException.__getattribute__" "BaseException" "__getattribute__" (.ref x) [.str name tk'] [] _ (by decide +kernel) (by decide +kernel) hT (PySem.F.args_bexc_ga (.ref x) (.str name tk')) ?_)
  unfold Builtin.«object.__getattribute__»
  refine wpAny_bind (wpAny_pure (wpAny_bind (wpAny_pure (wpAny_bind (L0.at (wpAny_bind (L3.at ?_)))))))
  cases r with
  | missing => exact (fun Γ p hΓ => (h Γ p hΓ).elim)
  | value v =>
    refine wpAny_mono h (fun fin s' z => ?_) (fun _ _ z => z.elim)
    rcases fin with (_ | _ | _ | _) | _ <;> first | exact z | exact z.elim
  | bind g' a =>
    refine wpAny_mono h (fun fin s' z => ?_) (fun _ _ z => z.elim)
    rcases fin with (_ | _ | _ | _) | _ <;> first | exact z | exact z.elim

theorem get_ownX {expr : Bool} {es : List DictEntry} {n : Nat} {attr : Option Value} {Q : Value → Shared → Prop} (F : Fr h₀ L s.heap m) (X₀ : K.In h₀) (I : PySem.W.InstAt s.heap x ox C (some (dictOf es n))) (hx : XCls K C)
    (ha : findIn K (.ref C) name = some attr) (hn : noGet K attr = true) (hl : getL name es = some (some v)) (hv : handedIn v = true) (h : Q v { s with toks := s.toks + 1 }) :
    wpAny (model prog w) A (getAttr (.ref x) name expr) Q E s := by
  have hh : hasDictIn K C = true := by
    obtain ⟨oc, odd, cd, sl, ho, hc, e2, ed, e3, ne, e5, ex⟩ := hx.parts
    unfold hasDictIn; rw [hc]; exact ed
  refine get_openX (X₀.keeps F.keep) hx I (findObj_own hh ha hn hl) (wpAny_pure ?_)
  show wpAny _ _ (handedOut v) _ _ _
  rw [handedOut_of hv]; exact wpAny_pure h

theorem get_argsX {od' : Obj} {expr : Bool} {dx : Option Addr} {t : Addr} {Q : Value → Shared → Prop} (F : Fr h₀ L s.heap m) (X₀ : K.In h₀) (I : PySem.W.InstAt s.heap x (xObj C dx (excF (.ref t))) C (some od')) (hx : XCls K C)
    (ha : findIn K (.ref C) "args" = some (some (.builtin "BaseException.args"))) (hg : specialIn K (.builtin "BaseException.args") "__get__" = some (some (.builtin "getset_descriptor.__get__"))) (ht : takesIn K (.builtin "BaseException.args") = some true)
    (h : Q (.ref t) { s with toks := s.toks + 1 }) : wpAny (model prog w) A (getAttr (.ref x) "args" expr) Q E s := by
  have X := X₀.keeps F.keep
  have Y := makesX_of (M := model prog w) X hx
  have hT : Looks (model prog w) s.heap (isInstance (.ref x) (.type "BaseException")) true := I.type.andThen Y.bexc
  have hI := I.at_
  refine get_openX X hx I (findObj_data (by obtain ⟨oc, odd, cd, sl, ho, hc, _⟩ := hx.parts; rw [hc]; rfl) ha hg ht) ?_
  dsimp only
  unfold bindTo
  dsimp only
  refine wpAny_bind (wpAny_holding (wpAny_call ?_))
  obtain ⟨hh, g, d, tk', os⟩ := s
  dsimp only at F I X hT h hI ⊢
  have hT5 : (⟨hh, g, d, tk' + 1, os⟩ : Shared).TypeIs (.builtin "BaseException.args") "getset_descriptor" := PySem.F.typeOf_bexc_args
  refine codeAny_call_builtin PySem.F.slot_gs_get.plain PySem.F.entry_gs_get (PySem.F.slot_gs_get.check _ _ _ _ _ _ _ _ hT5 (PySem.F.args_gs_get _ _ _) ?_)
  have hT' : Looks (model prog w) hh (isInstance (.ref x) (.type (".".intercalate ("BaseException.args".cutAt '.').dropLast))) true := by rw [PySem.F.owner_bexc_args]; exact hT
  have eo : descrOwnerAndName "BaseException.args" = ("BaseException", "args") := by
    have e0 : "BaseException.args".cutAt '.' = ["BaseException", "args"] := by first | rfl | decide +kernel
    unfold descrOwnerAndName
    rw [e0]; decide +kernel
  have hT'' : Looks (model prog w) hh (isInstance (.ref x) (.type (descrOwnerAndName "BaseException.args").fst)) true := by rw [eo]; exact hT
  unfold Builtin.«getset_descriptor.__get__» descrGet descrGetter descrCheckInstance descrNameAndClass
  repeat lk
  refine ⟨Code.quiet_builtin _ (by decide +kernel), codeAny_builtin PySem.F.entry_bexc_args ?_⟩
  have hnd : (Value.ref t == doubtfulMember) = false := by first | rfl | decide | simp [doubtfulMember, rawInt]
  unfold Builtin.«BaseException.args»
  refine wpAny_bind (wpAny_field (x := .ref t) hI rfl (by rfl) ?_)
  rw [hnd, if_neg (by decide)]
  exact wpAny_pure (wpAny_pure (wpAny_pure h))
end
end Mine
end
section
open PySem PySem.W PyProof.Rows PySem.Calls PySem.Builtin
set_option maxRecDepth 100000
set_option maxHeartbeats 4000000
namespace Mine
/-- the figures of an int, as Python writes them -/
abbrev itext (n : Int) : PySem.Str := PySem.Str.ofString (toString n)
/-- the same, two signs wide at least -/
def pad2 (n : Int) : PySem.Str := if (itext n).length < 2 then PySem.Str.ofString " " ++ itext n else itext n

def dig (n : Int) : List Nat := (Nat.toDigits 10 n.natAbs).map Char.toNat
def raw2 (n : Int) : List Nat :=
  let sign : List Nat := if decide (n < 0) = true then [45] else []
  let ds := if (dig n).isEmpty = true then [] else List.replicate ((0 : Int).toNat - (dig n).length) 48 ++ dig n
  let pad := ((2 : Int) - ((sign.length : Int) + 0 + 0) - ds.length).toNat
  List.replicate pad 32 ++ sign ++ [] ++ List.replicate 0 32 ++ ds ++ [] ++ List.replicate 0 32

theorem itext_cps (n : Int) : (itext n).cps = ((if n < 0 then [45] else []) ++ dig n).toArray := by
  have hdg : ∀ m : Nat, (Nat.repr m).toList = Nat.toDigits 10 m := fun m => by unfold Nat.repr; rw [String.toList_ofList]
  unfold itext
  rw [PySem.Str.ofString_eq_toList]
  show ((toString n).toList.map Char.toNat).toArray = _
  congr 1
  cases n with
  | ofNat m =>
    rw [if_neg (show ¬ (Int.ofNat m < 0) from Int.not_lt.mpr (Int.natCast_nonneg m))]
    show ((Nat.repr m).toList.map Char.toNat) = _
    rw [hdg]
    rfl
  | negSucc m =>
    rw [if_pos (Int.negSucc_lt_zero m)]
    show (("-" ++ Nat.repr (m + 1)).toList.map Char.toNat) = _
    rw [String.toList_append, hdg]
    rfl
theorem dig_ne (n : Int) : dig n ≠ [] := by
  unfold dig
  intro h
  exact Nat.toDigits_ne_nil (List.map_eq_nil_iff.mp h)
theorem itext_len (n : Int) : (itext n).length = (if n < 0 then 1 else 0) + (dig n).length := by
  show (itext n).cps.size = _
  rw [itext_cps, List.size_toArray, List.length_append]
  split <;> rfl
theorem raw2_eq (n : Int) : (⟨(raw2 n).toArray⟩ : PySem.Str) = pad2 n := by
  have hne := dig_ne n
  have he : (dig n).isEmpty = false := by cases h : dig n with | nil => exact absurd h hne | cons _ _ => rfl
  have hpos : 0 < (dig n).length := List.length_pos_iff.mpr hne
  have e1 : raw2 n = List.replicate (2 - (itext n).length) 32 ++ ((if n < 0 then [45] else []) ++ dig n) := by
    rw [itext_len]
    unfold raw2
    simp only [he, Bool.false_eq_true, if_false, decide_eq_true_eq, Int.toNat_zero, Nat.zero_sub, List.replicate_zero, List.nil_append, List.append_nil, List.append_assoc]
    split
    · congr 2
      simp only [List.length_cons, List.length_nil]
      omega
    · congr 2
      simp only [List.length_nil]
      omega
  rw [e1]
  unfold pad2
  have hc := itext_cps n
  have hcp : (itext n) = ⟨((if n < 0 then [45] else []) ++ dig n).toArray⟩ := by
    cases h : itext n; rw [h] at hc; exact congrArg PySem.Str.mk hc
  have hl1 : 1 ≤ (itext n).length := by rw [itext_len]; omega
  by_cases hlt : (itext n).length < 2
  · have h2 : 2 - (itext n).length = 1 := by omega
    rw [if_pos hlt, h2]
    apply PySem.Str.ext'
    rw [PySem.Str.cps_append, hc, show (PySem.Str.ofString " ").cps = #[32] from by decide +kernel]
    simp
  · have h2 : 2 - (itext n).length = 0 := by omega
    rw [if_neg hlt, h2]
    apply PySem.Str.ext'
    rw [hc]
    rfl

theorem mk_is {M : Model} {A : Around} {E : Value → Shared → Prop} {s : Shared} {X T : PySem.Str} {Q : Value → Shared → Prop} (e : X = T) (hl : T.length ≤ sizeLine) (hq : Q (.str T s.toks) { s with toks := s.toks + 1 }) :
    wpAny M A (if X.length > sizeLine then Sem.unsupported "str:memory" else (do let k ← fresh; pure (Value.str X k))) Q E s := by
  subst e
  exact wpAny_mkStr hq hl

theorem fmt2d {M : Model} {A : Around} {E : Value → Shared → Prop} {h : Heap} {g : Array GenState} {d : Drawn} {tk : Nat} {os : OsState} {n : Int} {u t : Tok} {Q : PySem.Fin → Shared → Prop} (hd : n.natAbs.log2 < 1920) (hl : (pad2 n).length ≤ sizeLine)
   (hq : ∀ t' k, Q (.done (.ret (.str (pad2 n) t'))) ⟨h, g, d, k, os⟩) :
   wpAny M A (Builtin.«int.__format__» ⟨[.int n u, .str (PySem.Str.ofString "2d") t], []⟩) Q E ⟨h, g, d, tk, os⟩ := by
  unfold Builtin.«int.__format__»
  repeat lk
  rw [if_pos hd]
  repeat lk
  refine mk_is (T := pad2 n) ?_ hl ?_
  · rw [← raw2_eq]
    with_unfolding_all rfl
  · exact wpAny_pure (hq _ _)
end Mine
end
section
open PySem PySem.W PyProof.Rows PySem.Calls PySem.Builtin
set_option maxRecDepth 100000
set_option maxHeartbeats 4000000
namespace Mine
theorem itext_short {n : Int} (h1 : -(10 ^ 12) < n) (h2 : n < 10 ^ 12) : n.natAbs.log2 < 1920 := by
  have h3 : n.natAbs < 2 ^ 1920 := Nat.lt_of_lt_of_le (show n.natAbs < 10 ^ 12 by omega) (by decide +kernel)
  by_cases h0 : n.natAbs = 0
  · rw [h0]; decide
  · exact (Nat.log2_lt h0).mpr h3
theorem pad2_len {n : Int} (h1 : -(10 ^ 12) < n) (h2 : n < 10 ^ 12) : (pad2 n).length ≤ 20 := by
  have hd : (dig n).length ≤ 13 := by
    unfold dig
    rw [List.length_map]
    exact (Nat.length_toDigits_le_iff (by decide) (by decide)).mpr (by omega)
  have hl := itext_len n
  have : (itext n).length ≤ 14 := by split at hl <;> omega
  unfold pad2
  split
  · rw [PySem.Str.length_append, show (PySem.Str.ofString " ").length = 1 from by decide +kernel]; omega
  · omega
theorem itext_len_le {n : Int} (h1 : -(10 ^ 12) < n) (h2 : n < 10 ^ 12) : (itext n).length ≤ 14 := by
  have hd : (dig n).length ≤ 13 := by
    unfold dig
    rw [List.length_map]
    exact (Nat.length_toDigits_le_iff (by decide) (by decide)).mpr (by omega)
  have hl := itext_len n
  split at hl <;> omega
section
variable {prog : Program} {w : World} {A : Around} {E : Value → Shared → Prop} {s : Shared} {n : Int} {u t : Tok} {Q : Value → Shared → Prop}
theorem formatOf_2d (h1 : -(10 ^ 12) < n) (h2 : n < 10 ^ 12) (h : ∀ t' k, Q (.str (pad2 n) t') { s with toks := k }) : wpAny (model prog w) A (PySem.Builtin.Str.formatOf (.int n u) (PySem.Str.ofString "2d")) Q E s := by
  have hl : (pad2 n).length ≤ sizeLine := Nat.le_trans (pad2_len h1 h2) (by rw [sizeLine_eq]; decide)
  unfold PySem.Builtin.Str.formatOf
  refine wpAny_ite (KPc.ite_no (by rw [show ((PySem.Str.ofString "2d").length == 0) = false from by decide +kernel]; exact Bool.false_ne_true) ?_)
  refine wpAny_bind (wpAny_mkStr ?_ (by rw [sizeLine_eq]; decide +kernel))
  refine wpAny_bind (m := callSpecial? (.int n u) (PySem.Str.ofString "__format__") [.str (PySem.Str.ofString "2d") s.toks]) (wpAny_callSpecial?_slot (name := PySem.Str.ofString "__format__") (typeIs_int _ n u) PySem.F.slot_int_format
    (wpAny_call (codeAny_call_builtin PySem.F.slot_int_format.plain PySem.F.entry_int_format (PySem.F.slot_int_format.check _ _ _ _ _ _ _ _ (typeIs_int _ n u) (PySem.F.args_int_format_2 _ _) ?_))))
  obtain ⟨hh, g, d, tk, os⟩ := s
  refine fmt2d (itext_short h1 h2) hl fun t' k => ?_
  refine wpAny_bind (wpAny_of_eq (a := some (pad2 n)) rfl ?_)
  refine wpAny_ite (KPc.ite_no Bool.false_ne_true ?_)
  exact wpAny_pure (h t' k)
theorem line_2d (h1 : -(10 ^ 12) < n) (h2 : n < 10 ^ 12) (h : ∀ t' k, Q (.str (PySem.Str.ofString " [line " ++ pad2 n ++ PySem.Str.ofString "]") t') { s with toks := k }) :
    wpAny (model prog w) A (call (.builtin "str.format") [.str (PySem.Str.ofString " [line {0:2d}]") t, .int n u]) Q E s := by
  refine KFm.call_k (X' := ⟨#[32, 91, 108, 105, 110, 101, 32, 123, 48, 58, 50, 100, 125, 93]⟩) (by decide +kernel) (KFm.args_2 _ _) (KPc.meets_of ?_) h
  intro prog w A s Q E hq
  unfold Builtin.«str.format»
  refine wpAny_bind (wpAny_of_eq (a := (_, _, _)) rfl ?_)
  refine wpAny_bind ?_
  unfold Builtin.Str.buildString
  refine wpAny_bind ?_
  rw [KPc.range_list]
  refine KFm.start ?_
  intro _ _
  refine KPc.turn ?_
  kpc_if
  kpc_check
  refine wpAny_bind (wpAny_of_eq (a := (Value.int n u, PySem.Builtin.Str.Numbering.manual)) (by with_unfolding_all rfl) ?_)
  refine wpAny_bind (wpAny_holding (wpAny_of_eq (a := _) rfl ?_))
  kpc_if
  refine wpAny_bind (wpAny_pure ?_)
  refine wpAny_bind (wpAny_holding (formatOf_2d h1 h2 ?_))
  intro t' k
  refine wpAny_bind (wpAny_of_eq (a := some _) rfl ?_)
  refine wpAny_pure ?_
  refine KFm.after_field (by kpc_g) (by kpc_text) (by kpc_obj) (pad2_len h1 h2) (by kpc_obj) (by kfm_cat2) (by kfm_rest) ?_
  intro _ _
  kfm_turns
end
end Mine
end
section
open PySem PySem.W PyProof.Rows PySem.Calls PySem.Builtin
set_option maxRecDepth 100000
set_option maxHeartbeats 4000000
namespace Mine
section
variable {prog : Program} {w : World} {A : Around} {E : Value → Shared → Prop} {s : Shared} {Q : Value → Shared → Prop}
theorem under_gives {b : Nat} {T id : String} {B : PySem.Builtin} {v : Value} {x : PySem.Str} (hT : s.TypeIs v T) (slot : Slot T "__repr__" id) (hr : reprUnder? (.builtin id) = none)
    (entry : entryFor table id = some B) (args : argsOk id ⟨[v], []⟩) (g : Gives (B ⟨[v], []⟩) (.str x)) (hv : [v].any Value.onHeap = false) (hx : x.length ≤ sizeLine)
    (h : Q (.str x s.toks) { s with toks := s.toks + 1 }) : wpAny (model prog w) A (pyReprObjUnder b v) Q E s := by
  unfold pyReprObjUnder pyReprObjBy
  simp only [cRoomFor, hv, Bool.false_eq_true, if_false, pure_bind]
  refine wpAny_bind (wpAny_specialOf (name := Str.ofString "__repr__") hT slot.lookup ?_)
  refine wpAny_bind (wpAny_callSpecialIfBoundBy?_slotG (name := Str.ofString "__repr__") hT slot.toG ?_)
  simp only [hr]
  refine call_gives slot hT entry args g ⟨hx, ?_⟩
  exact wpAny_bind (wpAny_isInstance (T := "str") (b := true) rfl isSubtype_str_str (wpAny_pure h))
theorem under_str {b : Nat} {x : PySem.Str} {t : Tok} (hx : (reprText x).length ≤ sizeLine) (h : Q (.str (reprText x) s.toks) { s with toks := s.toks + 1 }) : wpAny (model prog w) A (pyReprObjUnder b (.str x t)) Q E s :=
  under_gives (typeIs_str s x t) PySem.F.slot_str_repr rfl PySem.F.entry_str_repr (PySem.F.args_str_repr_1 _) (gives_str_repr x t) rfl hx h
theorem opt_rr {x y : PySem.Str} {t t1 t2 : Tok} {b L : Addr} {k : Nat} {h₀ : Heap} {news : List (Addr × Obj)} (hx : (reprText x).length ≤ 4000000) (hy : (reprText y).length ≤ 4000000) (N : News h₀ L s.heap news) (hb : (b, ({ cls := .type "tuple", data := .seq #[.str x t1, .str y t2] k } : Obj)) ∈ news)
    (h : ∀ t' k, Q (.str (PySem.Str.ofString "No option " ++ reprText x ++ PySem.Str.ofString " in section: " ++ reprText y) t') { s with toks := k }) :
    wpAny (model prog w) A (binaryOp .Mod (.str (PySem.Str.ofString "No option %r in section: %r") t) (.ref b)) Q E s := by
  refine KPt.mod_tuple (X' := ⟨#[78, 111, 32, 111, 112, 116, 105, 111, 110, 32, 37, 114, 32, 105, 110, 32, 115, 101, 99, 116, 105, 111, 110, 58, 32, 37, 114]⟩) N hb (by decide +kernel) ?_ h
  apply KPt.meets_tup
  intro _ _ _ _ _ _ kptH _
  obtain ⟨kptO, kptG, kptC, kptN, kptD⟩ := kptH
  rw [KPt.entry_is_r]
  unfold Builtin.Str.percentFormat
  refine wpAny_bind (wpAny_isInstance (T := "tuple") ⟨kptO, kptG, kptC⟩ KPt.sub_tt ?_)
  refine wpAny_bind (KPt.asStr_ref kptG kptD ?_)
  refine wpAny_bind (KPt.fills_ref ⟨kptO, kptG, kptC⟩ ?_)
  intro _
  kpc_if
  refine wpAny_bind (wpAny_seqItems kptG kptD ?_)
  refine wpAny_bind (wpAny_pure ?_)
  refine wpAny_bind ?_
  rw [KPc.range_list]
  refine KPc.start ?_
  intro _ _
  refine KPc.turn ?_; kpc_check; (repeat kpc_if)
  refine wpAny_pure ?_; kpt_piece
  refine KPc.turn ?_; kpc_check; (repeat kpc_if)
  refine wpAny_bind ?_; refine wpAny_holding ?_; (repeat kpc_if)
  refine wpAny_bind (under_str (Nat.le_trans hx (by rw [sizeLine_eq]; decide)) ?_)
  refine wpAny_bind (wpAny_of_eq (a := some _) rfl ?_)
  refine wpAny_pure ?_; refine wpAny_pure ?_
  refine KPc.after_str (by kpc_g) hx (by kpc_obj) ?_; intro _ _
  refine KPc.turn ?_; kpc_check; (repeat kpc_if)
  refine wpAny_pure ?_; kpt_piece
  refine KPc.turn ?_; kpc_check; (repeat kpc_if)
  refine wpAny_bind ?_; refine wpAny_holding ?_; (repeat kpc_if)
  refine wpAny_bind (under_str (Nat.le_trans hy (by rw [sizeLine_eq]; decide)) ?_)
  refine wpAny_bind (wpAny_of_eq (a := some _) rfl ?_)
  refine wpAny_pure ?_; refine wpAny_pure ?_
  refine KPc.after_str (by kpc_g) hy (by kpc_obj) ?_; intro _ _
  kpt_turns
end
end Mine
end
section
open PySem PySem.W PyProof.Rows PySem.Calls PySem.Builtin PySem.Builtin.Str
set_option maxRecDepth 100000
set_option maxHeartbeats 4000000
namespace Mine
section
variable {M : Model} {A : Around} {E : Value → Shared → Prop} {s : Shared} {l : List Nat} {p : List Value} {r : List Nat}
  {f : Nat → List Value × Writer × List Nat → Sem (ForInStep (List Value × Writer × List Nat))} {Q : List Value × Writer × List Nat → Shared → Prop}
  {w : Writer} {T x y : PySem.Str} {N K : Nat} {o : Option Value}
end
section
variable {prog : Program} {w : World} {A : Around} {E : Value → Shared → Prop} {s : Shared} {Q : Value → Shared → Prop}
end
end Mine
end
section
open PySem PySem.W PyProof.Rows PySem.Calls PySem.Builtin
set_option maxRecDepth 100000
set_option maxHeartbeats 4000000
namespace Mine
def catS : List PySem.Str → PySem.Str
  | [] => PySem.Str.ofString ""
  | [a] => a
  | a :: b :: r => a ++ catS (b :: r)
theorem join_catS : ∀ ys : List PySem.Str, PySem.Str.join (PySem.Str.ofString "") ys = catS ys
  | [] => by rfl
  | [a] => rfl
  | a :: b :: r => by
    have ih := join_catS (b :: r)
    show a ++ PySem.Str.ofString "" ++ PySem.Str.join (PySem.Str.ofString "") (b :: r) = a ++ catS (b :: r)
    rw [ih, KFm.cat_t]
theorem glue_cat (ys : List PySem.Str) : PySem.Txt.join (PySem.Str.ofString "") ys = catS ys := (StrLaws.glued_eq_join _ ys).trans (join_catS ys)
theorem sum_le (B : Nat) : ∀ ys : List PySem.Str, (∀ y ∈ ys, y.length ≤ B) → (ys.map (·.length)).sum ≤ ys.length * B
  | [], _ => Nat.zero_le _
  | a :: r, h => by
    have := sum_le B r fun y hy => h y (.tail _ hy)
    have h1 := h a (.head _)
    rw [List.map_cons, List.sum_cons, List.length_cons, Nat.succ_mul]
    omega
theorem line_len {n : Int} (h1 : -(10 ^ 12) < n) (h2 : n < 10 ^ 12) : (PySem.Str.ofString " [line " ++ pad2 n ++ PySem.Str.ofString "]").length ≤ 5000 := by
  have := pad2_len h1 h2
  rw [PySem.Str.length_append, PySem.Str.length_append, show (PySem.Str.ofString " [line ").length = 7 from by decide +kernel, show (PySem.Str.ofString "]").length = 1 from by decide +kernel]
  omega
section
variable {prog : Program} {w : World} {A : Around} {E : Value → Shared → Prop} {s : Shared} {Q : Value → Shared → Prop}
theorem join_cat {D L : Addr} {h₀ : Heap} {us : List Value} {n : Nat} {ys : List PySem.Str} {t : Tok} {news : List (Addr × Obj)} (N : News h₀ L s.heap news) (hm : (D, W.listOf us.toArray n) ∈ news) (hi : StrsAre us ys) (hB : ∀ y ∈ ys, y.length ≤ 5000) (hn : ys.length ≤ 1000)
    (h : ∀ t' k, Q (.str (catS ys) t') { s with toks := k }) : wpAny (model prog w) A (call (.builtin "str.join") [.str (PySem.Str.ofString "") t, .ref D]) Q E s := by
  have hl : s.heap.IsList D us.toArray := ⟨_, (N _ hm).1, rfl, n, rfl⟩
  refine join_listC hl hi (by decide +kernel) ?_ (by rw [glue_cat]; exact h)
  have := sum_le 5000 ys hB
  omega
end
end Mine
end
section
open PySem PySem.W PyProof.Rows PySem.Calls PySem.Builtin PySem.Builtin.ObjectAttr PySem.Builtin.Getset_descriptor
set_option maxRecDepth 100000
set_option maxHeartbeats 4000000
namespace Mine
section
variable {prog : Program} {w : World} {A A₀ : Around} {K : Frag} {C x L : Addr} {s : Shared} {h₀ base : Heap} {m mg mb : PySem.Str → Option Value} {news : List (Addr × Obj)} {R : Result → Shared → Prop} {p : Program} {loose : List PySem.Str} {mean : ExcName → Option Value}

theorem code_defG {env : Env} {outer : List Env} {name qual : PySem.Str} {params : Arguments} {body : List Stmt} {scope : Scope} {dV kV doc pm cdv ct oc : Value} {an od : Option Addr} {osl : Array (Option Value)} {f : Addr} {args : Args} {binds : List (PySem.Str × Value)}
    (B : Below A₀ base outer h₀) (F : Fr h₀ L s.heap m) (X₀ : K.In h₀) (N : News h₀ L s.heap news) (T : Top p loose mean mg mb h₀) (hA : A.frames = some (env :: outer)) (hf : env.frame = some L) (hke : env.scope.kind = .function)
    (ho : K.lookup f = some ⟨oc, od, .func (fnOf name qual params body scope dV kV doc pm an cdv ct), osl⟩) (hcd : codeIn K cdv qual = true) (hroom : A.depth < recursionLimit)
    (hbind : BindsTo s (fnOf name qual params body scope dV kV doc pm an cdv ct) args binds) (hloc : ∀ y ∈ binds, scope.names.lookup y.1 = some .local)
    (h : ∀ g L' h₁ tk', (∀ b o, s.heap.get? b = some o → b ∉ news.map (·.1) → g.get? b = some o) → Fr h₀ L g m → Fr g L' h₁ (fun y => binds.reverse.lookup y) → News g L' h₁ news → Below A base (env :: outer) g → K.In g → Top p loose mean mg mb g → (∀ p ∈ news, p.1 < L') →
      wpAny (model prog w) (A.deeper (envOf qual scope L' f cdv)) (execs body (envOf qual scope L' f cdv))
        (fun fl s' => LeaveK h₀ L m g R (match fl with | .ret v => v | _ => .none) s')
        (fun e s' => wpAny (model prog w) (A.deeper (envOf qual scope L' f cdv)) («leaving» (envOf qual scope L' f cdv) e) (fun _ s'' => R (.error e) s'') (fun e' s'' => R (.error e') s'') s')
        { s with heap := h₁, toks := tk' })
    (hco : scope.isCoroutine = false) (hgen : scope.isGenerator = false) (hk : scope.kind = .function)
    (hcell : ∀ x ∈ scope.names, x.2 ≠ .cell) : codeAny (model prog w) A (.call (.ref f) args) R s := by
  obtain ⟨FG, BG, st, lv⟩ := groundX (R := R) B F N hA hf hke
  refine codeAny_call_def (fd := fnOf name qual params body scope dV kV doc pm an cdv ct) (body := body) (binds := binds) hroom ((X₀.keeps F.keep) _ _ ho) rfl (T.nolimit.keeps F.keep) (codeRec_of (X₀.keeps F.keep) hcd) rfl hbind hcell hloc (fun h₁ hns hk₁ => ?_) hco hgen hk
  exact wpAny_mono (h _ s.heap.objs.size h₁ _ (fun b o e hb => hideAll_get _ e hb) FG ⟨hns, fun b o e => hk₁ b o (of_hideAll _ e), Nat.le_of_eq (hideAll_size _ _)⟩
    (fun p hp => ⟨hk₁ _ _ (N p hp).1, Nat.ne_of_lt (Heap.lt_size (N p hp).1), hideAll_none _ (List.mem_map_of_mem hp)⟩) BG (X₀.keeps st) (T.keeps st) (fun p hp => Heap.lt_size (N p hp).1)) (fun fl s' hl => lv _ _ hl) fun _ _ y => y

/-- a class of exceptions is called; the caller's ledger is not spoken of -/
theorem call_X0 {E : Value → Shared → Prop} {Q : Value → Shared → Prop} {pos : List Value} {kw : List (PySem.Str × Value)} {fI : Addr} (F : Fr h₀ L s.heap m) (X₀ : K.In h₀) (hm : XCls K C) (hi : findIn K (.ref C) "__init__" = some (some (.ref fI))) (hf : isFn K (.ref fI) = true)
    (hrest : pos.length ≤ 1000)
    (h : ∀ x tx h', (∀ b o, s.heap.get? b = some o → h'.get? b = some o ∧ b < tx) → Fr h₀ L h' m → News h₀ L h' [(x, excObj C tx none), (tx, tupObj pos)] → tx < x →
      codeAny (model prog w) (A.under (.builtin "type.__call__" ⟨.ref C :: pos, kw⟩)) (.call (.ref fI) ⟨.ref x :: pos, kw⟩) (InitBack x fun r s' => match r with | .ok (.ret v) => Q v s' | .ok _ => False | .error e => E e s') { s with heap := h' }) :
    wpAny (model prog w) A (call (.ref C) pos kw) Q E s := by
  refine wpAny_call ?_
  have X := X₀.keeps F.keep
  obtain ⟨hh, g, d, t, os⟩ := s
  dsimp only at F X h
  refine make_X_core (makesX_of X hm) (Nat.le_trans hrest (by rw [sizeLine_eq]; decide)) (looks_findIn X hi) (fun self => bind_fn X self (beq_iff_eq.mp hf)) (h _ hh.objs.size _ (fun b o e => ⟨Heap.get?_push_of_some _ (Heap.get?_push_of_some _ e), Heap.lt_size e⟩) ((F.push _).push _) ?_ (Nat.lt_succ_self _))
  have := ((News.nil (h₀ := h₀) (h := hh) (L := L)).push F (tupObj pos)).push (F.push _) (excObj C hh.objs.size none)
  rwa [Heap.size_push] at this
end
theorem instX {h₀ h : Heap} {L x C dx : Addr} {news : List (Addr × Obj)} {od : Obj} {vs : Array Value} (N : News h₀ L h news) (h1 : (x, xObj C (some dx) vs) ∈ news) (h2 : (dx, od) ∈ news) :
    PySem.W.InstAt h x (xObj C (some dx) vs) C (some od) := ⟨(N _ h1).1, rfl, rfl, (N _ h2).1⟩
theorem news_lift {h₀ h h' : Heap} {L : Addr} {news made : List (Addr × Obj)} (N : News h₀ L h news) (Nm : News h₀ L h' made) (hk : ∀ b o, h.get? b = some o → h'.get? b = some o) : News h₀ L h' (made ++ news) := fun p hp =>
  (List.mem_append.mp hp).elim (Nm p) fun q => ⟨hk _ _ (N p q).1, (N p q).2⟩
/-- what an exception's __init__ leaves of the elder objects -/
theorem keep_X {h h' g h'' : Heap} {x tx L' C : Addr} {os : List Value} {m' : PySem.Str → Option Value} (hk : ∀ b o, h.get? b = some o → h'.get? b = some o ∧ b < tx) (l : tx < x)
    (hg : ∀ b o, h'.get? b = some o → b ∉ ([(x, excObj C tx none), (tx, tupObj os)] : List (Addr × Obj)).map (·.1) → g.get? b = some o) (F : Fr g L' h'' m') : ∀ b o, h.get? b = some o → h''.get? b = some o ∧ b < tx := fun b o e =>
  ⟨F.keep b o (hg b o (hk b o e).1 fun hm => by
    have lt := (hk b o e).2
    simp only [List.map_cons, List.map_nil, List.mem_cons, List.not_mem_nil, or_false] at hm
    rcases hm with rfl | rfl
    · exact absurd (Nat.lt_trans lt l) (Nat.lt_irrefl _)
    · exact absurd lt (Nat.lt_irrefl _)), (hk b o e).2⟩
/-- what repr gives of a value: the objects that stand stay, the ledger too -/
structure ReprAs (prog : Program) (w : World) (hB : Heap) (v : Value) (r : PySem.Str) : Prop where
  run : ∀ {A : Around} {E : Value → Shared → Prop} {s : Shared} {Q : Value → Shared → Prop} {h₀ : Heap} {L : Addr} {m : PySem.Str → Option Value} {news : List (Addr × Obj)}, Fr h₀ L s.heap m → News h₀ L s.heap news →
    (∀ b o, hB.get? b = some o → s.heap.get? b = some o) → A.units + 40 < cLine → A.guards = some [] →
    (∀ t' k h', Fr h₀ L h' m → News h₀ L h' news → Q (.str r t') { s with heap := h', toks := k }) → wpAny (model prog w) A (call (.builtin "repr") [v]) Q E s
  len : r.length ≤ 4000
theorem isNot_none' {M : Model} {A : Around} {E : Value → Shared → Prop} {s : Shared} {v : Value} {Q : Value → Shared → Prop} (hv : (v == Value.none) = false) (h : Q (.bool true) s) : wpAny M A (compareOp .IsNot v .none) Q E s :=
  isNot_none (by rw [hv]; exact h)
theorem le5 {x : PySem.Str} (h : x.length ≤ 4000) : x.length ≤ 5000 := Nat.le_trans h (by decide)
theorem news3 {h₀ h : Heap} {L : Addr} {news : List (Addr × Obj)} {p q r : Addr × Obj} (N : News h₀ L h news) (h1 : p ∈ news) (h2 : q ∈ news) (h3 : r ∈ news) : News h₀ L h [p, q, r] := fun x hx => by
  simp only [List.mem_cons, List.not_mem_nil, or_false] at hx
  rcases hx with rfl | rfl | rfl
  · exact N _ h1
  · exact N _ h2
  · exact N _ h3
end Mine
end
section
open PySem PySem.W PyProof.Rows PySem.Calls PySem.Builtin PySem.Builtin.ObjectAttr PySem.Builtin.Getset_descriptor
set_option maxRecDepth 100000
set_option maxHeartbeats 4000000
namespace Mine
section
variable {prog : Program} {w : World} {A : Around} {E : Value → Shared → Prop} {s : Shared} {K : Frag} {x C D : Addr} {ox : Obj} {od : Option Obj} {name : PySem.Str}
end
section
variable {prog : Program} {w : World} {A : Around} {E : Value → Shared → Prop} {s : Shared} {K : Frag} {x C D : Addr} {ox : Obj} {od : Obj}
variable (hx : XCls K D) (ha : findIn K (.ref D) "__class__" = some (some (.builtin "object.__class__")))
  (hn : specialIn K (.builtin "object.__class__") "__get__" = some (some (.builtin "getset_descriptor.__get__"))) (htk : takesIn K (.builtin "object.__class__") = some true) (hm : mroIn K D (.type "object") = some true)
include hx ha hn htk hm
end
section
variable {prog : Program} {w : World} {A : Around} {E : Value → Shared → Prop} {s : Shared} {K : Frag} {x C D f L : Addr} {ox : Obj} {od : Obj} {odo : Option Obj} {h₀ : Heap} {m : PySem.Str → Option Value} {Q : Value → Shared → Prop}
theorem str_F (F : Fr h₀ L s.heap m) (X₀ : K.In h₀) (I : PySem.W.InstAt s.heap x ox C odo) (hu : A.in1.in1.units < cLine) (hs : findIn K (.ref C) "__str__" = some (some (.ref f))) (hf : isFn K (.ref f) = true)
    (h : wpAny (model prog w) A.in1.in1 (call (.ref f) [.ref x]) (StrBack Q) E s) : wpAny (model prog w) A (call (.type "str") [.ref x]) Q E s :=
  kso_call hu (X₀.keeps F.keep) I hs hf h
end
theorem ite_no {c : Prop} [Decidable c] {P Q : Prop} (h : ¬ c) (q : Q) : if c then P else Q := by rw [if_neg h]; exact q
theorem bne_self (x : PySem.Str) : ¬ ((x != x) = true) := by simp
end Mine
end
section
open PySem PySem.W PyProof.Rows PySem.Calls PySem.Builtin
namespace Mine
theorem ite_ff {P Q : Prop} (q : Q) : if false = true then P else Q := by rw [if_neg (by decide)]; exact q
theorem ite_tt {P Q : Prop} (q : P) : if true = true then P else Q := by rw [if_pos rfl]; exact q
end Mine
end
section
open PySem PySem.W PyProof.Rows PySem.Calls PySem.Builtin
namespace Mine
theorem ne_l1 {a b : Nat} {Q : Prop} (h : a < b ∧ Q) : a ≠ b := Nat.ne_of_lt h.1
theorem ne_l1' {a b : Nat} (h : a < b) : a ≠ b := Nat.ne_of_lt h
theorem ne_r1 {a b : Nat} {Q : Prop} (h : b < a ∧ Q) : a ≠ b := Nat.ne_of_gt h.1
theorem ne_r1' {a b : Nat} (h : b < a) : a ≠ b := Nat.ne_of_gt h
theorem ne_l2 {a b : Nat} {P1 : Prop} {Q : Prop} (h : P1 ∧ a < b ∧ Q) : a ≠ b := Nat.ne_of_lt h.2.1
theorem ne_l2' {a b : Nat} {P1 : Prop} (h : P1 ∧ a < b) : a ≠ b := Nat.ne_of_lt h.2
theorem ne_r2 {a b : Nat} {P1 : Prop} {Q : Prop} (h : P1 ∧ b < a ∧ Q) : a ≠ b := Nat.ne_of_gt h.2.1
theorem ne_r2' {a b : Nat} {P1 : Prop} (h : P1 ∧ b < a) : a ≠ b := Nat.ne_of_gt h.2
theorem ne_l3 {a b : Nat} {P1 P2 : Prop} {Q : Prop} (h : P1 ∧ P2 ∧ a < b ∧ Q) : a ≠ b := Nat.ne_of_lt h.2.2.1
theorem ne_l3' {a b : Nat} {P1 P2 : Prop} (h : P1 ∧ P2 ∧ a < b) : a ≠ b := Nat.ne_of_lt h.2.2
theorem ne_r3 {a b : Nat} {P1 P2 : Prop} {Q : Prop} (h : P1 ∧ P2 ∧ b < a ∧ Q) : a ≠ b := Nat.ne_of_gt h.2.2.1
theorem ne_r3' {a b : Nat} {P1 P2 : Prop} (h : P1 ∧ P2 ∧ b < a) : a ≠ b := Nat.ne_of_gt h.2.2
theorem ne_l4 {a b : Nat} {P1 P2 P3 : Prop} {Q : Prop} (h : P1 ∧ P2 ∧ P3 ∧ a < b ∧ Q) : a ≠ b := Nat.ne_of_lt h.2.2.2.1
theorem ne_l4' {a b : Nat} {P1 P2 P3 : Prop} (h : P1 ∧ P2 ∧ P3 ∧ a < b) : a ≠ b := Nat.ne_of_lt h.2.2.2
theorem ne_r4 {a b : Nat} {P1 P2 P3 : Prop} {Q : Prop} (h : P1 ∧ P2 ∧ P3 ∧ b < a ∧ Q) : a ≠ b := Nat.ne_of_gt h.2.2.2.1
theorem ne_r4' {a b : Nat} {P1 P2 P3 : Prop} (h : P1 ∧ P2 ∧ P3 ∧ b < a) : a ≠ b := Nat.ne_of_gt h.2.2.2
theorem ne_l5 {a b : Nat} {P1 P2 P3 P4 : Prop} {Q : Prop} (h : P1 ∧ P2 ∧ P3 ∧ P4 ∧ a < b ∧ Q) : a ≠ b := Nat.ne_of_lt h.2.2.2.2.1
theorem ne_l5' {a b : Nat} {P1 P2 P3 P4 : Prop} (h : P1 ∧ P2 ∧ P3 ∧ P4 ∧ a < b) : a ≠ b := Nat.ne_of_lt h.2.2.2.2
theorem ne_r5 {a b : Nat} {P1 P2 P3 P4 : Prop} {Q : Prop} (h : P1 ∧ P2 ∧ P3 ∧ P4 ∧ b < a ∧ Q) : a ≠ b := Nat.ne_of_gt h.2.2.2.2.1
theorem ne_r5' {a b : Nat} {P1 P2 P3 P4 : Prop} (h : P1 ∧ P2 ∧ P3 ∧ P4 ∧ b < a) : a ≠ b := Nat.ne_of_gt h.2.2.2.2
theorem ne_l6 {a b : Nat} {P1 P2 P3 P4 P5 : Prop} {Q : Prop} (h : P1 ∧ P2 ∧ P3 ∧ P4 ∧ P5 ∧ a < b ∧ Q) : a ≠ b := Nat.ne_of_lt h.2.2.2.2.2.1
theorem ne_l6' {a b : Nat} {P1 P2 P3 P4 P5 : Prop} (h : P1 ∧ P2 ∧ P3 ∧ P4 ∧ P5 ∧ a < b) : a ≠ b := Nat.ne_of_lt h.2.2.2.2.2
theorem ne_r6 {a b : Nat} {P1 P2 P3 P4 P5 : Prop} {Q : Prop} (h : P1 ∧ P2 ∧ P3 ∧ P4 ∧ P5 ∧ b < a ∧ Q) : a ≠ b := Nat.ne_of_gt h.2.2.2.2.2.1
theorem ne_r6' {a b : Nat} {P1 P2 P3 P4 P5 : Prop} (h : P1 ∧ P2 ∧ P3 ∧ P4 ∧ P5 ∧ b < a) : a ≠ b := Nat.ne_of_gt h.2.2.2.2.2
theorem ne_l7 {a b : Nat} {P1 P2 P3 P4 P5 P6 : Prop} {Q : Prop} (h : P1 ∧ P2 ∧ P3 ∧ P4 ∧ P5 ∧ P6 ∧ a < b ∧ Q) : a ≠ b := Nat.ne_of_lt h.2.2.2.2.2.2.1
theorem ne_l7' {a b : Nat} {P1 P2 P3 P4 P5 P6 : Prop} (h : P1 ∧ P2 ∧ P3 ∧ P4 ∧ P5 ∧ P6 ∧ a < b) : a ≠ b := Nat.ne_of_lt h.2.2.2.2.2.2
theorem ne_r7 {a b : Nat} {P1 P2 P3 P4 P5 P6 : Prop} {Q : Prop} (h : P1 ∧ P2 ∧ P3 ∧ P4 ∧ P5 ∧ P6 ∧ b < a ∧ Q) : a ≠ b := Nat.ne_of_gt h.2.2.2.2.2.2.1
theorem ne_r7' {a b : Nat} {P1 P2 P3 P4 P5 P6 : Prop} (h : P1 ∧ P2 ∧ P3 ∧ P4 ∧ P5 ∧ P6 ∧ b < a) : a ≠ b := Nat.ne_of_gt h.2.2.2.2.2.2
theorem ne_l8 {a b : Nat} {P1 P2 P3 P4 P5 P6 P7 : Prop} {Q : Prop} (h : P1 ∧ P2 ∧ P3 ∧ P4 ∧ P5 ∧ P6 ∧ P7 ∧ a < b ∧ Q) : a ≠ b := Nat.ne_of_lt h.2.2.2.2.2.2.2.1
theorem ne_l8' {a b : Nat} {P1 P2 P3 P4 P5 P6 P7 : Prop} (h : P1 ∧ P2 ∧ P3 ∧ P4 ∧ P5 ∧ P6 ∧ P7 ∧ a < b) : a ≠ b := Nat.ne_of_lt h.2.2.2.2.2.2.2
theorem ne_r8 {a b : Nat} {P1 P2 P3 P4 P5 P6 P7 : Prop} {Q : Prop} (h : P1 ∧ P2 ∧ P3 ∧ P4 ∧ P5 ∧ P6 ∧ P7 ∧ b < a ∧ Q) : a ≠ b := Nat.ne_of_gt h.2.2.2.2.2.2.2.1
theorem ne_r8' {a b : Nat} {P1 P2 P3 P4 P5 P6 P7 : Prop} (h : P1 ∧ P2 ∧ P3 ∧ P4 ∧ P5 ∧ P6 ∧ P7 ∧ b < a) : a ≠ b := Nat.ne_of_gt h.2.2.2.2.2.2.2
theorem ne_l9 {a b : Nat} {P1 P2 P3 P4 P5 P6 P7 P8 : Prop} {Q : Prop} (h : P1 ∧ P2 ∧ P3 ∧ P4 ∧ P5 ∧ P6 ∧ P7 ∧ P8 ∧ a < b ∧ Q) : a ≠ b := Nat.ne_of_lt h.2.2.2.2.2.2.2.2.1
theorem ne_l9' {a b : Nat} {P1 P2 P3 P4 P5 P6 P7 P8 : Prop} (h : P1 ∧ P2 ∧ P3 ∧ P4 ∧ P5 ∧ P6 ∧ P7 ∧ P8 ∧ a < b) : a ≠ b := Nat.ne_of_lt h.2.2.2.2.2.2.2.2
theorem ne_r9 {a b : Nat} {P1 P2 P3 P4 P5 P6 P7 P8 : Prop} {Q : Prop} (h : P1 ∧ P2 ∧ P3 ∧ P4 ∧ P5 ∧ P6 ∧ P7 ∧ P8 ∧ b < a ∧ Q) : a ≠ b := Nat.ne_of_gt h.2.2.2.2.2.2.2.2.1
theorem ne_r9' {a b : Nat} {P1 P2 P3 P4 P5 P6 P7 P8 : Prop} (h : P1 ∧ P2 ∧ P3 ∧ P4 ∧ P5 ∧ P6 ∧ P7 ∧ P8 ∧ b < a) : a ≠ b := Nat.ne_of_gt h.2.2.2.2.2.2.2.2
end Mine
end
section
open PySem PySem.W PyProof.Rows PySem.Calls PySem.Builtin
set_option maxRecDepth 100000
set_option maxHeartbeats 4000000
namespace Mine
theorem units_under_kw (A : Around) (C : Addr) (vals : List Value) (kw : List (PySem.Str × Value)) : (A.under (.builtin "type.__call__" ⟨.ref C :: vals, kw⟩)).units = A.units + 1 := rfl
end Mine
namespace Mine
end Mine
namespace Mine
end Mine
end
section
open PySem PySem.W PyProof.Rows PySem.Calls PySem.Builtin
set_option maxRecDepth 100000
set_option maxHeartbeats 4000000
namespace Mine
theorem str_eq {x y : PySem.Str} (h : x.cps.toList = y.cps.toList) : x = y := PySem.Str.ext' (Array.ext' h)
theorem cps_app (x y : PySem.Str) : (x ++ y).cps.toList = x.cps.toList ++ y.cps.toList := by rw [PySem.Str.cps_append, Array.toList_append]
theorem len_cps (x : PySem.Str) : x.length = x.cps.toList.length := rfl
theorem slice_ij {x : PySem.Str} {i j : Nat} (h1 : i ≤ j) (h2 : j ≤ x.length) : (PySem.Txt.slice x (some (i : Int)) (some (j : Int))).cps.toList = (x.cps.toList.drop i).take (j - i) := by
  have h := slice_closes (x := x) (i := (i : Int)) (j := (j : Int)) ⟨Int.natCast_nonneg _, by omega, by rw [← len_cps]; omega⟩
  rw [beq_iff_eq.mp h]
  simp only [Int.toNat_natCast]
  congr 1
  omega
theorem slice_to {x : PySem.Str} {j : Nat} (h2 : j ≤ x.length) : (PySem.Txt.slice x none (some (j : Int))).cps.toList = x.cps.toList.take j := by
  have h := slice_closes_to (x := x) (j := (j : Int)) ⟨Int.natCast_nonneg _, by rw [← len_cps]; omega⟩
  rw [beq_iff_eq.mp h]
  simp
theorem slice_from {x : PySem.Str} {i : Nat} (h2 : i ≤ x.length) : (PySem.Txt.slice x (some (i : Int)) none).cps.toList = x.cps.toList.drop i := by
  have h := slice_from_eq (x := x) (i := (i : Int)) (b := (x.length : Int)) (Int.natCast_nonneg _) (by omega) rfl
  rw [h]
  simp only [Int.toNat_natCast]
  apply List.take_of_length_le
  rw [List.length_drop, ← len_cps]
  omega
section
variable {W O M C : PySem.Str}
end
theorem keep_0 {h g h' : Heap} {L' : Addr} {m' : PySem.Str → Option Value} (hg : ∀ b o, h.get? b = some o → b ∉ ([] : List (Addr × Obj)).map (·.1) → g.get? b = some o) (F : Fr g L' h' m') : ∀ b o, h.get? b = some o → h'.get? b = some o :=
  fun b o e => F.keep b o (hg b o e (by simp))
theorem is_none' {M : Model} {A : Around} {E : Value → Shared → Prop} {s : Shared} {v : Value} {Q : Value → Shared → Prop} (hv : (v == Value.none) = false) (h : Q (.bool false) s) : wpAny M A (compareOp .Is v .none) Q E s :=
  PySem.is_none (by rw [hv]; exact h)
end Mine
end
section
open PySem PySem.W PyProof.Rows PySem.Calls PySem.Builtin
set_option maxRecDepth 100000
set_option maxHeartbeats 4000000
namespace Mine
end Mine
end
section
open PySem PySem.W PyProof.Rows PySem.Calls PySem.Builtin PySem.Builtin.Str PySem.StrLaws
set_option maxRecDepth 100000
set_option maxHeartbeats 4000000
namespace Mine
section
variable {x : PySem.Str} {c lim : Nat}
def ostep (x : PySem.Str) (c lim : Nat) (st : Array Nat × Nat) (i : Nat) : Array Nat × Nat :=
  if ((st.fst.size < lim ∧ st.snd ≤ i) ∧ i + (⟨#[c]⟩ : PySem.Str).length ≤ x.length) ∧ subAt x ⟨#[c]⟩ i = true then (st.fst.push i, i + 1) else st
theorem occ_fold : ∀ (l : List Nat) (st : Array Nat × Nat), (forIn (m := Id) l st (occBody x ⟨#[c]⟩ x.length lim)).run = l.foldl (ostep x c lim) st
  | [], st => rfl
  | i :: r, st => by
    simp only [List.forIn_cons, List.foldl_cons, occBody]
    by_cases h : ((st.fst.size < lim ∧ st.snd ≤ i) ∧ i + (⟨#[c]⟩ : PySem.Str).length ≤ x.length) ∧ subAt x ⟨#[c]⟩ i = true
    · rw [if_pos h, ostep, if_pos h]
      exact occ_fold r _
    · rw [if_neg h, ostep, if_neg h]
      exact occ_fold r st
theorem fold_skip : ∀ (l : List Nat) (st : Array Nat × Nat), (∀ i ∈ l, x.cps.toList[i]? ≠ some c) → l.foldl (ostep x c lim) st = st
  | [], _, _ => rfl
  | i :: r, st, h => by
    rw [List.foldl_cons, ostep, if_neg (fun hh => h i (.head _) ((subAt_one x c i).mp ⟨hh.1.2, hh.2⟩))]
    exact fold_skip r st fun j hj => h j (.tail _ hj)
theorem step_hit {st : Array Nat × Nat} {i : Nat} (h1 : st.1.size < lim) (h2 : st.2 ≤ i) (h : x.cps.toList[i]? = some c) : ostep x c lim st i = (st.1.push i, i + 1) := by
  have hh := (subAt_one x c i).mpr h
  rw [ostep, if_pos ⟨⟨⟨h1, h2⟩, hh.1⟩, hh.2⟩]
end
theorem no_at {l : List Nat} {c i : Nat} (h : c ∉ l) : l[i]? ≠ some c := fun e => h (List.mem_of_getElem? e)
end Mine
end
section
open PySem PySem.W PyProof.Rows PySem.Calls PySem.Builtin
set_option maxRecDepth 100000
set_option maxHeartbeats 4000000
namespace Mine
section
variable {prog : Program} {w : World} {A : Around} {E : Value → Shared → Prop} {s : Shared} {Q : Value → Shared → Prop}
end
end Mine
end
section
open PySem PySem.W PyProof.Rows PySem.Calls PySem.Builtin
set_option maxRecDepth 100000
set_option maxHeartbeats 4000000
namespace Mine
/-- a value without parts -/
inductive Plain : Value → PyData → Prop
  | none : Plain .none .none
  | bool (b : Bool) : Plain (.bool b) (.bool b)
  | int (i : Int) (t : Tok) : Plain (.int i t) (.int i)
  | str (x : PySem.Str) (t : Tok) : PyData.strOk x = true → Plain (.str x t) (.str x)
inductive PlainAll : List Value → List PyData → Prop
  | nil : PlainAll [] []
  | cons {v : Value} {d : PyData} {vs : List Value} {ds : List PyData} : Plain v d → PlainAll vs ds → PlainAll (v :: vs) (d :: ds)
theorem Plain.reads {v : Value} {d : PyData} (p : Plain v d) (h : Heap) : Reads h v d [] := by cases p <;> constructor
theorem Plain.lay {v : Value} {d : PyData} (p : Plain v d) : d.canLay0 = true := by
  cases p with
  | none => rfl
  | bool => rfl
  | int => rfl
  | str x t h => simpa [PyData.canLay0] using h
theorem Plain.dep {v : Value} {d : PyData} (p : Plain v d) : d.depth ≤ 1 := by
  cases p <;> simp [PyData.depth]
theorem PlainAll.reads {vs : List Value} {ds : List PyData} (p : PlainAll vs ds) (h : Heap) : ReadsAll h vs ds [] := by
  induction p with
  | nil => exact .nil
  | cons q _ ih => exact ReadsAll.cons (as := []) (bs := []) (q.reads h) ih
theorem PlainAll.lay {vs : List Value} {ds : List PyData} (p : PlainAll vs ds) : PyData.canLayAll0 ds = true := by
  induction p with
  | nil => rfl
  | cons q _ ih => simp [PyData.canLayAll0, q.lay, ih]
theorem PlainAll.dep {vs : List Value} {ds : List PyData} (p : PlainAll vs ds) : PyData.depthAll ds ≤ 1 := by
  induction p with
  | nil => simp [PyData.depthAll]
  | cons q _ ih => have := q.dep; simp [PyData.depthAll]; omega
section
variable {prog : Program} {w : World} {A : Around} {E : Value → Shared → Prop} {s : Shared} {Q : Value → Shared → Prop} {h₀ : Heap} {L : Addr} {news : List (Addr × Obj)}
end
end Mine
end
section
open PySem PySem.W PyProof.Rows PySem.Calls PySem.Builtin
set_option maxRecDepth 100000
set_option maxHeartbeats 4000000
namespace Mine
section
variable {prog : Program} {w : World} {A : Around} {E : Value → Shared → Prop} {s : Shared} {Q : Value → Shared → Prop} {K : Frag} {x C D : Addr} {ox : Obj} {od : Option Obj}
variable {h₀ : Heap} {L : Addr} {news : List (Addr × Obj)}
end
end Mine
end
section
open PySem PySem.W PyProof.Rows PySem.Calls PySem.Builtin
set_option maxRecDepth 100000
set_option maxHeartbeats 4000000
namespace Mine
def figInv (n l : Int) (o : PySem.Str) : Prop := n.natAbs < 10 ^ 12 ∧ 0 ≤ l ∧ o.length ≤ 12 ∧ l * 10 ^ o.length ≤ n.natAbs ∧ ((o = PySem.Str.ofString "" ∧ l = n.natAbs) ∨ (0 < o.length ∧ itext n.natAbs = (if l = 0 then PySem.Str.ofString "" else itext l) ++ o))
theorem figInv.len {n l : Int} {o : PySem.Str} (h : figInv n l o) : o.length ≤ 12 := h.2.2.1
end Mine
end
section
open PySem PySem.W PyProof.Rows PySem.Calls PySem.Builtin PySem.Spec PyProof.Rows.LCg
set_option maxRecDepth 100000
set_option maxHeartbeats 4000000
namespace Mine
abbrev tupK (its : Array Value) (k : Nat) : Obj := { cls := .type "tuple", data := .seq its k }
section
variable {prog : Program} {w : World} {A : Around} {E : Value → Shared → Prop} {s : Shared} {h₀ : Heap} {L : Addr} {m : PySem.Str → Option Value} {env : Env}
def SrcT (prog : Program) (w : World) (A : Around) (h₀ : Heap) (L : Addr) (m : PySem.Str → Option Value) (env : Env) (elt : Expr) (x : PySem.Str) (scope : Scope) (cl : List (PySem.Str × Addr)) (Fin : Shared → List Value → List (Addr × Obj) → Prop) (xv : Value) (s₁ : Shared) : Prop :=
  ∃ ax its k news, xv = .ref ax ∧ A.handled = none ∧ Fr h₀ L s₁.heap m ∧ News h₀ L s₁.heap news ∧ (ax, tupK its k) ∈ news ∧ its.size ≤ sizeLine ∧
    ∀ s₂ : Shared, (∃ h, s₂ = { s₁ with heap := h }) → CompRest prog w A h₀ L m env elt x scope cl s₂ (fun nw => (ax, tupK its k) ∈ nw) (fun i v => its[i]? = some v) (Fin s₂) its.size 0 [] news
theorem SrcT.ledger {elt : Expr} {x : PySem.Str} {scope : Scope} {cl : List (PySem.Str × Addr)} {Fin : Shared → List Value → List (Addr × Obj) → Prop} {ax : Addr} {its : Array Value} {k : Nat} {news : List (Addr × Obj)} {s₁ : Shared}
    (hh : A.handled = none) (F : Fr h₀ L s₁.heap m) (N : News h₀ L s₁.heap news) (hm : (ax, tupK its k) ∈ news) (hsz : its.size ≤ sizeLine)
    (h : ∀ g, CompRest prog w A h₀ L m env elt x scope cl { s₁ with heap := g } (fun nw => (ax, tupK its k) ∈ nw) (fun i v => its[i]? = some v) (Fin { s₁ with heap := g }) its.size 0 [] news) :
    SrcT prog w A h₀ L m env elt x scope cl Fin (.ref ax) s₁ := ⟨ax, its, k, news, rfl, hh, F, N, hm, hsz, fun _ ⟨g, e⟩ => e ▸ h g⟩
end
end Mine
namespace Mine
open PySem PySem.W PyProof.Rows
theorem CompEnd.keep {h₀ : Heap} {L I C D : Addr} {m : PySem.Str → Option Value} {s₁ : Shared} {oI oC oD : Obj} {S : List (Addr × Obj) → Prop} {rest : Value → List (Addr × Obj) → Prop} {y : Value} {h' : Heap} {tk : Nat} {news' : List (Addr × Obj)}
    (F : Fr h₀ L h' m) (N : News h₀ L h' ((I, oI) :: (C, oC) :: (D, oD) :: news')) (off : LCg.Off3 I C D news') (hS : S news') (r : rest y news') :
    LCg.CompEnd h₀ L m s₁ I oI C oC D oD S rest y { s₁ with heap := h', toks := tk } := ⟨h', tk, news', rfl, F, N, off, hS, r⟩
end Mine
end
section
open PySem PySem.W PyProof.Rows PySem.Calls PySem.Builtin
set_option maxRecDepth 100000
set_option maxHeartbeats 4000000
namespace Mine
end Mine
end
section
open PySem PySem.W PyProof.Rows PySem.Calls PySem.Builtin
set_option maxRecDepth 100000
set_option maxHeartbeats 4000000
namespace Mine
section
variable {prog : Program} {w : World} {A : Around} {E : Value → Shared → Prop} {s : Shared} {u t : Tok}
end
end Mine
end
section
open PySem PySem.W PyProof.Rows PySem.Calls PySem.Builtin
namespace Mine
end Mine
namespace Mine
/-- what repr gives of a value, where the given objects stand -/
def ReprIn (prog : Program) (w : World) (news : List (Addr × Obj)) (v : Value) (r : PySem.Str) : Prop := ∀ hB : Heap, (∀ p ∈ news, hB.get? p.1 = some p.2) → ReprAs prog w hB v r
theorem ReprIn.run {prog : Program} {w : World} {objs : List (Addr × Obj)} {v : Value} {r : PySem.Str} (hr : ReprIn prog w objs v r) {A : Around} {E : Value → Shared → Prop} {s : Shared} {Q : Value → Shared → Prop} {h₀ : Heap} {L : Addr} {m : PySem.Str → Option Value} {news : List (Addr × Obj)} (F : Fr h₀ L s.heap m) (N : News h₀ L s.heap news)
    (sub : ∀ p ∈ objs, p ∈ news) (hu : A.units + 40 < cLine) (hg : A.guards = some [])
    (h : ∀ t' k h', Fr h₀ L h' m → News h₀ L h' news → Q (.str r t') { s with heap := h', toks := k }) : wpAny (model prog w) A (call (.builtin "repr") [v]) Q E s :=
  (hr s.heap fun p hp => (N p (sub p hp)).1).run F N (fun _ _ e => e) hu hg h
theorem ReprIn.len {prog : Program} {w : World} {objs : List (Addr × Obj)} {v : Value} {r : PySem.Str} {hB : Heap} (hr : ReprIn prog w objs v r) (hs : ∀ p ∈ objs, hB.get? p.1 = some p.2) : r.length ≤ 4000 := (hr hB hs).len
end Mine
end
section
set_option maxRecDepth 100000
namespace Mine
open PySem PySem.W PySem.Spec PySem.Calls PyProof.Rows
section
variable {prog : Program} {w : World} {A₀ : Around} {E : Value → Shared → Prop} {s' : Shared} {h₀ h : Heap} {outer : List Env} {L a e : Addr} {m : PySem.Str → Option Value} {name : PySem.Str} {scope : Scope} {cd : Value}
  {b₀ b₁ : Stmt} {suite suite₁ : List Stmt} {pos np pos₁ np₁ : Pos} {rest : List ExceptHandler} {Q : Flow → Shared → Prop} {news : List (Addr × Obj)}
  {p : Program} {loose : List PySem.Str} {mean : ExcName → Option Value} {mg mb : PySem.Str → Option Value} {x x₁ : PySem.Str} {X T' T₁ : String}
end
end Mine
end
section
open PySem PySem.W PyProof.Rows PySem.Calls PySem.Builtin PySem.Spec PyProof.Rows.LCg
set_option maxRecDepth 100000
set_option maxHeartbeats 200000
namespace Mine
def nth2 (a b : PySem.Str) : Nat → PySem.Str
  | 0 => a
  | _ + 1 => b
section
variable {prog : Program} {w : World} {A : Around} {E : Value → Shared → Prop} {s : Shared} {h₀ : Heap} {L : Addr} {m : PySem.Str → Option Value} {env : Env}
/-- a text of two signs as the source of a comprehension -/
def SrcS (prog : Program) (w : World) (A : Around) (h₀ : Heap) (L : Addr) (m : PySem.Str → Option Value) (env : Env) (elt : Expr) (x : PySem.Str) (scope : Scope) (cl : List (PySem.Str × Addr)) (Fin : Shared → List Value → List (Addr × Obj) → Prop) (xv : Value) (s₁ : Shared) : Prop :=
  ∃ (c d : Nat) (t : Tok) (news : List (Addr × Obj)), xv = .str ⟨#[c, d]⟩ t ∧ c < 128 ∧ d < 128 ∧ A.handled = none ∧ Fr h₀ L s₁.heap m ∧ News h₀ L s₁.heap news ∧
    ∀ s₂ : Shared, (∃ h, s₂ = { s₁ with heap := h }) → CompRest prog w A h₀ L m env elt x scope cl s₂ (fun _ => True) (fun i v => ∃ u, v = .str (nth2 ⟨#[c]⟩ ⟨#[d]⟩ i) u) (Fin s₂) 2 0 [] news
theorem SrcS.two {elt : Expr} {x : PySem.Str} {scope : Scope} {cl : List (PySem.Str × Addr)} {Fin : Shared → List Value → List (Addr × Obj) → Prop} {y : PySem.Str} {t : Tok} {c d : Nat} {news : List (Addr × Obj)} {s₁ : Shared}
    (hy : y = ⟨#[c, d]⟩) (hc : c < 128) (hd : d < 128) (hh : A.handled = none) (F : Fr h₀ L s₁.heap m) (N : News h₀ L s₁.heap news)
    (h : ∀ g, CompRest prog w A h₀ L m env elt x scope cl { s₁ with heap := g } (fun _ => True) (fun i v => ∃ u, v = .str (nth2 ⟨#[c]⟩ ⟨#[d]⟩ i) u) (Fin { s₁ with heap := g }) 2 0 [] news) :
    SrcS prog w A h₀ L m env elt x scope cl Fin (.str y t) s₁ := by
  subst hy
  unfold SrcS
  refine ⟨c, d, t, news, rfl, hc, hd, hh, F, N, ?_⟩
  intro s₂ e
  obtain ⟨g, rfl⟩ := e
  exact h g
theorem ListComp_str {elt iter : Expr} {x : PySem.Str} {px : Pos} {scope : Scope} {cl : List (PySem.Str × Addr)} {pos : Pos} {Q : Value → Shared → Prop} (F₀ : Fr h₀ L s.heap m)
    (hclos : closureFor scope env = pure cl) (hcell : ∀ y ∈ scope.names, y.2 ≠ .cell) (hkind : scope.kind = .function)
    (hnames : ∀ y ∈ scope.names, y.2 = .local → scope.names.lookup y.1 = some .local) (hx : scope.names.lookup x = some .local)
    (h : wpAny (model prog w) A (eval iter env) (SrcS prog w A h₀ L m env elt x scope cl (fun s₂ => FinE h₀ L m s₂ Q)) E s)
    (hs : ∀ x, foldedSetIterable iter env x = pure x := by intro _; rfl) :
    wpAny (model prog w) A (eval (.ListComp elt [⟨.Name x px, iter, [], 0⟩] scope pos) env) Q E s := by
  rw [eval_ListComp]
  refine wpAny_comprehension_free (use := none) rfl hs hclos hkind hnames (wpAny_mono h (fun xv s₁ h₁ => ?_) fun _ _ e => e)
  obtain ⟨c, d, t, news, rfl, hc, hd, hh, F, N, R⟩ := h₁
  refine wpAny_pyIter_ascii (by simp [hc, hd]) ?_
  have W0 := Walks.strAscii (prog := prog) (w := w) hh s₁.heap.objs.size ⟨#[c, d]⟩ t
  have W : Walks prog w A s₁.heap.objs.size [s₁.heap.objs.size] [s₁.heap.objs.size] 2 (fun i v => ∃ u, v = .str (nth2 ⟨#[c]⟩ ⟨#[d]⟩ i) u) (fun i h => h.IsStrIter s₁.heap.objs.size "str_ascii_iterator" ⟨#[c, d]⟩ t i) :=
    { sub := W0.sub, frame := W0.frame, done := W0.done, self := W0.self,
      item := fun i s Q E hi st hQ => W0.item i s Q E hi st fun v h' tk hP => hQ v h' tk (by
        obtain ⟨c', u, e, rfl⟩ := hP
        have hi2 : i = 0 ∨ i = 1 := by omega
        rcases hi2 with rfl | rfl
        · have e' : c = c' := by simpa using e
          subst e'; exact ⟨u, rfl⟩
        · have e' : d = c' := by simpa using e
          subst e'; exact ⟨u, rfl⟩) }
  have up : ∀ b o, s₁.heap.get? b = some o → (s₁.heap.push { cls := .type "str_ascii_iterator", data := .fields #[.str ⟨#[c, d]⟩ t, .int 0 0] }).get? b = some o := fun b o e => Heap.get?_push_of_some _ e
  refine block_U W (Nat.le_of_ble_eq_true rfl) (fun i h st => by obtain ⟨o, e, _⟩ := st; exact ⟨o, e⟩)
    (fun i h h' o nw st e e' kp N' S' => W.frame i h h' st fun b hb o₂ e₂ => by
      rw [List.mem_singleton.mp hb] at e₂ ⊢
      rw [e] at e₂; cases e₂; exact e') hcell hkind hx ⟨_, Heap.get?_push_size _ rfl, rfl, rfl⟩ (fun b hb => ?_)
    (F.keeps up) (N.grown up) (Nat.ne_of_lt F.ns.lt) (next_is_new F) (fun p hp => Nat.ne_of_lt (Heap.lt_size (N p hp).1)) True.intro (R _ ⟨_, rfl⟩) ?_
  · show b < (s₁.heap.push _).objs.size
    rw [Heap.size_push]
    rw [List.mem_singleton.mp hb]
    exact Nat.lt_succ_self _
  · intro D C h tk m' ys news' F' N' o1 hn hC₀ hD₀ hCL hDL hCD offC fin
    refine ⟨m', hn, fun h'' hs'' => fin D h'' tk (F'.change hs'' hCL hC₀) (fun p hp => ?_) o1⟩
    refine ⟨hs''.extBut _ _ ?_ (N' p hp).1, (N' p hp).2⟩
    rcases List.mem_cons.mp hp with rfl | hp
    · exact Ne.symm hCD
    · exact offC p hp
theorem Assign_ListComp_str {elt iter : Expr} {x y : PySem.Str} {px py : Pos} {scope : Scope} {cl : List (PySem.Str × Addr)} {pos spos : Pos} {Q : Flow → Shared → Prop} (F₀ : Fr h₀ L s.heap m) (hLe : env.locals = L)
    (hsw : swapsWith (.ListComp elt [⟨.Name x px, iter, [], 0⟩] scope pos) (some (.Name y py)) spos.line env = pure true)
    (hclos : closureFor scope env = pure cl) (hcell : ∀ z ∈ scope.names, z.2 ≠ .cell) (hkind : scope.kind = .function)
    (hnames : ∀ z ∈ scope.names, z.2 = .local → scope.names.lookup z.1 = some .local) (hx : scope.names.lookup x = some .local)
    (hy : env.kindOf y = some .local) (hp : (env.scope.kind == .class || (env.scope.kind == .module && env.locals != env.globals)) = false)
    (h : wpAny (model prog w) A (eval iter env) (SrcS prog w A h₀ L m env elt x scope cl (fun s₂ => FinA h₀ L m s₂ y Q)) E s)
    (hs : ∀ x, foldedSetIterable iter env x = pure x := by intro _; rfl) :
    wpAny (model prog w) A (exec (.Assign [.Name y py] (.ListComp elt [⟨.Name x px, iter, [], 0⟩] scope pos) spos) env) Q E s := by
  subst hLe
  rw [exec_Assign_Name_used _ _ _ _ hsw]
  refine wpAny_bind (wpAny_standAt (wpAny_bind ?_))
  show wpAny _ A (do let _ ← comprehension (.ListComp elt [⟨.Name x px, iter, [], 0⟩] scope pos) scope env _ (newList []) false (eval iter env) (some (assign (.Name y py) env))) _ _ s
  refine wpAny_bind (wpAny_mono (wpAny_comprehension_free (use := some (assign (.Name y py) env)) (Q := fun _ s' => Q .next s') rfl hs hclos hkind hnames
    (wpAny_mono h (fun xv s₁ h₁ => ?_) fun _ _ e => e)) (fun _ s' hq => wpAny_pure (wpAny_pure hq)) fun _ _ e => e)
  obtain ⟨c, d, t, news, rfl, hc, hd, hh, F, N, R⟩ := h₁
  refine wpAny_pyIter_ascii (by simp [hc, hd]) ?_
  have W0 := Walks.strAscii (prog := prog) (w := w) hh s₁.heap.objs.size ⟨#[c, d]⟩ t
  have W : Walks prog w A s₁.heap.objs.size [s₁.heap.objs.size] [s₁.heap.objs.size] 2 (fun i v => ∃ u, v = .str (nth2 ⟨#[c]⟩ ⟨#[d]⟩ i) u) (fun i h => h.IsStrIter s₁.heap.objs.size "str_ascii_iterator" ⟨#[c, d]⟩ t i) :=
    { sub := W0.sub, frame := W0.frame, done := W0.done, self := W0.self,
      item := fun i s Q E hi st hQ => W0.item i s Q E hi st fun v h' tk hP => hQ v h' tk (by
        obtain ⟨c', u, e, rfl⟩ := hP
        have hi2 : i = 0 ∨ i = 1 := by omega
        rcases hi2 with rfl | rfl
        · have e' : c = c' := by simpa using e
          subst e'; exact ⟨u, rfl⟩
        · have e' : d = c' := by simpa using e
          subst e'; exact ⟨u, rfl⟩) }
  have up : ∀ b o, s₁.heap.get? b = some o → (s₁.heap.push { cls := .type "str_ascii_iterator", data := .fields #[.str ⟨#[c, d]⟩ t, .int 0 0] }).get? b = some o := fun b o e => Heap.get?_push_of_some _ e
  refine block_U W (Nat.le_of_ble_eq_true rfl) (fun i h st => by obtain ⟨o, e, _⟩ := st; exact ⟨o, e⟩)
    (fun i h h' o nw st e e' kp N' S' => W.frame i h h' st fun b hb o₂ e₂ => by
      rw [List.mem_singleton.mp hb] at e₂ ⊢
      rw [e] at e₂; cases e₂; exact e') hcell hkind hx ⟨_, Heap.get?_push_size _ rfl, rfl, rfl⟩ (fun b hb => ?_)
    (F.keeps up) (N.grown up) (Nat.ne_of_lt F.ns.lt) (next_is_new F) (fun p hp => Nat.ne_of_lt (Heap.lt_size (N p hp).1)) True.intro (R _ ⟨_, rfl⟩) ?_
  · show b < (s₁.heap.push _).objs.size
    rw [Heap.size_push]
    rw [List.mem_singleton.mp hb]
    exact Nat.lt_succ_self _
  · intro D C h' tk m' ys news' F' N' o1 hn hC₀ hD₀ hCL hDL hCD offC fin
    show wpAny _ A (assign (.Name y py) env (.ref D)) _ _ _
    refine wpAny_assign_Name (wpAny_storeName_local hy F'.ns (fun h₂ hn₂ hs₂ => ?_) hp)
    have hL₀ : h₀.get? env.locals = none := Heap.get?_none_of_le F'.above
    have F₂ : Fr h₀ env.locals h₂ (fun z => if z = y then some (.ref D) else m z) := ⟨hn₂, fun b o e => hs₂.extBut b o (fun q => by rw [q, hL₀] at e; cases e) (F'.keep b o e), F'.above⟩
    refine ⟨m', hn.sameBut hs₂ hCL, fun h'' hs'' => fin D h'' _ (F₂.change hs'' hCL hC₀) (fun p hp => ?_) o1⟩
    have z : h₂.get? p.1 = some p.2 := hs₂.extBut _ _ (N' p hp).2.1 (N' p hp).1
    refine ⟨hs''.extBut _ _ ?_ z, (N' p hp).2⟩
    rcases List.mem_cons.mp hp with rfl | hp
    · exact Ne.symm hCD
    · exact offC p hp
end
end Mine
end
section
open PySem PySem.W PyProof.Rows PySem.Calls PySem.Builtin PySem.Spec PyProof.Rows.LCg
set_option maxRecDepth 100000
set_option maxHeartbeats 400000
namespace Mine
theorem AllObj_mono : ∀ {ws : List (Addr × String)} {k k' : List (Addr × Obj) → Prop}, (∀ its, k its → k' its) → AllObj ws k → AllObj ws k'
  | [], _, _, h, a => h _ a
  | _ :: _, _, _, h, a => fun o ho => AllObj_mono (fun its x => h _ x) (a o ho)
section
variable {prog : Program} {w : World} {A : Around} {E : Value → Shared → Prop} {s : Shared} {h₀ : Heap} {env : Env} {target : PySem.Expr} {body : List Stmt} {Q : Flow → Shared → Prop}
theorem items_all {ws : List (Addr × String)} {keep : List (Addr × Obj)} (Inv : (PySem.Str → Option Value) → List (Addr × Obj) → Prop)
    (fin : ∀ m news h tk, Inv m news → Fr h₀ env.locals h m → News h₀ env.locals h news → Q .next { s with heap := h, toks := tk }) : ∀ (xs : List Itm) (m : PySem.Str → Option Value) (news : List (Addr × Obj)),
    (∀ a ∈ xs, ∀ v h tk m news, Inv m news → a.Is v h → Fr h₀ env.locals h m → AllObj ws (fun its => News h₀ env.locals h (its ++ news) →
      wpAny (model prog w) A (assign target env v) (fun _ s₂ => wpAny (model prog w) A (execs body env) (UnrPostW h₀ env.locals { s with heap := h, toks := tk } its (fun m' n' => SubL keep n' ∧ Inv m' n') Q) E s₂) E { s with heap := h, toks := tk })) →
    Inv m news → ItemsRest prog w A E h₀ env target body Q s ws keep xs m news
  | [], m, news, _, h0 => fun h tk F N => fin m news h tk h0 F N
  | a :: r, m, news, turn, h0 => fun v h tk ha F => AllObj_mono (fun its x N => wpAny_mono (x N) (fun _ s₂ y => wpAny_mono y (fun f s₃ z => by
      cases f with
      | ret v => exact z
      | brk => exact z
      | next =>
        obtain ⟨h', tk', m', n', e, F', N', off, sub, i⟩ := z
        exact ⟨h', tk', m', n', e, F', N', off, sub, items_all Inv fin r m' n' (fun b hb => turn b (List.mem_cons_of_mem _ hb)) i⟩
      | cont =>
        obtain ⟨h', tk', m', n', e, F', N', off, sub, i⟩ := z
        exact ⟨h', tk', m', n', e, F', N', off, sub, items_all Inv fin r m' n' (fun b hb => turn b (List.mem_cons_of_mem _ hb)) i⟩) fun _ _ e => e) fun _ _ e => e) (turn a (List.mem_cons_self ..) v h tk m news h0 ha F)
def PairEnd (h₀ : Heap) (L : Addr) (s : Shared) (news : List (Addr × Obj)) (m₀ : PySem.Str → Option Value) (stored : List PySem.Str) (I : Addr) (oI : Obj) (s₂ : Shared) : Prop :=
  ∃ h' tk m', s₂ = { s with heap := h', toks := tk } ∧ Fr h₀ L h' m' ∧ News h₀ L h' ((I, oI) :: news) ∧ ∀ z, stored.contains z = false → m' z = m₀ z
def PairPost (h₀ : Heap) (L : Addr) (s : Shared) (news : List (Addr × Obj)) (m₀ : PySem.Str → Option Value) (stored : List PySem.Str) (I : Addr) (oI : Obj) (Q : Flow → Shared → Prop) (f : Flow) (s₂ : Shared) : Prop :=
  match f with
  | .ret v => Q (.ret v) s₂
  | .brk => Q .next s₂
  | _ => PairEnd h₀ L s news m₀ stored I oI s₂
theorem pair_end {L : Addr} {news all : List (Addr × Obj)} {m₀ m' : PySem.Str → Option Value} {stored : List PySem.Str} {I : Addr} {oI : Obj} {h' : Heap} {tk : Nat} (F : Fr h₀ L h' m') (N : News h₀ L h' all) (sub : ∀ p ∈ (I, oI) :: news, p ∈ all) (hr : ∀ z, stored.contains z = false → m' z = m₀ z) :
    PairEnd h₀ L s news m₀ stored I oI { s with heap := h', toks := tk } := ⟨h', tk, m', rfl, F, fun p hp => N p (sub p hp), hr⟩
theorem fr_stored {L : Addr} {h : Heap} {m m₀ : PySem.Str → Option Value} {stored : List PySem.Str} (e : ∀ z, stored.contains z = false → m z = m₀ z) (F : Fr h₀ L h m) : Fr h₀ L h (fun z => if stored.contains z then m z else m₀ z) := by
  have : (fun z => if stored.contains z then m z else m₀ z) = m := by
    funext z
    cases q : stored.contains z with
    | true => simp
    | false => simp only [Bool.false_eq_true, if_false]; exact (e z q).symm
  rw [this]; exact F
theorem iter_pairs {ax : Addr} {lo : Obj} {vs : List Value} {n : Nat} {m₀ : PySem.Str → Option Value} {news : List (Addr × Obj)} (G : PySem.Str → PySem.Str → Prop) (stored : List PySem.Str)
    (hh : A.handled = none) (F : Fr h₀ env.locals s.heap m₀) (N : News h₀ env.locals s.heap news) (hm : (ax, lo) ∈ news) (hc : lo.cls = .type "list") (hd : lo.data = .seq vs.toArray n)
    (hvs : ∀ v ∈ vs, ∃ (T : Addr) (x y : PySem.Str) (t1 t2 : Tok) (k : Nat), v = .ref T ∧ (T, tupK #[.str x t1, .str y t2] k) ∈ news ∧ G x y)
    (turn : ∀ (T : Addr) (x y : PySem.Str) (t1 t2 : Tok) (k : Nat) (I : Addr) (oI : Obj) (h : Heap) (tk : Nat) (m : PySem.Str → Option Value), oI.cls = .type "list_iterator" → G x y → Fr h₀ env.locals h (fun z => if stored.contains z then m z else m₀ z) →
      News h₀ env.locals h ((T, tupK #[.str x t1, .str y t2] k) :: (I, oI) :: news) → (∀ p ∈ news, p.1 < I) →
      wpAny (model prog w) A (assign target env (.ref T)) (fun _ s₂ => wpAny (model prog w) A (execs body env) (PairPost h₀ env.locals s news m₀ stored I oI Q) E s₂) E { s with heap := h, toks := tk })
    (fin : ∀ (h : Heap) (tk : Nat) (m : PySem.Str → Option Value), Fr h₀ env.locals h (fun z => if stored.contains z then m z else m₀ z) → News h₀ env.locals h news → Q .next { s with heap := h, toks := tk }) :
    wpAny (model prog w) A (pyIter (.ref ax)) (fun it s₂ => TurnsAt prog w A h₀ env target body Q E it s₂) E s := by
  refine iter_listTurns hh F N hm hc hd fun I hI => ?_
  refine items_all (fun m n => n = news ∧ ∀ z, stored.contains z = false → m z = m₀ z) (fun m news' h tk i F' N' => by
    obtain ⟨rfl, e⟩ := i
    exact fin h tk m (fr_stored e F') N') _ m₀ news (fun a ha v h tk m news' i hv F' => ?_) ⟨rfl, fun _ _ => rfl⟩
  obtain ⟨rfl, e⟩ := i
  obtain ⟨v', hv', rfl⟩ := List.mem_map.mp ha
  have hv2 : v = v' := hv
  subst hv2
  obtain ⟨T, x, y, t1, t2, k, rfl, hT, g⟩ := hvs v hv'
  refine AllObj.cons (fun o hc' => AllObj.nil fun N' => ?_)
  have N2 : News h₀ env.locals h ((T, tupK #[.str x t1, .str y t2] k) :: (I, o) :: news') := fun p hp => by
    rcases List.mem_cons.mp hp with rfl | hp
    · exact N' _ (List.mem_append_right _ hT)
    · exact N' p hp
  refine wpAny_mono (turn T x y t1 t2 k I o h tk m hc' g (fr_stored e F') N2 hI) (fun _ s₂ q => wpAny_mono q (fun f s₃ z => ?_) fun _ _ e => e) fun _ _ e => e
  have conv : PairEnd h₀ env.locals s news' m₀ stored I o s₃ → UnrEndW h₀ env.locals { s with heap := h, toks := tk } [(I, o)] (fun m' n' => SubL [(ax, lo)] n' ∧ n' = news' ∧ ∀ z, stored.contains z = false → m' z = m₀ z) s₃ := by
    rintro ⟨h', tk', m', rfl, F9, N9, r⟩
    exact ⟨h', tk', m', news', rfl, F9, N9, fun p hp q hq => by rw [List.mem_singleton.mp hq]; exact Nat.ne_of_lt (hI p hp), And.intro hm trivial, rfl, r⟩
  cases f with
  | ret v => exact z
  | brk => exact z
  | next => exact conv z
  | cont => exact conv z
end
end Mine
end
section
set_option maxRecDepth 100000
namespace Mine
open PySem PySem.W PySem.Calls PyProof.Rows
open PySem.Sem (wp)

/-- the claim's caller stands at or below the code at hand -/
def Has (Γ : Ctx) : Prop := (Γ.code :: Γ.below.map (·.1)).any Code.isCaller = true
def HasB (Γ : Ctx) : Prop := (Γ.below.map (·.1)).any Code.isCaller = true
theorem Has.of {Γ : Ctx} (h : HasB Γ) : Has Γ := by
  unfold Has; rw [List.any_cons, show (Γ.below.map (·.1)).any Code.isCaller = true from h, Bool.or_true]
theorem Has.enter {Γ : Ctx} (h : Has Γ) (c : Code) (hd : Option Value) (p : Pos) : HasB (Γ.enter c hd p) := h

def wpC {α : Type} (M : Model) (A : Around) (t : Sem α) (Q : α → Shared → Prop) (E : Value → Shared → Prop) (s : Shared) : Prop :=
  ∀ Γ p, Γ.In A → Has Γ → wp M Γ t (fun a _ s' => Q a s') (fun e _ s' => E e s') p s
def codeC (M : Model) (A : Around) (c : Code) (R : Result → Shared → Prop) (s : Shared) : Prop :=
  ∀ Γ p, Γ.code = c → Γ.Below A → HasB Γ → wpCode M Γ R p s

section
variable {α β : Type} {M : Model} {A : Around} {E : Value → Shared → Prop} {s : Shared}
theorem wpC_any {t : Sem α} {Q : α → Shared → Prop} (h : wpAny M A t Q E s) : wpC M A t Q E s := fun Γ p hΓ _ => h Γ p hΓ
theorem wpC_mono {t : Sem α} {Q Q' : α → Shared → Prop} {E' : Value → Shared → Prop} (h : wpC M A t Q E s) (hQ : ∀ a s, Q a s → Q' a s) (hE : ∀ e s, E e s → E' e s) : wpC M A t Q' E' s :=
  fun Γ p hΓ c => Sem.wp_mono M Γ t (fun a _ s => hQ a s) (fun e _ s => hE e s) p s (h Γ p hΓ c)
theorem wpC_bind {m : Sem α} {f : α → Sem β} {Q : β → Shared → Prop} (h : wpC M A m (fun a s' => wpC M A (f a) Q E s') E s) : wpC M A (m >>= f) Q E s := fun Γ p hΓ c => by
  rw [Sem.wp_bind']
  exact Sem.wp_mono M Γ m (fun a p' s' h' => h' Γ p' hΓ c) (fun _ _ _ h' => h') p s (h Γ p hΓ c)
/-- the first part does not look at the callers -/
theorem wpC_bindA {m : Sem α} {f : α → Sem β} {Q : β → Shared → Prop} (h : wpAny M A m (fun a s' => wpC M A (f a) Q E s') E s) : wpC M A (m >>= f) Q E s := wpC_bind (wpC_any h)
theorem wpC_onRaise {m : Sem α} {k : Value → Sem Unit} {Q : α → Shared → Prop} (h : wpC M A m Q (fun e s' => wpC M A (k e) (fun _ s'' => E e s'') E s') s) : wpC M A (m.onRaise k) Q E s := fun Γ p hΓ c => by
  rw [Sem.wp_onRaise]
  exact Sem.wp_mono M Γ m (fun _ _ _ h' => h') (fun e p' s' h' => h' Γ p' hΓ c) p s (h Γ p hΓ c)
theorem wpC_attempt {m : Sem α} {Q : Except Value α → Shared → Prop} (h : wpC M A m (fun a => Q (.ok a)) (fun e => Q (.error e)) s) : wpC M A m.attempt Q E s := fun Γ p hΓ c => by rw [Sem.wp_attempt]; exact h Γ p hΓ c
theorem wpC_holding {vs : List Value} {m : Sem α} {Q : α → Shared → Prop} (h : wpC M A m Q E s) : wpC M A (holding vs m) Q E s := fun Γ p hΓ c => by rw [Sem.wp_holding]; exact h Γ p hΓ c
theorem codeC_mono {c : Code} {R R' : Result → Shared → Prop} (h : codeC M A c R s) (hR : ∀ r s, R r s → R' r s) : codeC M A c R' s := fun Γ p hc hΓ hb => wpCode_mono hR (h Γ p hc hΓ hb)
theorem wpC_call {f : Value} {pos : List Value} {kw : List (PySem.Str × Value)} {Q : Value → Shared → Prop}
    (hc : codeC M A (.call f ⟨pos, kw⟩) (fun r s' => match r with | .ok (.ret v) => Q v s' | .ok _ => False | .error e => E e s') s) : wpC M A (call f pos kw) Q E s := fun Γ p hΓ c => by
  show wp M Γ (runValue (.call f ⟨pos, kw⟩)) _ _ p s
  rw [Sem.wp_runValue]
  exact hc _ p rfl (hΓ.enter _ none p (by intro x; cases x)) (c.enter _ _ _)
theorem codeC_of_tree {c : Code} {R : Result → Shared → Prop}
    (h : wpC M (A.under c) (M.den c) (fun fin s' => match fin with | .done f => R (.ok f) s' | .again c' => c'.quiet = true ∧ codeC M A c' R s') (fun e s' => R (.error e) s') s) : codeC M A c R s := fun Γ p hc hΓ hb => by
  rw [wpCode_iff_wp, hc]
  refine Sem.wp_mono M Γ _ (fun fin p' s' h' => ?_) (fun _ _ _ h' => h') p s (h Γ p (hc ▸ hΓ.in) (.of hb))
  cases fin with
  | done f => exact h'
  | again c' => exact ⟨h'.1, h'.2 (Γ.goto c') p' rfl (hΓ.goto c') hb⟩
theorem wpC_stack {Q : List (Code × Pos) → Shared → Prop} (h : ∀ st : List (Code × Pos), (st.map (·.1)).any Code.isCaller = true → Q st s) : wpC M A stack Q E s := fun Γ p _ c => by
  show Q ((Γ.code, p) :: Γ.below) s
  exact h _ c

/-- beneath the claim's caller no refusal is marked -/
theorem not_marked {own : List String} {codes : List Code} (h : codes.any Code.isCaller = true) : pythonCodeMadeTheCall own codes = false := by
  unfold pythonCodeMadeTheCall
  show ((!(codes.any Code.isCaller) && (_ : Bool)) && (_ : Bool)) = false
  rw [h]; rfl
theorem wpC_mark {own : List String} {e : Value} {Q : Unit → Shared → Prop} (h : Q () s) : wpC M A (markTheRefusal own e) Q E s := by
  unfold markTheRefusal
  refine wpC_bind (wpC_stack fun st hst => ?_)
  rw [if_neg (by rw [not_marked hst]; exact Bool.false_ne_true)]
  exact wpC_any (wpAny_pure h)
/-- the binder refuses: a new TypeError with the message, nothing else -/
theorem wpC_refuses {msg : String} {Q : α → Shared → Prop} (hh : A.handled = none) (hl : (PySem.Str.ofString msg).length ≤ sizeLine)
    (h : ∀ h' e t k, Heap.MadeExc s.heap h' e "TypeError" [.str (PySem.Str.ofString msg) t] → E (.ref e) { s with heap := h', toks := k }) : wpC M A (theBinderRefuses msg : Sem α) Q E s := by
  unfold theBinderRefuses
  refine wpC_bindA (wpAny_mkStr ?_ hl)
  refine wpC_bindA (wpAny_newExc_plain PySem.plainExc_TypeError ?_ (Nat.le_of_ble_eq_true rfl))
  intro h' e hm
  refine wpC_bind (wpC_mark ?_)
  exact wpC_any (wpAny_raiseNew_none hh (h h' e _ _ hm))
end

section
variable {prog : Program} {w : World} {A : Around} {E : Value → Shared → Prop} {s : Shared} {R : Result → Shared → Prop}
/-- a def is called; its binder speaks first -/
theorem codeC_def {a : Addr} {args : Args} {o : Obj} {fd : FuncData} {body : List Stmt}
    (ho : s.heap.get? a = some o) (hd : o.data = .func fd) (hco : fd.scope.isCoroutine = false) (hgen : fd.scope.isGenerator = false) (hbody : fd.body = .stmts body) (hcd : s.heap.CodeRec fd.code fd.qualname)
    (h : wpC (model prog w) A.in1 (bindArgs fd args) (fun binds s₁ => wpAny (model prog w) A.in1 (newFunctionEnv fd.scope fd.globals fd.closure binds (fd.qualname ++ ".<locals>.") (some a) fd.code none fd.builtins)
        (fun env s₂ => s₂.heap.NoLimit ∧ A.depth < recursionLimit ∧ codeC (model prog w) A (.func body env) R s₂) (fun e s' => R (.error e) s') s₁) (fun e s' => R (.error e) s') s) :
    codeC (model prog w) A (.call (.ref a) args) R s := by
  obtain ⟨c, oc, vs, tq, hc, hoc, hdc, hq⟩ := hcd
  refine codeC_of_tree ?_
  show wpC _ A.in1 (callAny (.ref a) args) _ _ s
  simp only [callAny]
  refine wpC_bindA (wpAny_load ho ?_)
  simp only [hd, callFunction, hco, hgen, hbody, hc]
  rw [hc] at h
  refine wpC_bindA (m := field (.ref c) 1) (wpAny_field hoc hdc hq (wpC_bindA (wpAny_pure ?_)))
  refine wpC_bind (wpC_mono h (fun binds s₁ h₁ => ?_) fun _ _ x => x)
  refine wpC_bindA (wpAny_mono h₁ (fun env s₂ h₂ => ?_) fun _ _ x => x)
  exact wpC_bindA (wpAny_enterFrame h₂.1 h₂.2.1 (wpC_any (wpAny_pure (And.intro rfl h₂.2.2))))
theorem codeC_func {body : List Stmt} {env : Env}
    (h : wpC (model prog w) (A.deeper env) (execs body env) (fun f s' => R (.ok (.ret (match f with | .ret v => v | _ => .none))) s')
      (fun e s' => wpAny (model prog w) (A.deeper env) (leaving env e) (fun _ s'' => R (.error e) s'') (fun e' s'' => R (.error e') s'') s') s) : codeC (model prog w) A (.func body env) R s := by
  refine codeC_of_tree ?_
  show wpC _ (A.deeper env) (do point; match ← (execs body env).onRaise (leaving env) with | .ret v => ret v | _ => ret .none) _ _ s
  refine wpC_bindA (wpAny_point (wpC_bind (wpC_onRaise (wpC_mono h (fun f s' h' => ?_) fun _ _ h' => wpC_any h'))))
  cases f <;> exact wpC_any (wpAny_pure h')
end
end Mine
end
section
set_option maxRecDepth 100000
set_option maxHeartbeats 4000000
namespace Mine
open PySem PySem.W PySem.Calls PyProof.Rows
section
variable {prog : Program} {w : World} {A : Around} {K : Frag} {C : Addr} {R : Result → Shared → Prop} {h : Heap} {g : Array GenState} {d : Drawn} {t : Nat} {os : OsState} {s : Shared}
theorem codeC_builtin_at {id : String} {args : Args} {b : Builtin} (hq : (Code.builtin id args).quiet = true) (hb : entryFor table id = some b)
    (h : wpAny (model prog w) A.in1 (checkBuiltinCall id args) (fun _ s₁ => wpC (model prog w) (A.under (.builtin id args)) (b args)
      (fun fin s' => match fin with | .done f => R (.ok f) s' | .again c' => c'.quiet = true ∧ codeC (model prog w) A c' R s') (fun e s' => R (.error e) s') s₁)
      (fun e s' => R (.error e) s') s) : codeC (model prog w) A (.call (.builtin id) args) R s := by
  refine codeC_of_tree ?_
  show wpC _ A.in1 (do checkBuiltinCall id args; again (.builtin id args)) _ _ s
  refine wpC_bindA (wpAny_mono h (fun _ s₁ h₁ => wpC_any (wpAny_pure (And.intro hq (codeC_of_tree ?_)))) fun _ _ h' => h')
  show wpC _ _ (match entryFor table id with | some b => b args | none => unsupported ((withoutEnding? id "#data").getD id)) _ _ s₁
  rw [hb]; exact h₁
theorem make_XC {rest : List Value} {kw : List (PySem.Str × Value)} {init : Value} (Y : MakesX (model prog w) h C) (hrest : rest.length ≤ sizeLine) (hi : Looks (model prog w) h (typeLookup (.ref C) "__init__") (some init))
    (hb : ∀ self, Looks (model prog w) h (bindSpecial init self) (init, [self]))
    (hq : codeC (model prog w) (A.under (.builtin "type.__call__" ⟨.ref C :: rest, kw⟩)) (.call init ⟨.ref (h.objs.size + 1) :: rest, kw⟩) (InitBack (h.objs.size + 1) R) ⟨(h.push (tupObj rest)).push (excObj C h.objs.size none), g, d, t, os⟩) :
    codeC (model prog w) A (.call (.ref C) ⟨rest, kw⟩) R ⟨h, g, d, t, os⟩ := by
  have Y' := Y
  obtain ⟨⟨oc, od, cd, sl, hC, e2, e4⟩, made, base, self, exc, bexc, na, nn, call, typ⟩ := Y
  refine codeC_of_tree (wpC_any ?_)
  show wpAny _ _ (callAny (.ref C) _) _ _ _
  refine nd_load hC ?_
  show wpAny _ _ (callAny.viaDunder (.ref C) _) _ _ _
  unfold callAny.viaDunder
  refine wpAny_bind (call.at ?_)
  dsimp only
  rw [tc_bind]
  refine wpAny_bind (wpAny_pure (wpAny_bind (wpAny_pure ?_)))
  refine wpAny_pure (a := Fin.again (.call (.builtin "type.__call__") ⟨.ref C :: rest, kw⟩)) (And.intro rfl ?_)
  refine codeC_builtin_at (Code.quiet_builtin _ (by decide +kernel)) entry_typeCall (check_slot tc_kind tc_split typ (tc_args _ _ _) ?_)
  unfold Builtin.«type.__call__»
  have hm : Looks (model prog w) h (mroOf (.ref C)) cd.mro := ((Looks.ld (part := none) hC).andThen .now).andThen .now
  refine wpC_bindA (m := mroOf (.ref C)) (hm.at ?_)
  simp only [e4, Bool.false_eq_true, if_false]
  refine wpC_bindA (m := Bind.madeBy (.ref C)) (made.at ?_)
  dsimp only
  refine wpC_bindA (m := pure (Value.builtin "Exception.__new__")) (wpAny_pure ?_)
  refine wpC_bindA (wpAny_holding (wpAny_call (new_X Y' hrest ?_)))
  have k : ∀ b o, h.get? b = some o → ((h.push (tupObj rest)).push (excObj C h.objs.size none)).get? b = some o := fun b o e => Heap.get?_push_of_some _ (Heap.get?_push_of_some _ e)
  have hx : ((h.push (tupObj rest)).push (excObj C h.objs.size none)).get? (h.objs.size + 1) = some (excObj C h.objs.size none) := by heap_get
  have t1 : Looks (model prog w) ((h.push (tupObj rest)).push (excObj C h.objs.size none)) (typeOf (.ref (h.objs.size + 1))) (.ref C) := (Looks.ld hx).andThen .now
  have s1 := self.keeps k
  have i1 := hi.keeps k
  have b1 := (hb (.ref (h.objs.size + 1))).keeps k
  dsimp only
  refine wpC_bindA (m := isInstance (.ref (h.objs.size + 1)) (.ref C)) ?_
  unfold isInstance
  repeat lk
  simp only [Bool.not_true, Bool.false_eq_true, if_false]
  refine wpC_bind (wpC_holding ?_)
  unfold callSpecial?
  refine wpC_bindA (m := specialOf (.ref (h.objs.size + 1)) "__init__") ?_
  unfold specialOf
  repeat lk
  dsimp only
  refine wpC_holding ?_
  refine wpC_bindA (m := bindSpecial init (.ref (h.objs.size + 1))) (b1.at ?_)
  dsimp only
  refine wpC_bind (wpC_call (codeC_mono hq fun r s' z => ?_))
  rcases r with e | (v | _ | _ | _) <;> first | exact z | exact z.elim | skip
  obtain ⟨rfl, z⟩ := z
  exact wpC_any (wpAny_pure (wpC_any (wpAny_pure z)))
end
end Mine
end
section
set_option maxRecDepth 100000
set_option maxHeartbeats 4000000
namespace Mine
open PySem PySem.W PySem.Calls PyProof.Rows
section
variable {M : Model} {A : Around} {E : Value → Shared → Prop} {s : Shared} {env : Env} {C : Addr}
theorem wpC_execs {st : Stmt} {rest : List Stmt} {Q : Flow → Shared → Prop}
    (h : wpC M A (exec st env) (fun f s' => match f with | .next => wpC M A (execs rest env) Q E s' | f => Q f s') E s) : wpC M A (execs (st :: rest) env) Q E s := by
  refine wpC_bind (m := exec st env) (wpC_mono h (fun f s' x => ?_) fun _ _ x => x)
  cases f <;> first | exact x | exact wpC_any (wpAny_pure x)
theorem wpC_Try {body orelse : List Stmt} {h₀ : ExceptHandler} {hs : List ExceptHandler} {pos : Pos} {Q : Flow → Shared → Prop}
    (h : wpC M A (execs body env) (fun f s₁ => match f with | .next => wpC M A (execs orelse env) Q E s₁ | f => Q f s₁)
      (fun e s₁ => wpAny M A (noteFrame e env) (fun _ s₂ => wpAny M A (setFlight e none) (fun _ s₃ => wpAny M A (handleBy e env (h₀ :: hs)) Q E s₃) E s₂) E s₁) s) :
    wpC M A (exec (.Try body (h₀ :: hs) orelse [] pos) env) Q E s := by
  rw [arm_exec_Try]
  refine wpC_bindA (wpAny_standAt ?_)
  unfold tryStmt
  simp only [List.isEmpty_nil, if_true, List.isEmpty_cons, Bool.false_and, Bool.false_eq_true, if_false]
  refine wpC_bind (wpC_attempt (wpC_mono h (fun f s₁ h₁ => ?_) fun e s₁ h₁ => ?_))
  · cases f <;> first | exact h₁ | exact wpC_any (wpAny_pure h₁)
  · exact wpC_any (wpAny_bind (wpAny_mono h₁ (fun _ _ h₂ => wpAny_bind h₂) fun _ _ x => x))
theorem wpC_Expr {v : PySem.Expr} {pos : Pos} {Q : Flow → Shared → Prop} (hi : interactive env = false) (hs : swapsWith v none pos.line env = pure false)
    (h : wpC M A (eval v env) (fun _ _ => False) E s) : wpC M A (exec (.Expr v pos) env) Q E s := by
  rw [arm_exec_Expr]
  refine wpC_bindA (wpAny_standAt ?_)
  rw [hi, hs]
  simp only [Bool.false_eq_true, if_false]
  refine wpC_bindA (wpAny_pure ?_)
  simp only [Bool.false_eq_true, if_false]
  exact wpC_bind (wpC_mono h (fun _ _ x => x.elim) fun _ _ x => x)
theorem wpC_Call_Name {x : PySem.Str} {p pos : Pos} {args : List PySem.Expr} {trees : List (Bool × Sem Value)} {Q : Value → Shared → Prop} (ht : backTo pos (starEach args env) = trees)
    (h : wpAny M A (eval (.Name x p) env) (fun f s₁ => wpC M A (callWith pos f [] trees []) Q E s₁) E s) : wpC M A (eval (.Call (.Name x p) args [] pos) env) Q E s := by
  subst ht
  exact wpC_bindA h
theorem wpC_callWith {x : Sem Value} {pos : Pos} {Q : Value → Shared → Prop}
    (h : wpAny M A (spliced [(false, x)]) (fun vs s₁ => MakesX M s₁.heap C ∧ wpC M A (call (.ref C) vs []) Q E s₁) E s) : wpC M A (callWith pos (.ref C) [] [(false, x)] []) Q E s := by
  unfold callWith
  refine wpC_bindA (wpAny_holding (evalArgs_plain (wpAny_mono h (fun vs s₁ h₁ => ?_) fun _ _ x => x)))
  refine wpC_bindA (wpAny_standAt ?_)
  simp only [List.any_cons, List.any_nil, Bool.or_false]
  obtain ⟨⟨⟨oc, od, cd, sl, hC, e2, e4⟩, made, base, self, exc, bexc, na, nn, cl, typ⟩, h₂⟩ := h₁
  refine wpC_bindA (m := keeperOf (.ref C)) ?_
  unfold keeperOf
  refine wpAny_bind (wpAny_load hC ?_)
  dsimp only
  refine wpAny_bind (cl.at ?_)
  rw [if_pos (by rfl)]
  refine wpAny_pure ?_
  dsimp only
  refine wpC_bind (wpC_mono h₂ (fun r s₂ hr => ?_) fun _ _ x => x)
  exact wpC_any (wpAny_bind (wpAny_holding (wpAny_point (wpAny_pure hr))))
end
end Mine
end
section
set_option maxRecDepth 100000
set_option maxHeartbeats 4000000
namespace Mine
open PySem PySem.W PySem.Calls PyProof.Rows
section
variable {prog : Program} {w : World} {A : Around} {K : Frag} {C fI L : Addr} {h₀ : Heap} {s : Shared} {m : PySem.Str → Option Value} {E : Value → Shared → Prop}
theorem callC_refused {name qual : PySem.Str} {params : Arguments} {body : List Stmt} {scope : Scope} {dV kV doc pm cdv ct oc : Value} {an od : Option Addr} {osl : Array (Option Value)} {pos : List Value} {Q : Value → Shared → Prop}
    (F : Fr h₀ L s.heap m) (X₀ : K.In h₀) (hm : XCls K C) (hi : findIn K (.ref C) "__init__" = some (some (.ref fI))) (hf : isFn K (.ref fI) = true) (hrest : pos.length ≤ 1000)
    (ho : K.lookup fI = some ⟨oc, od, .func (fnOf name qual params body scope dV kV doc pm an cdv ct), osl⟩) (hcd : codeIn K cdv qual = true) (hA : A.handled = none)
    (hco : scope.isCoroutine = false) (hgen : scope.isGenerator = false)
    (hb : ∀ (x : Addr) (A' : Around) (s' : Shared) (Q' : List (PySem.Str × Value) → Shared → Prop) (E' : Value → Shared → Prop), A'.handled = none →
      (∀ h' e t k msg, Heap.MadeExc s'.heap h' e "TypeError" [.str (PySem.Str.ofString msg) t] → E' (.ref e) { s' with heap := h', toks := k }) →
      wpC (model prog w) A' (bindArgs (fnOf name qual params body scope dV kV doc pm an cdv ct) ⟨.ref x :: pos, []⟩) Q' E' s')
    (h : ∀ h₁ h' e t k msg, (∀ b o, s.heap.get? b = some o → h₁.get? b = some o) → Heap.MadeExc h₁ h' e "TypeError" [.str (PySem.Str.ofString msg) t] → E (.ref e) { s with heap := h', toks := k }) :
    wpC (model prog w) A (call (.ref C) pos []) Q E s := by
  have X := X₀.keeps F.keep
  obtain ⟨hh, g, d, t, os⟩ := s
  have k : ∀ b o, hh.get? b = some o → ((hh.push (tupObj pos)).push (excObj C hh.objs.size none)).get? b = some o := fun b o e => Heap.get?_push_of_some _ (Heap.get?_push_of_some _ e)
  have X' : K.In ((hh.push (tupObj pos)).push (excObj C hh.objs.size none)) := X.keeps k
  refine wpC_call (make_XC (makesX_of X hm) (Nat.le_trans hrest (by rw [sizeLine_eq]; decide)) (looks_findIn X hi) (fun self => bind_fn X self (beq_iff_eq.mp hf)) ?_)
  refine codeC_def (fd := fnOf name qual params body scope dV kV doc pm an cdv ct) (body := body) (X' _ _ ho) rfl hco hgen rfl (codeRec_of X' hcd) ?_
  exact hb _ _ _ _ _ hA fun h' x t' k' msg hx => h _ _ _ _ _ _ k hx
end

section
variable {prog : Program} {w : World} {A : Around} {h₀ h h' h'' : Heap} {s : Shared} {env : Env} {L e : Addr} {m : PySem.Str → Option Value} {E : Value → Shared → Prop} {Q : Flow → Shared → Prop} {X : String} {args : List Value}
  {t : PySem.Expr} {b₀ : Stmt} {suite : List Stmt} {pos : Pos} {rest : List ExceptHandler}
theorem ns_of_data {oL oL' : Obj} (n : h.Ns L m) (hL : h.get? L = some oL) (hL' : h'.get? L = some oL') (hd : oL'.data = oL.data) : h'.Ns L m := by
  obtain ⟨o, es, ep, a, b, c, d⟩ := n
  rw [hL] at a; cases a
  exact ⟨oL', es, ep, hL', hd.trans b, c, d⟩
/-- an exception that was made in the very frame is taken by the first clause -/
theorem caught_own {T' : String} (F : Fr h₀ L h m) (kh : ∀ b o, h.get? b = some o → h'.get? b = some o) (hx : Heap.MadeExc h' s.heap e X args) (hfr : A.frames = some [env]) (hk : env.scope.kind ≠ .module) (hf : env.frame = some L)
    (hexc : isSubtype (.type T') (.type "BaseException") = pure true) (hnt : isSubtype (.type ((Manifest.find? T').elim "type" fun y => y.metatype)) (.type "tuple") = pure false) (hsub : isSubtype (.type X) (.type T') = pure true)
    (hn : ∀ g s', Fr h₀ L g m → s' = { s with heap := g } → ∀ (Q : Value → Shared → Prop) E', Q (.type T') s' → wpAny (model prog w) (A.mark (some (.ref e))) (eval t env) Q E' s')
    (hE : PassesOwnAt (model prog w) (A.mark (some (.ref e))) A env E)
    (k : ∀ g, Fr h₀ L g m → (∀ b o, b ≠ L → h.get? b = some o → g.get? b = some o) → wpAny (model prog w) (A.mark (some (.ref e))) (execs (b₀ :: suite) env) Q E { s with heap := g }) :
    wpAny (model prog w) A (noteFrame (.ref e) env) (fun _ s₂ => wpAny (model prog w) A (setFlight (.ref e) none) (fun _ s₃ =>
        wpAny (model prog w) A (handleBy (.ref e) env (.ExceptHandler (some t) none (b₀ :: suite) pos :: rest)) Q E s₃) E s₂) E s := by
  obtain ⟨kx, nx, tp, he, ht0, ht⟩ := hx
  obtain ⟨oL, es, ep, hL, hLd, hLk, hLf⟩ := F.ns
  have hLs : s.heap.get? L = some oL := kx _ _ (kh _ _ hL)
  have hLe : L ≠ e := fun q => by rw [← q, kh _ _ hL] at nx; cases nx
  have hL0 : ∀ b o, h₀.get? b = some o → b ≠ L := fun b o q z => Nat.lt_irrefl _ (Nat.lt_of_lt_of_le (z ▸ Heap.lt_size q) F.above)
  refine wpAny_noteFrame_new hk hfr hf hLs (Obj.isFreed_of_dict hLd) he hLe rfl rfl fun h1 tb oL' pl hpl k1 hL1 hd1 ntb he1 htb => ?_
  have F1 : ∀ b o, b ≠ L → h.get? b = some o → h1.get? b = some o := fun b o q hb => k1 b o q (fun z => by rw [z] at hb; rw [kh _ _ hb] at nx; cases nx) (kx _ _ (kh _ _ hb))
  have tbL : tb ≠ L := fun z => by rw [z, hLs] at ntb; cases ntb
  have tbe : tb ≠ e := fun z => by rw [z, he] at ntb; cases ntb
  have old : ∀ b o, h.get? b = some o → b ≠ tb := fun b o hb z => by rw [← z, kx _ _ (kh _ _ hb)] at ntb; cases ntb
  refine wpAny_setFlight_none (tb := tb) he1 rfl rfl htb rfl (by simp) ?_
  refine wpAny_handleBy_builtin (X := X) (T := T') (b := true) hexc hnt hsub ?_
  have G : ∀ g : Heap, (∀ b o, b ≠ tb → h1.get? b = some o → g.get? b = some o) → Fr h₀ L g m := fun g hg => by
    refine ⟨ns_of_data F.ns hL (hg _ _ (fun z => tbL z.symm) hL1) hd1, fun b o q => hg _ _ (old _ _ (F.keep _ _ q)) (F1 b o (hL0 _ _ q) (F.keep _ _ q)), F.above⟩
  have up : ∀ (g : Heap) f b o, b ≠ tb → g.get? b = some o → (g.update tb f).get? b = some o := fun g f b o q hb => (Heap.get?_update_other _ _ q.symm).trans hb
  have F2 := G _ (up h1 (Obj.mapFields (·.setIfInBounds 3 .none)))
  have he2 := up h1 (Obj.mapFields (·.setIfInBounds 3 .none)) e _ tbe.symm he1
  have htb2 := Heap.get?_update_self (h := h1) (Obj.mapFields (·.setIfInBounds 3 .none)) htb rfl
  refine hn _ _ F2 rfl _ _ ⟨rfl, ⟨_, he2, ?_⟩, ?_⟩
  · rfl
  simp only [if_true]
  refine wpAny_setFlight_none (tb := tb) he2 rfl rfl htb2 rfl (by simp) ?_
  refine wpAny_passesOwnAt hE (k _ (G _ fun b o q hb => up _ _ b o q (up _ _ b o q hb)) fun b o q hb => up _ _ b o (old _ _ hb) (up _ _ b o (old _ _ hb) (F1 b o q hb)))
end
end Mine
end
section
set_option maxRecDepth 100000
set_option maxHeartbeats 4000000
namespace Mine
open PySem PySem.W PySem.Calls PyProof.Rows
theorem has_caller : Has ⟨.builtin "claim.caller" {}, none, none, [], none⟩ := rfl
/-- the call as the claim makes it, its context known -/
theorem ends_C {prog : Program} {w : World} {t : Sem Fin} {s : Shared} {R : Result → Shared → Prop} (hz : s.asleep)
    (h : wpC (model prog w) callerA t (fun fin s' => ∃ f, fin = .done f ∧ (R (.ok f) s' ∧ leftWithCleanup s'.gens = false)) (fun e s' => R (.error e) s' ∧ leftWithCleanup s'.gens = false) s) :
    ∃ n r s' s'', runN (denote table) prog w n s ⟨t, .builtin "claim.caller" {}, default, []⟩ = .halted (outcomeOf r) s' ∧
      schedN (denote table) prog w n (.single s ⟨t, .builtin "claim.caller" {}, default, []⟩) = .halted (outcomeOf r) s' ∧ s'.forget = s''.forget ∧ R r s'' := by
  obtain ⟨n, r, s₁, s₂, hs, hn, hfo, hR⟩ := wp_halts_full (M := model prog w) (R := R) (c := .builtin "claim.caller" {}) (p := default) hz
    (Sem.wp_mono _ _ _ (fun fin p' s' h' => by obtain ⟨f, rfl, hf⟩ := h'; exact hf) (fun _ _ _ x => x) _ _ (h _ default caller_in has_caller))
  exact ⟨n, r, s₂, s₁, hn, hs, hfo, hR⟩

abbrev WalkC (q : Program) (loose : List PySem.Str) (XP : (PySem.Str → Option Value) → Heap → Prop) (YP : World → Heap → Prop) (r : RowW) (d : DefRec) (kwd : List (PySem.Str × PySem.Expr)) : Prop :=
  ∀ (w : World) (s₀ s₁ : Shared) (mg mb : PySem.Str → Option Value), Ground q loose r.records XP w s₀ mg mb s₁.heap → YP w s₁.heap → ∀ (a : Addr) (o : Obj) (pm cd doc dV kV : Value), s₁.heap.get? a = some o →
    o.data = .func { docDef d.name d.params d.body d.scope pm cd doc with defaults := dV, kwdefaults := kV } → s₁.heap.CodeRec cd d.name → Dflts mg s₁.heap d.params kwd dV kV → mg d.name = some (.ref a) → s₁.gens = #[] →
    ∀ (args : List WData) (vals : List Value) (as : List Addr), r.claim.pre args = true → WData.layableAll args = true → ReadsAllW r.records (classAt s₀.heap) s₁.heap vals args as → WellAll w.params s₁.heap vals args → (∀ a ∈ as, (a == sysModules) = false) →
      wpC (model r.prog w) callerA (PySem.call (.ref a) vals) (fun v s' => GoodWG r.claim (classAt s₀.heap) (ExcName.means s₀.heap) args s₁ (.ok (.ret v)) s')
        (fun e s' => GoodWG r.claim (classAt s₀.heap) (ExcName.means s₀.heap) args s₁ (.error e) s') s₁
end Mine
open PySem PySem.W PySem.Calls PyProof.Rows Mine
namespace MineH
/-- the head for a walk that knows the claim's caller -/
theorem PySem.W.holds_open {r : OpenRow} {q : Program} {loose : List PySem.Str} {Xt : Shared → Bool} {XP : (PySem.Str → Option Value) → Heap → Prop} {α : Type} {Yf : Shared → α} {Ya : World → α} {YP : World → Heap → Prop} {d : DefRec} {kwd : List (PySem.Str × PySem.Expr)} {N : Nat}
    (left : LeftO r.prog q loose Xt Yf Ya N) (hY : ∀ w s, Yf s = Ya w → YP w s.heap) (hYk : ∀ w h h', YP w h → (∀ b o, h.get? b = some o → h'.get? b = some o) → YP w h')
    (hX : ∀ s, Xt s = true → XP (s.heap.nsMap mainGlobals) s.heap) (hXk : ∀ mg h h', XP mg h → (∀ b o, h.get? b = some o → h'.get? b = some o) → XP mg h')
    (hdef : defOf q r.name = some (d, kwd)) (hp : r.prog.theDef r.name = some (d.params, d.body, d.scope)) (hk : kwWritten? d.params.kwonlyargs d.params.kw_defaults = some kwd) (hRf : ∀ s, Xt s = true → RecFacts r.records s.heap) (hwr : (!r.writes || r.records.isEmpty) = true)
    (k1 : r.wellSaid = true) (ok : (chainsOk q && opensWell r.prog && (frees r.toRowW && r.within.isEmpty)) = true) (hb : r.prog.bare) (hw : r.toRowW.promised)
    (call : WalkC q loose XP YP r.toRowW d kwd) : r.Holds := by
  simp only [Bool.and_eq_true] at ok
  obtain ⟨⟨hch, how⟩, hfree, hwith⟩ := ok
  obtain ⟨hsame, hu, ha, hap, hm⟩ := frees_parts hfree
  have hwi : r.toRowW.claim.within = [] := List.isEmpty_iff.mp hwith
  have hid := ident_freeW hu ha hap
  refine ⟨k1, hw, ⟨hb, how, by show r.toRowW.makers.map _ = []; rw [hm]; rfl⟩, hw.witness, fun w => ⟨(left.behind hX hch w).1, fun sr hsr => ?_⟩⟩
  obtain ⟨s₀, hf, hg0, s, hT, hz, hgs, hg, G0, y⟩ := (left.behind (XP := fun mg h => XP mg h ∧ RecFacts r.records h) (fun s hs => ⟨hX s hs, hRf s hs⟩) hch w).2 sr hsr
  have RF := G0.X.2
  have G1 : Ground q loose [] XP w s (s.heap.nsMap mainGlobals) (s.heap.nsMap builtinsNs) s.heap := { G0 with X := G0.X.1 }
  have hgens : s.gens = #[] := Array.eq_empty_of_size_eq_zero (beq_iff_eq.mp hgs)
  have G2 : Ground q loose r.records XP w s _ _ s.heap := RF.ground G1
  refine ⟨s₀, hf, hg0, s, hT, fun n hn => ?_, RF.1, RF.2.1, fun args hpre hlay ord hord => ?_⟩
  · have e : n = r.name := by revert hn; split <;> simp
    subst e
    exact pinned_of_view hg G1 hdef hp hk
  obtain ⟨⟨vs, s₁⟩, hl⟩ := Option.isSome_iff_exists.mp (layAllW_isSome (P := w.params) (ord := ord) G2.has args r.toRowW.args s (pre_splitW hpre).1)
  have kl := layAllW_keeps _ _ _ hl
  have hr := layAllW_rest _ _ _ hl
  obtain ⟨as, hrd, hin, hold⟩ := reads_layAllW hord _ _ _ hl hlay s₁.heap (fun _ _ e => e)
  have L : Laid r.records w s s₁ args vs as := ⟨⟨ord, hord, hl⟩, hrd, hin, hold, kl, hr.1.trans hgens, hr.2.2.1⟩
  have G := G2.keeps hXk kl
  obtain ⟨a, o, pm, cd, doc, dV, kV, h1, h2, h3, h4, h5⟩ := G.fn hdef
  have W := call w s s₁ _ _ G (hYk _ _ _ (hY w s y) kl) a o pm cd doc dV kV h2 h3 h4 h5 (defOf_name hdef ▸ h1) L.gens args vs as hpre hlay L.reads L.well (L.low G2.low)
  have fin : ∀ res s', GoodWG r.toRowW.claim (classAt s.heap) (ExcName.means s.heap) args s₁ res s' → (r.toRowW.claim.Ends s args vs s₁ res s' ∧ s'.os = s.os ∧
      (r.writes = true → namesKept r.prog r.keeps s.heap s'.heap ∧ ∀ x ∈ r.records, ∀ a, classAt s.heap x.1 = some a → recordClass s'.heap a x.1 (x.2.map (·.1)) = true)) ∧ leftWithCleanup s'.gens = false := fun res s' g => by
    have z := g.laid (c := r.toRowW.claim) hsame hwi hid L
    exact ⟨⟨z.1, z.2.1, fun q => ⟨namesKept_of hT hg r.keeps kl g.2.1.old, noTable hwr q⟩⟩, leftWithCleanup_false_of_bare z.2.2⟩
  obtain ⟨k, res, s', s'', hrun, hsched, hfo, hE, hos, hkp⟩ := ends_C (prog := r.prog) (w := w) (s := s₁) (t := (callStub r.name vs).cur)
    (R := fun res s' => r.toRowW.claim.Ends s args vs s₁ res s' ∧ s'.os = s.os ∧
      (r.writes = true → namesKept r.prog r.keeps s.heap s'.heap ∧ ∀ x ∈ r.records, ∀ a, classAt s.heap x.1 = some a → recordClass s'.heap a x.1 (x.2.map (·.1)) = true))
    (Shared.asleep_of_life hr.2.2.2 hz) (by
      show wpC _ _ (nsGet mainNs r.name >>= fun x => match x with | some f => (do ret (← PySem.call f vs)) | none => unsupported "claim.caller:no-such-global") _ _ _
      refine wpC_bindA (wpAny_nsGet G.T.g ?_)
      rw [h1]
      refine wpC_bind (wpC_mono W (fun v s' g => wpC_any (wpAny_pure ⟨_, rfl, fin _ _ g⟩)) fun e s' g => fin _ _ g))
  obtain ⟨eh, _, _, eo, _⟩ := Shared.forget_eq hfo
  have hlife : s'.heap.life = s.heap.life := (runN_life _ _ _ hrun).trans hr.2.2.2
  refine ⟨vs, s₁, hl, k, _, s', hsched, ?_, (fun _ i x hx => by rw [hgens] at hx; simp at hx), by rw [eh]; exact hkp, by rw [hlife], Shared.rest_eq (eo.trans hos)⟩
  have hE := hE.congr eh
  rcases hE with ⟨v, rfl, d1, d2, d3, d4, d5⟩ | ⟨e, ob, cls, rfl, d1, d2, d3, d4, d5⟩
  · exact .inl ⟨v, rfl, d1, d2, d3, fun b o y _ => d4 b o y, d5⟩
  · exact .inr ⟨e, ob, cls, rfl, d1, d2, d3, d4, fun b o y _ => d5 b o y⟩
end MineH
end
section
set_option maxRecDepth 100000
set_option maxHeartbeats 4000000
open PySem PySem.W PySem.Calls PyProof.Rows Mine
namespace MineH
theorem enterC {M : Model} {A : Around} {s : Shared} {f : Value} {pos : List Value} {kw : List (PySem.Str × Value)} {c : ClaimW} {cl : PySem.Str → Option Addr} {mean : ExcName → Option Value} {args : List WData} {s₁ : Shared}
    (h : codeC M A (.call f ⟨pos, kw⟩) (GoodW c cl mean args s₁) s) : wpC M A (PySem.call f pos kw) (fun v s' => GoodWG c cl mean args s₁ (.ok (.ret v)) s') (fun e s' => GoodWG c cl mean args s₁ (.error e) s') s := by
  refine wpC_call (codeC_mono h fun res s' g => ?_)
  have g' := GoodW.toG g
  rcases g.1 with ⟨v, _, _, rfl, _⟩ | ⟨e, _, _, rfl, _⟩
  · exact g'
  · exact g'
theorem PyProof.Rows.call_cellsN {prog : Program} {w : World} {A : Around} {R : Result → Shared → Prop} {s : Shared} {name : PySem.Str} {params : Arguments} {body : List Stmt} {scope : Scope}
    {pm cd doc : Value} {a : Addr} {o : Obj} {args : List Value} {binds : List (PySem.Str × Value)}
    (hroom : A.depth < recursionLimit) (ho : s.heap.get? a = some o) (hdata : o.data = .func (Calls.docDef name params body scope pm cd doc)) (hlim : s.heap.NoLimit) (hcd : s.heap.CodeRec cd name)
    (hbind : bindArgs (Calls.docDef name params body scope pm cd doc) ⟨args, []⟩ = pure binds)
    (hkind : ∀ x ∈ binds, scope.names.lookup x.1 = some .local ∨ (scope.names.lookup x.1 = some .cell ∧ ((cellsFrom (s.heap.objs.size + 1) scope.names []).lookup x.1).isSome = true))
    (hnd : ((cellsFrom 0 scope.names []).map (·.1)).Nodup)
    (h : ∀ h₁ tk cells, Fr s.heap s.heap.objs.size h₁ (bindL (envOfC name scope s.heap.objs.size a cd).kindOf binds fun _ => none) → News s.heap s.heap.objs.size h₁ cells →
      CellsAre (bindC (envOfC name scope s.heap.objs.size a cd).kindOf binds fun _ => none) (cellsFrom (s.heap.objs.size + 1) scope.names []) cells →
      wpC (model prog w) (A.deeper (envOfC name scope s.heap.objs.size a cd)) (execs body (envOfC name scope s.heap.objs.size a cd))
        (fun f s' => R (.ok (.ret (match f with | .ret v => v | _ => .none))) s')
        (fun e s' => wpAny (model prog w) (A.deeper (envOfC name scope s.heap.objs.size a cd)) (leaving (envOfC name scope s.heap.objs.size a cd) e)
          (fun _ s'' => R (.error e) s'') (fun e' s'' => R (.error e') s'') s')
        { s with heap := h₁, toks := tk })
    (hco : scope.isCoroutine = false := by rfl) (hgen : scope.isGenerator = false := by rfl) (hk : scope.kind = .function := by rfl) :
    codeC (model prog w) A (.call (.ref a) ⟨args, []⟩) R s := by
  refine codeC_def (fd := Calls.docDef name params body scope pm cd doc) (body := body) ho hdata hco hgen rfl hcd ?_
  rw [hbind]
  refine wpC_any (wpAny_pure (wpAny_newFunctionEnv_cells hk hkind fun env he s' X => ?_))
  subst he
  refine ⟨hlim.keeps X.toInCall.keep, hroom, codeC_func ?_⟩
  obtain ⟨h₁, tk, rfl, _⟩ := X.done
  obtain ⟨cells, N, Y⟩ := Cl.news (h₀ := s.heap) (Nat.le_refl _) fun n c hm => ⟨X.cell n c (lookup_of_mem_nodup (cellsFrom_names scope.names 0 (s.heap.objs.size + 1) [] [] rfl ▸ hnd) hm), X.above n c hm⟩
  exact h h₁ tk cells ⟨X.toInCall.ns, X.toInCall.keep, X.toInCall.fresh⟩ N Y
end MineH
end
section
set_option maxRecDepth 100000
set_option maxHeartbeats 4000000
namespace Mine
open PySem PySem.W PySem.Calls PyProof.Rows
theorem news_tl {h₀ h : Heap} {L : Addr} {p : Addr × Obj} {r : List (Addr × Obj)} (N : News h₀ L h (p :: r)) : News h₀ L h r := fun q hq => N q (List.mem_cons_of_mem _ hq)
/-- the turn's own objects are left behind -/
theorem unr_head {h₀ : Heap} {L I : Addr} {it : Obj} {rest : (PySem.Str → Option Value) → List (Addr × Obj) → Prop} {s₁ : Shared} {h' : Heap} {tk : Nat} {m' : PySem.Str → Option Value} {news : List (Addr × Obj)}
    (F : Fr h₀ L h' m') (N : News h₀ L h' ((I, it) :: news)) (off : ∀ p ∈ news, p.1 < I) (r : rest m' news) : UnrEnd h₀ L s₁ I it rest { s₁ with heap := h', toks := tk } :=
  UnrEnd.intro F N news (fun _ hp => hp) (fun p hp => Nat.ne_of_lt (off p hp)) r
theorem not3 {a b c z : PySem.Str} (h : [a, b, c].contains z = false) : z ≠ a ∧ z ≠ b ∧ z ≠ c := by
  simp only [List.contains_cons, List.contains_nil, Bool.or_false, Bool.or_eq_false_iff, beq_eq_false_iff_ne, ne_eq] at h
  exact ⟨h.1, h.2.1, h.2.2⟩
theorem forget_map {h₀ h : Heap} {L : Addr} {m : PySem.Str → Option Value} {G : Prop} (F : Fr h₀ L h m) (k : ∀ m, Fr h₀ L h m → G) : G := k m F
end Mine
end
section
set_option maxRecDepth 100000
set_option maxHeartbeats 4000000
namespace Mine
open PySem PySem.W PySem.Calls PyProof.Rows
theorem wpC_callWith1 {M : Model} {A : Around} {E : Value → Shared → Prop} {s : Shared} {env : Env} {C : Addr} {e : PySem.Expr} {x : Sem Value} {pos : Pos} {Q : Value → Shared → Prop}
    (h : wpAny M A (spliced (backTo pos (starEach [e] env))) (fun vs s₁ => MakesX M s₁.heap C ∧ wpC M A (call (.ref C) vs []) Q E s₁) E s) (hx : backTo pos (starEach [e] env) = [(false, x)]) :
    wpC M A (callWith pos (.ref C) [] (backTo pos (starEach [e] env)) []) Q E s := by
  rw [hx] at h ⊢
  exact wpC_callWith h
theorem bind_short {M : Model} {A : Around} {E : Value → Shared → Prop} {s : Shared} {name : PySem.Str} {body : List Stmt} {scope : Scope} {doc pm cdv ct : Value} {an : Option Addr} {p1 p2 p3 : Pos} {a b : Value} {Q : List (PySem.Str × Value) → Shared → Prop}
    (hh : A.handled = none)
    (h : ∀ h' e t k msg, Heap.MadeExc s.heap h' e "TypeError" [.str (PySem.Str.ofString msg) t] → E (.ref e) { s with heap := h', toks := k }) :
    wpC M A (bindArgs (fnOf name (PySem.Str.ofString "NoOptionError.__init__") ⟨[], [⟨PySem.Str.ofString "self", none, p1⟩, ⟨PySem.Str.ofString "option", none, p2⟩, ⟨PySem.Str.ofString "section", none, p3⟩], none, [], [], none, []⟩ body scope .none .none doc pm an cdv ct) ⟨[a, b], []⟩) Q E s := by
  unfold bindArgs
  dsimp only [fnOf]
  refine wpC_bindA ?_
  refine wpAny_pure ?_
  refine wpC_bindA (m := seqItems? Value.none) (wpAny_pure ?_)
  rw [if_neg (by simp)]
  rw [if_pos (by kernel_rfl)]
  refine wpC_bindA (wpAny_rule ?_)
  refine wpC_bind (wpC_refuses hh (Nat.le_of_ble_eq_true (by kernel_rfl)) fun h' e t k hx => h h' e t k _ hx)
end Mine
end
section
open PySem PySem.W PyProof.Rows
namespace MineH
set_option maxRecDepth 100000 in
set_option maxHeartbeats 8000000 in
open_top hd for PySem.Challenge.rw_dm0029_01
end MineH
end
theorem Mine.walk_anew : True := by w_top off; trivial
section
open PySem PySem.W PyProof.Rows PySem.Calls PySem.Builtin PySem.Builtin.Str PySem.StrLaws
set_option maxRecDepth 100000
set_option maxHeartbeats 4000000
namespace Mine
def esc (q : Nat) (l : List Nat) : List Nat := l.flatMap (reprChar q)
theorem foldl_esc (q : Nat) : ∀ (l : List Nat) (acc : Array Nat), (l.foldl (fun out c => out ++ (reprChar q c).toArray) acc).toList = acc.toList ++ esc q l
  | [], acc => by simp [esc]
  | c :: r, acc => by
    rw [List.foldl_cons, foldl_esc q r]
    simp [esc, List.append_assoc]
theorem repr_list (x : PySem.Str) : (reprText x).cps.toList = reprQuote x :: (esc (reprQuote x) x.cps.toList ++ [reprQuote x]) := by
  unfold reprText
  show ((x.cps.foldl (fun out c => out ++ (reprChar (reprQuote x) c).toArray) #[reprQuote x]).push (reprQuote x)).toList = _
  rw [Array.toList_push, ← Array.foldl_toList, foldl_esc]
  simp
def hx (d : Nat) : Nat := if d < 10 then 48 + d else 87 + d
def chr1 (q c : Nat) : List Nat := if c = q ∨ c = 92 then [92, c] else if c = 10 then [92, 110] else if c = 13 then [92, 114] else if c = 9 then [92, 116] else if 32 ≤ c ∧ c < 127 then [c] else [92, 120, hx (c / 16), hx (c % 16)]
theorem table39 : ∀ c : Fin 128, reprChar 39 c.val = chr1 39 c.val := by decide +kernel
theorem table34 : ∀ c : Fin 128, reprChar 34 c.val = chr1 34 c.val := by decide +kernel
/-- the place of a text as Python writes it -/
def ReadAt (W T : PySem.Str) (q : Nat) (p : Int) : Prop :=
  ∃ (n : Nat) (post : List Nat), p = n ∧ W.cps.toList.drop n = q :: (esc q T.cps.toList ++ q :: post) ∧ q = reprQuote T ∧ (∀ c ∈ T.cps.toList, c < 128) ∧ W.length ≤ 1000000 ∧ T.length ≤ 1000000
def ReadIn (W T : PySem.Str) (q : Nat) (p a : Int) (o : PySem.Str) : Prop :=
  ∃ (n m : Nat) (rest post : List Nat), a = n ∧ p = m ∧ W.cps.toList.drop n = esc q rest ++ q :: post ∧ T.cps.toList = o.cps.toList ++ rest ∧ n = m + 1 + (esc q o.cps.toList).length ∧ q = reprQuote T ∧ (∀ c ∈ T.cps.toList, c < 128) ∧ W.length ≤ 1000000 ∧ T.length ≤ 1000000
theorem ite_f {b : Bool} {P Q : Prop} (h : b = false) (q : Q) : if b = true then P else Q := by rw [h, if_neg (by decide)]; exact q
theorem ite_t {b : Bool} {P Q : Prop} (h : b = true) (q : P) : if b = true then P else Q := by rw [h, if_pos rfl]; exact q
def Due (W T : PySem.Str) (q : String) (a : Int) (o : PySem.Str) : Prop := Txt.item W a = PySem.Str.ofString q ∧ o = T
def Raw (W T : PySem.Str) (q : Nat) (qs : String) (p a : Int) (o : PySem.Str) (c : Nat) : Prop :=
  Txt.item W a = ⟨#[c]⟩ ∧ 32 ≤ c ∧ c < 127 ∧ ((⟨#[c]⟩ : PySem.Str) != PySem.Str.ofString qs) = true ∧ ((⟨#[c]⟩ : PySem.Str) != PySem.Str.ofString "\\") = true ∧ ReadIn W T q p (a + 1) (o ++ ⟨#[c]⟩)
def Let (W T : PySem.Str) (q : Nat) (p a : Int) (o : PySem.Str) (l s : String) : Prop :=
  Txt.item W a = PySem.Str.ofString "\\" ∧ Txt.slice W (some (a + 1)) (some (a + 2)) = PySem.Str.ofString l ∧ ReadIn W T q p (a + 2) (o ++ PySem.Str.ofString s)
def Hex (W T : PySem.Str) (q : Nat) (p a : Int) (o : PySem.Str) (c : Nat) : Prop :=
  Txt.item W a = PySem.Str.ofString "\\" ∧ Txt.slice W (some (a + 1)) (some (a + 2)) = PySem.Str.ofString "x" ∧ Txt.slice W (some (a + 2)) (some (a + 4)) = ⟨#[hx (c / 16), hx (c % 16)]⟩ ∧ c < 128 ∧ (c < 32 ∨ 127 ≤ c) ∧ c ≠ 9 ∧ c ≠ 10 ∧ c ≠ 13 ∧ ReadIn W T q p (a + 4) (o ++ ⟨#[c]⟩)
def Turns (W T : PySem.Str) (q : Nat) (qs : String) (p a : Int) (o : PySem.Str) : Prop := 0 ≤ a ∧ a < (W.length : Int) ∧ o.length ≤ 1000000 ∧
    (Due W T qs a o ∨ (∃ c, Raw W T q qs p a o c) ∨ Let W T q p a o "n" "\n" ∨ Let W T q p a o "t" "\t" ∨ Let W T q p a o "r" "\r" ∨ Let W T q p a o "\\" "\\" ∨ Let W T q p a o qs qs ∨ ∃ c, Hex W T q p a o c)
section
variable {W : PySem.Str} {n : Nat}
theorem drop_lt {l r : List Nat} {n : Nat} (h : l.drop n = r) : r.length ≤ l.length - n ∧ (r ≠ [] → n < l.length) := by
  have := List.length_drop (i := n) (l := l)
  rw [h] at this
  refine ⟨by omega, fun hr => ?_⟩
  have : 0 < r.length := List.length_pos_iff.mpr hr
  omega
theorem item_drop {c : Nat} {r : List Nat} (h : W.cps.toList.drop n = c :: r) : Txt.item W (n : Int) = ⟨#[c]⟩ := by
  have hl := (drop_lt h).2 (by simp)
  refine PyProof.Rows.item_meets (Int.natCast_nonneg _) ?_
  rw [Int.toNat_natCast, ← Array.getElem?_toList]
  have := congrArg (fun l => l[0]?) h
  simpa using this
theorem slice_drop {i j : Nat} {r : List Nat} (h : W.cps.toList.drop n = r) (hr : r ≠ []) (hj : j ≤ r.length) (hij : i ≤ j) : (Txt.slice W (some ((n : Int) + i)) (some ((n : Int) + j))).cps.toList = (r.drop i).take (j - i) := by
  have hl := (drop_lt h).1
  have := (drop_lt h).2 hr
  rw [show (n : Int) + i = ((n + i : Nat) : Int) from by omega, show (n : Int) + j = ((n + j : Nat) : Int) from by omega, slice_ij (by omega) (by
    rw [len_cps]; omega), ← List.drop_drop, h, show n + j - (n + i) = j - i from by omega]
theorem esc_cons (q c : Nat) (l : List Nat) : esc q (c :: l) = reprChar q c ++ esc q l := by simp [esc]
theorem esc_snoc (q c : Nat) (l : List Nat) : esc q (l ++ [c]) = esc q l ++ reprChar q c := by simp [esc]
theorem read_step {T o x : PySem.Str} {q c m k : Nat} {rest post : List Nat} (hd : W.cps.toList.drop n = esc q (c :: rest) ++ q :: post) (hT : T.cps.toList = o.cps.toList ++ c :: rest) (hn : n = m + 1 + (esc q o.cps.toList).length)
    (hq : q = reprQuote T) (hc : ∀ c ∈ T.cps.toList, c < 128) (hW : W.length ≤ 1000000) (hTl : T.length ≤ 1000000) (hx : x.cps.toList = [c]) (hk : (reprChar q c).length = k) : ReadIn W T q (m : Int) ((n : Int) + k) (o ++ x) := by
  refine ⟨n + k, m, rest, post, by omega, rfl, ?_, ?_, ?_, hq, hc, hW, hTl⟩
  · rw [← List.drop_drop, hd, esc_cons, List.append_assoc, ← hk, List.drop_left]
  · rw [cps_app, hx, hT, List.append_assoc]; rfl
  · rw [cps_app, hx, esc_snoc, List.length_append, hk, hn]; omega
theorem one_ne {c d : Nat} {x : PySem.Str} (hx : x.cps.toList = [d]) (h : c ≠ d) : ((⟨#[c]⟩ : PySem.Str) != x) = true := by
  rw [bne_iff_ne]
  intro e
  rw [← e] at hx
  exact h (by simpa using hx)
theorem turnG {T o : PySem.Str} {p a : Int} {q : Nat} {qs : String} (hqs : (PySem.Str.ofString qs).cps.toList = [q]) (tab : ∀ c : Fin 128, reprChar q c.val = chr1 q c.val) (h : ReadIn W T q p a o) : Turns W T q qs p a o := by
  obtain ⟨n, m, rest, post, rfl, rfl, hd, hT, hn, hq, hc, hW, hTl⟩ := h
  have hlt := (drop_lt hd).2 (by simp)
  have hol : o.length ≤ 1000000 := by
    have : T.length = o.length + rest.length := by rw [len_cps, hT, List.length_append, len_cps]
    omega
  refine ⟨by omega, by rw [len_cps]; omega, hol, ?_⟩
  have b92 : (PySem.Str.ofString "\\").cps.toList = [92] := by decide +kernel
  cases rest with
  | nil =>
    left
    have hi := item_drop (show W.cps.toList.drop n = q :: post from hd)
    refine ⟨?_, str_eq (by rw [hT, List.append_nil])⟩
    rw [hi]
    exact str_eq hqs.symm
  | cons c rest =>
    right
    have hc128 := hc c (by rw [hT]; simp)
    have hr := tab ⟨c, hc128⟩
    simp only at hr
    have hd' : W.cps.toList.drop n = chr1 q c ++ (esc q rest ++ q :: post) := by rw [hd, esc_cons, hr, List.append_assoc]
    have step : ∀ (x : PySem.Str) (k : Nat), x.cps.toList = [c] → (chr1 q c).length = k → ReadIn W T q (m : Int) ((n : Int) + k) (o ++ x) := fun x k hx hk => read_step hd hT hn hq hc hW hTl hx (by rw [hr]; exact hk)
    have letter : ∀ (l s : String) (d : Nat), chr1 q c = [92, d] → (PySem.Str.ofString l).cps.toList = [d] → (PySem.Str.ofString s).cps.toList = [c] → Let W T q (m : Int) (n : Int) o l s := fun l s d e hl hs => by
      rw [e] at hd'
      refine ⟨?_, ?_, step _ 2 hs (by rw [e]; rfl)⟩
      · rw [item_drop hd']; exact str_eq b92.symm
      · refine str_eq ?_
        rw [show ((n : Int) + 1) = (n : Int) + ((1 : Nat) : Int) from rfl, show ((n : Int) + 2) = (n : Int) + ((2 : Nat) : Int) from rfl, slice_drop hd' (by simp) (by simp) (by decide), hl]
        rfl
    by_cases h1 : c = q ∨ c = 92
    · have e : chr1 q c = [92, c] := by unfold chr1; rw [if_pos h1]
      by_cases h2 : c = 92
      · subst h2; exact .inr (.inr (.inr (.inr (.inl (letter _ _ _ e b92 b92)))))
      · have h3 : c = q := h1.resolve_right h2
        subst h3; exact .inr (.inr (.inr (.inr (.inr (.inl (letter _ _ _ e hqs hqs))))))
    by_cases h2 : c = 10
    · subst h2; exact .inr (.inl (letter _ _ _ (by unfold chr1; rw [if_neg h1, if_pos rfl]) (by decide +kernel) (by decide +kernel)))
    by_cases h3 : c = 13
    · subst h3; exact .inr (.inr (.inr (.inl (letter _ _ _ (by unfold chr1; rw [if_neg h1, if_neg h2, if_pos rfl]) (by decide +kernel) (by decide +kernel)))))
    by_cases h4 : c = 9
    · subst h4; exact .inr (.inr (.inl (letter _ _ _ (by unfold chr1; rw [if_neg h1, if_neg h2, if_neg h3, if_pos rfl]) (by decide +kernel) (by decide +kernel))))
    by_cases h5 : 32 ≤ c ∧ c < 127
    · left
      have e : chr1 q c = [c] := by unfold chr1; rw [if_neg h1, if_neg h2, if_neg h3, if_neg h4, if_pos h5]
      have hi : Txt.item W (n : Int) = ⟨#[c]⟩ := item_drop (by rw [hd', e]; rfl)
      exact ⟨c, hi, h5.1, h5.2, one_ne hqs fun z => h1 (.inl z), one_ne b92 fun z => h1 (.inr z), step _ 1 rfl (by rw [e]; rfl)⟩
    · refine .inr (.inr (.inr (.inr (.inr (.inr ⟨c, ?_⟩)))))
      have e : chr1 q c = [92, 120, hx (c / 16), hx (c % 16)] := by unfold chr1; rw [if_neg h1, if_neg h2, if_neg h3, if_neg h4, if_neg h5]
      rw [e] at hd'
      refine ⟨?_, ?_, ?_, hc128, by omega, h4, h2, h3, step _ 4 rfl (by rw [e]; rfl)⟩
      · rw [item_drop hd']; exact str_eq b92.symm
      · refine str_eq ?_
        rw [show ((n : Int) + 1) = (n : Int) + ((1 : Nat) : Int) from rfl, show ((n : Int) + 2) = (n : Int) + ((2 : Nat) : Int) from rfl, slice_drop hd' (by simp) (by simp) (by decide)]
        show [120] = _
        decide +kernel
      · refine str_eq ?_
        rw [show ((n : Int) + 2) = (n : Int) + ((2 : Nat) : Int) from rfl, show ((n : Int) + 4) = (n : Int) + ((4 : Nat) : Int) from rfl, slice_drop hd' (by simp) (by simp) (by decide)]
        rfl
end
theorem read_go {W T : PySem.Str} {q : Nat} {p : Int} (h : ReadAt W T q p) : ReadIn W T q p (p + 1) (PySem.Str.ofString "") := by
  obtain ⟨n, post, rfl, hd, hq, hc, hW, hTl⟩ := h
  refine ⟨n + 1, n, T.cps.toList, post, by omega, rfl, ?_, ?_, ?_, hq, hc, hW, hTl⟩
  · rw [← List.drop_drop, hd]; rfl
  · rw [show (PySem.Str.ofString "").cps.toList = [] from by decide +kernel]; rfl
  · rw [show (PySem.Str.ofString "").cps.toList = [] from by decide +kernel]; rfl
theorem turn39 {W T : PySem.Str} {p a : Int} {o : PySem.Str} (h : ReadIn W T 39 p a o) : Turns W T 39 "'" p a o := turnG (qs := "'") (by decide +kernel) table39 h
theorem turn34 {W T : PySem.Str} {p a : Int} {o : PySem.Str} (h : ReadIn W T 34 p a o) : Turns W T 34 "\"" p a o := turnG (qs := "\"") (by decide +kernel) table34 h
theorem read_pos {W T : PySem.Str} {q : Nat} {p a : Int} {o : PySem.Str} (h : ReadIn W T q p a o) (e : o = T) : a + 1 = p + ((reprText T).length : Int) := by
  obtain ⟨n, m, rest, post, rfl, rfl, hd, hT, hn, hq, hc, hW, hTl⟩ := h
  subst e
  rw [len_cps, repr_list, ← hq]
  simp only [List.length_cons, List.length_append, List.length_nil]
  omega
theorem read_mark {W T : PySem.Str} {q : Nat} {p : Int} {qs : String} (hqs : (PySem.Str.ofString qs).cps.toList = [q]) (h : ReadAt W T q p) : Txt.slice W (some p) (some (p + 1)) = PySem.Str.ofString qs := by
  obtain ⟨n, post, rfl, hd, hq, hc, hW, hTl⟩ := h
  refine str_eq ?_
  have := slice_drop (i := 0) (j := 1) hd (by simp) (by simp) (by decide)
  rw [show ((n : Int)) = (n : Int) + ((0 : Nat) : Int) from by omega]
  rw [show ((n : Int) + ((0 : Nat) : Int) + 1) = (n : Int) + ((1 : Nat) : Int) from by omega, this, hqs]
  rfl
/-- a sign in a text -/
theorem occ_empty (x : PySem.Str) (c : Nat) : (occurrences x ⟨#[c]⟩ 0 x.length 1).isEmpty = true ↔ c ∉ x.cps.toList := by
  rw [occ_eq]
  constructor
  · intro h hc
    rw [occ_fold] at h
    have key : ∀ (l : List Nat) (i : Nat), i ∈ l → x.cps.toList[i]? = some c → ∃ j, (l.foldl (ostep x c 1) ((#[] : Array Nat), 0)).1 = #[j] := by
      intro l
      induction l with
      | nil => intro i hi; cases hi
      | cons a r ih =>
        intro i hi e
        by_cases q : x.cps.toList[a]? = some c
        · rw [List.foldl_cons, step_hit (by decide) (Nat.zero_le _) q]
          refine ⟨a, ?_⟩
          have full : ∀ (r : List Nat) (st : Array Nat × Nat), st.1.size = 1 → r.foldl (ostep x c 1) st = st := by
            intro r
            induction r with
            | nil => intro st _; rfl
            | cons b r ih =>
              intro st hs
              rw [List.foldl_cons, ostep, if_neg (by intro z; have := z.1.1.1; omega)]
              exact ih st hs
          rw [full r _ (by simp)]
          rfl
        · rcases List.mem_cons.mp hi with rfl | hi
          · exact absurd e q
          · obtain ⟨j, hj⟩ := ih i hi e
            exact ⟨j, by rw [List.foldl_cons, show ostep x c 1 ((#[] : Array Nat), 0) a = ((#[] : Array Nat), 0) from fold_skip [a] _ (by intro b hb; rw [List.mem_singleton.mp hb]; exact q)]; exact hj⟩
    obtain ⟨i, hi, e⟩ := List.mem_iff_getElem.mp hc
    obtain ⟨j, hj⟩ := key (List.range' 0 (x.length + 1 - 0)) i (by rw [List.mem_range'_1, len_cps]; omega) (by rw [List.getElem?_eq_getElem hi, e])
    rw [hj] at h
    cases h
  · intro h
    rw [occ_fold, fold_skip _ _ (fun i _ => no_at h)]
    rfl
theorem hex_find {d : Nat} (h : d < 16) : (Txt.find (PySem.Str.ofString "0123456789abcdef") ⟨#[hx d]⟩ : Int) = (d : Int) := by
  have key : ∀ d : Fin 16, (Txt.find (PySem.Str.ofString "0123456789abcdef") ⟨#[hx d.val]⟩ : Int) = (d.val : Int) := by decide +kernel
  exact key ⟨d, h⟩
theorem hx_lt {d : Nat} (h : d < 16) : hx d < 128 := by unfold hx; split <;> omega
theorem hi16 {c : Nat} (h : c < 128) : c / 16 < 16 := by omega
theorem lo16 (c : Nat) : c % 16 < 16 := by omega
theorem due39 {W T : PySem.Str} {p a : Int} {o : PySem.Str} (h : ReadIn W T 39 p a o) (e : o = T) (h1 : (occurrences o (PySem.Str.ofString "'") 0 o.length 1).isEmpty = false) (h2 : (occurrences o (PySem.Str.ofString "\"") 0 o.length 1).isEmpty = true) : False := by
  obtain ⟨n, m, rest, post, rfl, rfl, hd, hT, hn, hq, hc, hW, hTl⟩ := h
  subst e
  rw [show PySem.Str.ofString "'" = ⟨#[39]⟩ from by decide +kernel] at h1
  rw [show PySem.Str.ofString "\"" = ⟨#[34]⟩ from by decide +kernel] at h2
  have q1 : 39 ∈ o.cps.toList := Classical.byContradiction fun z => by rw [(occ_empty o 39).mpr z] at h1; cases h1
  have q2 := (occ_empty o 34).mp h2
  unfold reprQuote at hq
  rw [if_pos (by
    rw [Bool.and_eq_true, Bool.not_eq_true']
    refine ⟨by simpa using q1, ?_⟩
    cases z : o.cps.contains 34
    · rfl
    · exact absurd (by simpa using z) q2)] at hq
  cases hq
theorem due34 {W T : PySem.Str} {p a : Int} {o : PySem.Str} (h : ReadIn W T 34 p a o) (e : o = T) : (occurrences o (PySem.Str.ofString "'") 0 o.length 1).isEmpty = false ∧ (occurrences o (PySem.Str.ofString "\"") 0 o.length 1).isEmpty = true := by
  obtain ⟨n, m, rest, post, rfl, rfl, hd, hT, hn, hq, hc, hW, hTl⟩ := h
  subst e
  unfold reprQuote at hq
  have hq' : (o.cps.contains 39 && !o.cps.contains 34) = true := by
    cases z : (o.cps.contains 39 && !o.cps.contains 34)
    · rw [z] at hq; cases hq
    · rfl
  rw [Bool.and_eq_true, Bool.not_eq_true'] at hq'
  rw [show PySem.Str.ofString "'" = ⟨#[39]⟩ from by decide +kernel, show PySem.Str.ofString "\"" = ⟨#[34]⟩ from by decide +kernel]
  constructor
  · cases z : (occurrences o ⟨#[39]⟩ 0 o.length 1).isEmpty
    · rfl
    · exact absurd (by simpa using hq'.1) ((occ_empty o 39).mp z)
  · exact (occ_empty o 34).mpr (fun z => by have : o.cps.contains 34 = true := by simpa using z
                                            rw [hq'.2] at this; cases this)
theorem due34f {W T : PySem.Str} {p a : Int} {o : PySem.Str} (h : ReadIn W T 34 p a o) (e : o = T) (h1 : (occurrences o (PySem.Str.ofString "'") 0 o.length 1).isEmpty = true) : False := by
  rw [(due34 h e).1] at h1; cases h1
theorem due34t {W T : PySem.Str} {p a : Int} {o : PySem.Str} (h : ReadIn W T 34 p a o) (e : o = T) (h1 : (occurrences o (PySem.Str.ofString "\"") 0 o.length 1).isEmpty = false) : False := by
  rw [(due34 h e).2] at h1; cases h1
theorem news1 {h₀ h : Heap} {L : Addr} {news : List (Addr × Obj)} {p : Addr × Obj} (N : News h₀ L h news) (hp : p ∈ news) : News h₀ L h [p] := fun q hq => by rw [List.mem_singleton.mp hq]; exact N p hp
theorem hexnum (c : Nat) : [((c / 16 : Nat) : Int), ((c % 16 : Nat) : Int)].getD (Int.toNat 0) 0 * 16 + [((c / 16 : Nat) : Int), ((c % 16 : Nat) : Int)].getD (Int.toNat 1) 0 = (c : Int) := by
  show ((c / 16 : Nat) : Int) * 16 + ((c % 16 : Nat) : Int) = (c : Int)
  omega
theorem any_f {c : Nat} (h1 : c ≠ 9) (h2 : c ≠ 10) (h3 : c ≠ 13) : (([9, 10, 13] : List Int).any fun x => x == (c : Int)) = false := by
  simp only [List.any_cons, List.any_nil, Bool.or_false, Bool.or_eq_false_iff, beq_eq_false_iff_ne, ne_eq]
  omega
/-- a text as Python writes it stands at a place of W -/
def At (W T : PySem.Str) (p : Int) : Prop :=
  ∃ (n : Nat) (post : List Nat), p = n ∧ W.cps.toList.drop n = (reprText T).cps.toList ++ post ∧ (∀ c ∈ T.cps.toList, c < 128) ∧ W.length ≤ 1000000 ∧ T.length ≤ 1000000
theorem At.split {W T : PySem.Str} {p : Int} (h : At W T p) : ReadAt W T 39 p ∨ ReadAt W T 34 p := by
  obtain ⟨n, post, rfl, hd, hc, hW, hT⟩ := h
  rw [repr_list] at hd
  have hd' : W.cps.toList.drop n = reprQuote T :: (esc (reprQuote T) T.cps.toList ++ reprQuote T :: post) := by rw [hd]; simp
  have hq : reprQuote T = 39 ∨ reprQuote T = 34 := by unfold reprQuote; split <;> simp
  rcases hq with q | q
  · rw [q] at hd'; exact .inl ⟨n, post, rfl, hd', q.symm, hc, hW, hT⟩
  · rw [q] at hd'; exact .inr ⟨n, post, rfl, hd', q.symm, hc, hW, hT⟩
theorem At.len {W T : PySem.Str} {p : Int} (h : At W T p) : W.length ≤ 1000000 := by obtain ⟨_, _, _, _, _, hW, _⟩ := h; exact hW
theorem At.cast {W T : PySem.Str} {p p' : Int} (h : At W T p) (e : p' = p) : At W T p' := e ▸ h
theorem fresh {h g h' : Heap} {L' a : Addr} {o : Obj} {news : List (Addr × Obj)} (hg : ∀ b o, h.get? b = some o → b ∉ ([] : List (Addr × Obj)).map (·.1) → g.get? b = some o) (N : News g L' h' ((a, o) :: news)) : h.get? a = none := by
  cases e : h.get? a with
  | none => rfl
  | some x =>
    have h1 := hg a x e (by simp)
    have h2 := (N _ (List.mem_cons_self ..)).2.2
    rw [h2] at h1; cases h1
theorem news_ne {h₀ h : Heap} {L a : Addr} {news : List (Addr × Obj)} (N : News h₀ L h news) (e : h.get? a = none) : ∀ p ∈ news, @Ne Nat p.1 a := fun p hp z => by
  have := (N p hp).1
  rw [z, e] at this; cases this
end Mine
end
section
open PySem PySem.W PyProof.Rows PySem.Calls
namespace Mine
local macro_rules | `(tactic| k_ne) => `(tactic| k_extra "ne")
set_option maxRecDepth 100000 in
theorem xc59 (w : World) : model PySem.Challenge.rw_dm0029_01.row.prog w = model PySem.Challenge.rw_dm0029_01.row.prog w → XCls (MineH.hd.heap_39 w.params) 59 := by
  k_fill
  intro _
  exact ⟨⟨_, _, _, _, by k_is, by rfl⟩, by k_is, by k_is, by k_is, by k_is, by k_is⟩
local macro_rules | `(tactic| walk_at "exec For Name BinOp cons nil") => `(tactic| k_extra "exec For Name BinOp cons nil")
local macro_rules | `(tactic| walk_at "call ref") => `(tactic| k_extra "call ref")
local macro_rules | `(tactic| walk_at "call builtin:repr") => `(tactic| k_extra "call builtin:repr")
local macro_rules | `(tactic| walk_at "compareOp IsNot") => `(tactic| k_extra "compareOp IsNot")
local macro_rules | `(tactic| walk_at "compareOp Is") => `(tactic| k_extra "compareOp Is")
local macro_rules | `(tactic| walk_at "getMethod type:Exception") => `(tactic| k_extra "getMethod type:Exception")
local macro_rules | `(tactic| walk_at "call builtin:Exception.__init__") => `(tactic| k_extra "call builtin:Exception.__init__")
local macro_rules | `(tactic| walk_at "call builtin:str.format") => `(tactic| k_extra "call builtin:str.format")
local macro_rules | `(tactic| walk_at "call builtin:str.join") => `(tactic| k_extra "call builtin:str.join")
local macro_rules | `(tactic| walk_at "setAttr ref") => `(tactic| k_extra "setAttr ref")
local macro_rules | `(tactic| walk_at "getAttr ref") => `(tactic| k_extra "getAttr ref")
local macro_rules | `(tactic| kt_len) => `(tactic| (with_reducible exact Mine.ReprAs.len (by with_reducible assumption)))
local macro_rules | `(tactic| kt_len) => `(tactic| (with_reducible exact Mine.pad2_len (by with_reducible assumption) (by with_reducible assumption)))
local macro_rules | `(tactic| kt_len) => `(tactic| (with_reducible exact Mine.itext_len_le (by with_reducible assumption) (by with_reducible assumption)))
local macro_rules | `(tactic| walk_at "binaryOp Mod str ref") => `(tactic| k_extra "binaryOp Mod str ref")
def noOpt (x y : PySem.Str) : PySem.Str := PySem.Str.ofString "No option " ++ reprText x ++ PySem.Str.ofString " in section: " ++ reprText y
/-- how the arguments of a call of the constructor are bound -/
def BindsI (K : Frag) (pos : List Value) (kw : List (PySem.Str × Value)) (o s : Value) : Prop :=
  ∀ (x : Addr) (s' : Shared), K.In s'.heap → match K.lookup 56 with
    | some ⟨_, _, .func fd, _⟩ => BindsTo s' fd ⟨.ref x :: pos, kw⟩ [(PySem.Str.ofString "self", .ref x), (PySem.Str.ofString "option", o), (PySem.Str.ofString "section", s)]
    | _ => False
set_option rowWalk.seconds 0 in
set_option maxRecDepth 100000 in
set_option maxHeartbeats 16000000 in
theorem noe_T : ∀ (w : World) (loose : List PySem.Str) (mean : ExcName → Option Value) (mg mb : PySem.Str → Option Value) (dp un : Nat) (cn : PySem.Str) (cs : Scope) (a : Addr) (ccd : Value) (cl : List (PySem.Str × Addr)) (outer : List Env) (A₀ : Around) (base h₀ : Heap) (L : Addr) (m : PySem.Str → Option Value) (h : Heap) (g : Array GenState) (d : Drawn) (tk : Nat) (os : OsState) (Q E : Value → Shared → Prop) (pos : List Value) (kw : List (PySem.Str × Value)) (o s : PySem.Str) (t1 t2 : Tok),
    Below A₀ base outer h₀ → Fr h₀ L h m → (MineH.hd.heap_39 w.params).In h₀ → Top MineH.hd.view_39 loose mean mg mb h₀ → cs.kind = .function → dp + 5 < recursionLimit → un + 80 < cLine → pos.length ≤ 1000 → BindsI (MineH.hd.heap_39 w.params) pos kw (.str o t1) (.str s t2) → (reprText o).length ≤ 4000000 → (reprText s).length ≤ 4000000 →
    (∀ (x dx tx : Addr) (kt0 kt1 kt2 km : Tok) (h' : Heap) (tk' : Nat), (∀ b o, h.get? b = some o → h'.get? b = some o) → Fr h₀ L h' m → News h₀ L h' [(x, xObj 59 (some dx) (excF (.ref tx))), (dx, dictOf [⟨PyData.keyHash w.params (PySem.Str.ofString "message"), .str (PySem.Str.ofString "message") kt0, .str (noOpt o s) km⟩, ⟨PyData.keyHash w.params (PySem.Str.ofString "option"), .str (PySem.Str.ofString "option") kt1, .str o t1⟩, ⟨PyData.keyHash w.params (PySem.Str.ofString "section"), .str (PySem.Str.ofString "section") kt2, .str s t2⟩] 3), (tx, tupObj [.str o t1, .str s t2])] → Q (.ref x) ⟨h', g, d, tk', os⟩) →
    wpAny (model PySem.Challenge.rw_dm0029_01.row.prog w) (ktrTop dp un (some []) cn cs L a ccd cl outer) (call (.ref 59) pos kw) Q E ⟨h, g, d, tk, os⟩ := by
  k_with_none
  k_with "ne" => (first | exact Mine.ne_l1 (by assumption) | exact Mine.ne_l1' (by assumption) | exact Mine.ne_r1 (by assumption) | exact Mine.ne_r1' (by assumption) | exact Mine.ne_l2 (by assumption) | exact Mine.ne_l2' (by assumption) | exact Mine.ne_r2 (by assumption) | exact Mine.ne_r2' (by assumption) | exact Mine.ne_l3 (by assumption) | exact Mine.ne_l3' (by assumption) | exact Mine.ne_r3 (by assumption) | exact Mine.ne_r3' (by assumption) | exact Mine.ne_l4 (by assumption) | exact Mine.ne_l4' (by assumption) | exact Mine.ne_r4 (by assumption) | exact Mine.ne_r4' (by assumption) | exact Mine.ne_l5 (by assumption) | exact Mine.ne_l5' (by assumption) | exact Mine.ne_r5 (by assumption) | exact Mine.ne_r5' (by assumption) | exact Mine.ne_l6 (by assumption) | exact Mine.ne_l6' (by assumption) | exact Mine.ne_r6 (by assumption) | exact Mine.ne_r6' (by assumption) | exact Mine.ne_l7 (by assumption) | exact Mine.ne_l7' (by assumption) | exact Mine.ne_r7 (by assumption) | exact Mine.ne_r7' (by assumption) | exact Mine.ne_l8 (by assumption) | exact Mine.ne_l8' (by assumption) | exact Mine.ne_r8 (by assumption) | exact Mine.ne_r8' (by assumption) | exact Mine.ne_l9 (by assumption) | exact Mine.ne_l9' (by assumption) | exact Mine.ne_r9 (by assumption) | exact Mine.ne_r9' (by assumption))
  k_with "exec For Name BinOp cons nil" => (k_here; (rename Fr _ _ _ _ => lF'); (with_unfolding_all refine' For_invVF lF' ?k1 ?k2 ?_; (case k1 => exact rfl); (case k2 => exact rfl); k_whole))
  k_with "call ref" => (k_here; k_dflt ((refine wpAny_call ?_); (refine' Mine.code_defG ?k1 ?k2 ?k3 ?k4 ?k5 ?kA ?kF ?kK ?k6 ?k7 ?k8 ?k9 ?kB ?_ ?c2 ?c3 ?c4 ?c5); (case kA => exact rfl); (case kF => exact rfl); (case kK => first | exact rfl | assumption); (case k1 => k_asm); (case k2 => k_asm); (case k3 => k_asm); (case k4 => k_asm); (case k5 => k_asm); (case k6 => k_is); (case k7 => k_is); (case k8 => ktr_room); (case k9 => first | exact BindsTo.of_eq rfl | exact binds_K (by k_in) rfl (by k_is) rfl rfl rfl | fail "no rule for these arguments"); (case c5 => decide); (case kB => exact locs rfl); (case c2 => exact rfl); (case c3 => exact rfl); (case c4 => exact rfl); k_whole; intro g' L' h' tk' hg' FG' F' N' B' X' T' l'; (clear hg'); (try k_lt l'); (try dsimp only); (try k_lift B'); (try k_fold)))
  k_with "call builtin:repr" => (k_here; (with_reducible show wpAny _ _ (call (Value.builtin "repr") [_]) _ _ _); k_dflt ((refine' Mine.ReprAs.run ?r0 ?rF ?rN ?rk ?ru ?rg ?_); (case r0 => with_reducible assumption); (case rF => k_asm); (case rN => k_asm); (case rk => first | exact (fun b o e => (Mine.keep_X (by with_reducible assumption) (by with_reducible assumption) (by with_reducible assumption) (by with_reducible assumption) b o e).1) | exact (fun _ _ e => Fr.keep (by with_reducible assumption) _ _ (Fr.keep (by with_reducible assumption) _ _ e)) | exact (fun _ _ e => Fr.keep (by with_reducible assumption) _ _ e)); (case ru => ((try simp only [units_deeper, units_in1, units_under_make, Mine.units_under_kw]); ktr_units)); (case rg => exact rfl); k_whole; intro t' k' h' F' N'))
  k_with "compareOp IsNot" => (k_here; (with_reducible show wpAny _ _ (compareOp CmpOp.IsNot _ Value.none) _ _ _); refine Mine.isNot_none' (by with_reducible assumption) ?_)
  k_with "compareOp Is" => (k_here; (with_reducible show wpAny _ _ (compareOp CmpOp.Is _ Value.none) _ _ _); refine Mine.is_none' (by with_reducible assumption) ?_)
  k_with "getMethod type:Exception" => (k_here; refine' method_type ?F ?X ?m (by decide +kernel) ?e ?h ?_; (case F => k_asm); (case X => k_asm); (case m => kernel_rfl); (case e => k_dflt k_is); (case h => k_handed))
  k_with "call builtin:Exception.__init__" => (k_here; k_dflt (refine' Mine.init_K ?k1 ?k2 ?k3 ?k4 ?k5 ?k6 ?_; (case k1 => k_asm); (case k2 => k_asm); (case k3 => k_asm); (case k6 => (intro tx'; k_upd)); (case k4 => first | (with_reducible assumption) | exact Mine.xc59 _ rfl); (case k5 => exact Nat.le_of_ble_eq_true rfl); k_whole); intro t' h' F' N' l1; (try dsimp only at N'); (try k_lt l1); (try k_sweep))
  k_with "call builtin:str.format" => (k_here; (with_reducible show wpAny _ _ (call (Value.builtin "str.format") [Value.str _ _, Value.int _ _]) _ _ _); (refine Mine.line_2d (by assumption) (by assumption) ?_); intro _ _)
  k_with "call builtin:str.join" => (k_here; (with_reducible show wpAny _ _ (call (Value.builtin "str.join") [Value.str _ _, Value.ref _]) _ _ _); k_dflt (refine' Mine.join_cat ?jN ?jm ?ji ?jB ?jn ?_; (case jN => k_asm); (case jm => k_mem); (case ji => repeat (first | exact PyProof.Rows.StrsAre.nil | apply PyProof.Rows.StrsAre.cons)); (case jB => (repeat (first | exact List.forall_mem_nil _ | refine List.forall_mem_cons.mpr ⟨by first | (with_reducible exact Mine.le5 (Mine.ReprAs.len (by assumption))) | (with_reducible exact Mine.line_len (by assumption) (by assumption)) | decide +kernel, ?_⟩))); (case jn => exact Nat.le_of_ble_eq_true rfl)); intro _ _; (try simp only [Mine.catS]))
  k_with "setAttr ref" => (k_here; k_dflt (refine' Mine.set_newK ?k1 ?k2 ?k3 ?k4 ?k5 ?k6 ?_; (case k1 => k_asm); (case k2 => k_asm); (case k3 => k_asm); (case k6 => (intro dx'; k_upd)); (case k4 => first | (with_reducible assumption) | exact Mine.xc59 _ rfl); (case k5 => k_is); k_whole; intro d' h' F' N' l1; (try dsimp only at N'); (try k_lt l1); (try k_sweep)))
  k_with "setAttr ref" => (k_here; k_dflt (refine' Mine.set_dictK ?k1 ?k2 ?k3 ?k4 ?k5 ?k6 ?k7 ?k10 ?k11 ?k12 ?k13 ?_; (case k1 => k_asm); (case k2 => k_asm); (case k3 => k_asm); (case k4 => (refine' Mine.instX ?N ?h1 ?h2; (case N => k_asm); (case h1 => k_mem); (case h2 => k_mem))); (case k5 => exact rfl); (case k6 => first | (with_reducible assumption) | exact Mine.xc59 _ rfl); (case k7 => k_is); (case k10 => k_get); (case k11 => k_put); (case k12 => k_upd); (case k13 => exact Nat.le_of_ble_eq_true rfl); k_whole; intro h' F' N'; (try k_sweep)))
  k_with "setAttr ref" => (k_here; (with_reducible show wpAny _ _ (setAttr (Value.ref _) (PySem.Str.ofString "args") (Value.ref _)) _ _ _); k_dflt (refine' Mine.set_argsK ?k1 ?k2 ?k3 ?k4 ?k5 ?k6 ?k7 ?k8 ?_; (case k1 => k_asm); (case k2 => k_asm); (case k3 => k_asm); (case k4 => (refine' Mine.instX ?N ?h1 ?h2; (case N => k_asm); (case h1 => k_mem); (case h2 => k_mem))); (case k5 => first | (with_reducible assumption) | exact Mine.xc59 _ rfl); (case k6 => k_is); (case k7 => exact News.isTup (by k_asm) (by k_mem)); (case k8 => k_upd); k_whole; intro h' F' N'; (try k_sweep)))
  k_with "getAttr ref" => (k_here; k_dflt (refine' Mine.get_ownX ?k1 ?k2 ?k3 ?k4 ?k5 ?k6 ?k7 ?k8 ?_; (case k1 => k_asm); (case k2 => k_asm); (case k3 => (refine' Mine.instX ?N ?h1 ?h2; (case N => k_asm); (case h1 => k_mem); (case h2 => k_mem))); (case k4 => first | (with_reducible assumption) | exact Mine.xc59 _ rfl); (case k5 => k_is); (case k6 => k_is); (case k7 => k_get); (case k8 => first | k_handed | with_reducible assumption); k_whole))
  k_with "getAttr ref" => (k_here; (with_reducible show wpAny _ _ (getAttr (Value.ref _) (PySem.Str.ofString "args") _) _ _ _); k_dflt (refine' Mine.get_argsX ?k1 ?k2 ?k3 ?k4 ?k5 ?k6 ?k7 ?_; (case k1 => k_asm); (case k2 => k_asm); (case k3 => (refine' Mine.instX ?N ?h1 ?h2; (case N => k_asm); (case h1 => k_mem); (case h2 => k_mem))); (case k4 => first | (with_reducible assumption) | exact Mine.xc59 _ rfl); (case k5 => k_is); (case k6 => k_is); (case k7 => k_is); k_whole))
  k_with "binaryOp Mod str ref" => (k_here; k_dflt (refine' Mine.opt_rr ?hx ?hy ?N ?hb ?_; (case hx => assumption); (case hy => assumption); (case N => k_asm); (case hb => k_mem)); intro _ _; (try dsimp only))
  k_fill
  intro w loose mean mg mb dp un cn cs a ccd cl outer A₀ base h₀ L m h g d tk os Q E pos kw o s t1 t2 B F X T hk hd hu hpl hbd ho hs hret
  (unfold noOpt at hret)
  all_goals (
    refine' Mine.call_X0 ?k1 ?k2 ?k4 ?k5 ?k6 ?k7 ?_
    (case k1 => k_asm)
    (case k2 => k_asm)
    (case k4 => first | (with_reducible assumption) | exact Mine.xc59 _ rfl)
    (case k5 => k_is)
    (case k6 => k_is)
    (case k7 => assumption)
    intro x0 tx0 h1 hkeep F1 N1 l1
    k_lt2 l1
    (refine' Mine.code_defG ?k1 ?k2 ?k3 ?k4 ?k5 ?kA ?kF ?kK ?k6 ?k7 ?k8 ?k9 ?kB ?_ ?c2 ?c3 ?c4 ?c5)
    (case kA => exact rfl)
    (case kF => exact rfl)
    (case kK => first | exact rfl | assumption)
    (case k1 => k_asm)
    (case k2 => k_asm)
    (case k3 => k_asm)
    (case k4 => k_asm)
    (case k5 => k_asm)
    (case k6 => k_is)
    (case k7 => k_is)
    (case k8 => ktr_room)
    (case k9 => exact hbd x0 _ (X.keeps F1.keep))
    (case c5 => decide)
    (case kB => exact locs rfl)
    (case c2 => exact rfl)
    (case c3 => exact rfl)
    (case c4 => exact rfl)
    intro g1 L1 h2 tk2 hg1 FG1 F2 N2 B2 X2 T2 l2
    k_lt l2
    (try k_lift B2)
    (try k_fold)
    k_steps
  )
  all_goals (refine' hret _ _ _ _ _ _ _ _ _ ?keep ?F ?N; (case keep => exact (fun b o e => (Mine.keep_X (by assumption) (by assumption) (by assumption) (by k_asm) b o e).1)); (case F => k_asm); (case N => (refine' Mine.news3 ?n0 ?n1 ?n2 ?n3; (case n0 => k_asm); (case n1 => k_mem); (case n2 => k_mem); (case n3 => k_mem))))
end Mine
end
section
open PySem PySem.W PyProof.Rows PySem.Calls PySem.Builtin PySem.Builtin.Str PySem.StrLaws
set_option maxRecDepth 100000
set_option maxHeartbeats 4000000
namespace Mine
section
variable {O S : PySem.Str}
theorem noOpt_cps (O S : PySem.Str) : (noOpt O S).cps.toList = (PySem.Str.ofString "No option ").cps.toList ++ ((reprText O).cps.toList ++ ((PySem.Str.ofString " in section: ").cps.toList ++ (reprText S).cps.toList)) := by
  unfold noOpt
  simp only [cps_app, List.append_assoc]
theorem len10 : (PySem.Str.ofString "No option ").cps.toList.length = 10 := by decide +kernel
theorem len13 : (PySem.Str.ofString " in section: ").cps.toList.length = 13 := by decide +kernel
theorem noOpt_len (O S : PySem.Str) : (noOpt O S).length = 10 + ((reprText O).length + (13 + (reprText S).length)) := by
  rw [len_cps, noOpt_cps, List.length_append, List.length_append, List.length_append, len10, len13, len_cps, len_cps]
theorem at1 (hO : ∀ c ∈ O.cps.toList, c < 128) (h1 : O.length ≤ 1000000) (hW : (noOpt O S).length ≤ 1000000) : At (noOpt O S) O 10 := by
  refine ⟨10, (PySem.Str.ofString " in section: ").cps.toList ++ (reprText S).cps.toList, rfl, ?_, hO, hW, h1⟩
  rw [noOpt_cps, ← len10, List.drop_left]
theorem at2 (hS : ∀ c ∈ S.cps.toList, c < 128) (h1 : S.length ≤ 1000000) (hW : (noOpt O S).length ≤ 1000000) : At (noOpt O S) S (10 + ((reprText O).length : Int) + 13) := by
  refine ⟨10 + (reprText O).length + 13, [], by omega, ?_, hS, hW, h1⟩
  rw [noOpt_cps, List.append_nil, ← List.drop_drop, ← List.drop_drop, ← len10, List.drop_left, len_cps, List.drop_left, ← len13, List.drop_left]
theorem sl1 (O S : PySem.Str) : Txt.slice (noOpt O S) (some 0) (some 10) = PySem.Str.ofString "No option " := by
  refine str_eq ?_
  rw [show (0 : Int) = ((0 : Nat) : Int) from rfl, show (10 : Int) = ((10 : Nat) : Int) from rfl, slice_ij (by decide) (by rw [noOpt_len]; omega), noOpt_cps, List.drop_zero, ← len10, Nat.sub_zero, List.take_left]
theorem sl2 (O S : PySem.Str) : Txt.slice (noOpt O S) (some (10 + ((reprText O).length : Int))) (some (10 + ((reprText O).length : Int) + 13)) = PySem.Str.ofString " in section: " := by
  refine str_eq ?_
  rw [show (10 + ((reprText O).length : Int) + 13) = ((10 + (reprText O).length + 13 : Nat) : Int) from by omega, show (10 + ((reprText O).length : Int)) = ((10 + (reprText O).length : Nat) : Int) from by omega, slice_ij (by omega) (by rw [noOpt_len]; omega), noOpt_cps, ← List.drop_drop]
  rw [show 10 + (reprText O).length + 13 - (10 + (reprText O).length) = 13 from by omega]
  have e1 := len10
  have e2 := len13
  generalize (PySem.Str.ofString "No option ").cps.toList = A at *
  generalize (PySem.Str.ofString " in section: ").cps.toList = B at *
  rw [← e1, List.drop_left, len_cps, List.drop_left, ← e2, List.take_left]
end
theorem slice_bne {W x : PySem.Str} {i j i' j' : Int} (h : Txt.slice W (some i) (some j) = x) (e1 : i' = i) (e2 : j' = j) : (Txt.slice W (some i') (some j') != x) = false := by
  subst e1; subst e2; rw [h]; exact bne_self_eq_false ..
theorem cast1 {a : Int} : (0 : Int) + ((10 : Nat) : Int) + a = 10 + a := by omega
theorem cast2 {a : Int} : (0 : Int) + ((10 : Nat) : Int) + a + ((13 : Nat) : Int) = 10 + a + 13 := by omega
theorem fresh2 {h g h' : Heap} {L' a : Addr} {o : Obj} {news : List (Addr × Obj)} (hg : ∀ b o, h.get? b = some o → b ∉ ([] : List (Addr × Obj)).map (·.1) → g.get? b = some o) (N : News g L' h' news) (hp : (a, o) ∈ news) : h.get? a = none := by
  cases e : h.get? a with
  | none => rfl
  | some x =>
    have h1 := hg a x e (by simp)
    have h2 := (N _ hp).2.2
    rw [h2] at h1; cases h1
end Mine
end
section
open PySem PySem.W PyProof.Rows PySem.Calls
namespace Mine
local macro_rules | `(tactic| k_ne) => `(tactic| k_extra "ne")
local macro_rules | `(tactic| walk_at "exec For Name BinOp cons nil") => `(tactic| k_extra "exec For Name BinOp cons nil")
local macro_rules | `(tactic| walk_at "call ref") => `(tactic| k_extra "call ref")
local macro_rules | `(tactic| walk_at "call builtin:repr") => `(tactic| k_extra "call builtin:repr")
local macro_rules | `(tactic| walk_at "compareOp IsNot") => `(tactic| k_extra "compareOp IsNot")
local macro_rules | `(tactic| walk_at "compareOp Is") => `(tactic| k_extra "compareOp Is")
local macro_rules | `(tactic| walk_at "getMethod type:Exception") => `(tactic| k_extra "getMethod type:Exception")
local macro_rules | `(tactic| walk_at "call builtin:Exception.__init__") => `(tactic| k_extra "call builtin:Exception.__init__")
local macro_rules | `(tactic| walk_at "call builtin:str.format") => `(tactic| k_extra "call builtin:str.format")
local macro_rules | `(tactic| walk_at "call builtin:str.join") => `(tactic| k_extra "call builtin:str.join")
local macro_rules | `(tactic| walk_at "setAttr ref") => `(tactic| k_extra "setAttr ref")
local macro_rules | `(tactic| walk_at "getAttr ref") => `(tactic| k_extra "getAttr ref")
local macro_rules | `(tactic| kt_len) => `(tactic| (with_reducible exact Mine.ReprAs.len (by with_reducible assumption)))
local macro_rules | `(tactic| kt_len) => `(tactic| (with_reducible exact Mine.pad2_len (by with_reducible assumption) (by with_reducible assumption)))
local macro_rules | `(tactic| kt_len) => `(tactic| (with_reducible exact Mine.itext_len_le (by with_reducible assumption) (by with_reducible assumption)))
local macro_rules | `(tactic| walk_at "ite") => `(tactic| k_extra "ite")
local macro_rules | `(tactic| walk_at "eval Dict") => `(tactic| k_extra "eval Dict")
local macro_rules | `(tactic| walk_at "KdnMade") => `(tactic| k_extra "KdnMade")
local macro_rules | `(tactic| walk_at "storeName") => `(tactic| k_extra "storeName")
local macro_rules | `(tactic| walk_at "exec Assign cons ListComp") => `(tactic| k_extra "exec Assign cons ListComp")
local macro_rules | `(tactic| walk_at "eval ListComp") => `(tactic| k_extra "eval ListComp")
local macro_rules | `(tactic| walk_at "SrcS") => `(tactic| k_extra "SrcS")
local macro_rules | `(tactic| walk_at "CompRest") => `(tactic| k_extra "CompRest")
local macro_rules | `(tactic| walk_at "call builtin:str.find") => `(tactic| k_extra "call builtin:str.find")
set_option rowWalk.seconds 0 in
set_option maxRecDepth 100000 in
set_option maxHeartbeats 16000000 in
theorem read39_T : ∀ (w : World) (loose : List PySem.Str) (mean : ExcName → Option Value) (mg mb : PySem.Str → Option Value) (dp un : Nat) (cn : PySem.Str) (cs : Scope) (a : Addr) (ccd : Value) (cl : List (PySem.Str × Addr)) (outer : List Env) (A₀ : Around) (base h₀ : Heap) (L : Addr) (m : PySem.Str → Option Value) (h : Heap) (g : Array GenState) (d : Drawn) (tk : Nat) (os : OsState) (Q E : Value → Shared → Prop) (W T9 : PySem.Str) (p : Int) (t1 t2 : Tok), Below A₀ base outer h₀ → Fr h₀ L h m → (MineH.hd.heap_39 w.params).In h₀ → Top MineH.hd.view_39 loose mean mg mb h₀ → cs.kind = .function → dp + 5 < recursionLimit → un + 80 < cLine → ReadAt W T9 39 p → Txt.slice W (some p) (some (p + 1)) = PySem.Str.ofString "'" → W.length ≤ 1000000 →
    (∀ (a9 : Addr) ta tb h' tk', (∀ b o, h.get? b = some o → h'.get? b = some o) → h.get? a9 = none → Fr h₀ L h' m → News h₀ L h' [(a9, tupObj [.str T9 ta, .int (p + (reprText T9).length) tb])] → Q (.ref a9) ⟨h', g, d, tk', os⟩) →
    wpAny (model PySem.Challenge.rw_dm0029_01.row.prog w) (ktrTop dp un (some []) cn cs L a ccd cl outer) (call (.ref 66) [.str W t1, .int p t2]) Q E ⟨h, g, d, tk, os⟩ := by
  k_with_none
  k_with "ne" => (first | exact Mine.ne_l1 (by assumption) | exact Mine.ne_l1' (by assumption) | exact Mine.ne_r1 (by assumption) | exact Mine.ne_r1' (by assumption) | exact Mine.ne_l2 (by assumption) | exact Mine.ne_l2' (by assumption) | exact Mine.ne_r2 (by assumption) | exact Mine.ne_r2' (by assumption) | exact Mine.ne_l3 (by assumption) | exact Mine.ne_l3' (by assumption) | exact Mine.ne_r3 (by assumption) | exact Mine.ne_r3' (by assumption) | exact Mine.ne_l4 (by assumption) | exact Mine.ne_l4' (by assumption) | exact Mine.ne_r4 (by assumption) | exact Mine.ne_r4' (by assumption) | exact Mine.ne_l5 (by assumption) | exact Mine.ne_l5' (by assumption) | exact Mine.ne_r5 (by assumption) | exact Mine.ne_r5' (by assumption) | exact Mine.ne_l6 (by assumption) | exact Mine.ne_l6' (by assumption) | exact Mine.ne_r6 (by assumption) | exact Mine.ne_r6' (by assumption) | exact Mine.ne_l7 (by assumption) | exact Mine.ne_l7' (by assumption) | exact Mine.ne_r7 (by assumption) | exact Mine.ne_r7' (by assumption) | exact Mine.ne_l8 (by assumption) | exact Mine.ne_l8' (by assumption) | exact Mine.ne_r8 (by assumption) | exact Mine.ne_r8' (by assumption) | exact Mine.ne_l9 (by assumption) | exact Mine.ne_l9' (by assumption) | exact Mine.ne_r9 (by assumption) | exact Mine.ne_r9' (by assumption))
  k_with "exec For Name BinOp cons nil" => (k_here; (rename Fr _ _ _ _ => lF'); (with_unfolding_all refine' For_invVF lF' ?k1 ?k2 ?_; (case k1 => exact rfl); (case k2 => exact rfl); k_whole))
  k_with "call ref" => (k_here; k_dflt ((refine wpAny_call ?_); (refine' Mine.code_defG ?k1 ?k2 ?k3 ?k4 ?k5 ?kA ?kF ?kK ?k6 ?k7 ?k8 ?k9 ?kB ?_ ?c2 ?c3 ?c4 ?c5); (case kA => exact rfl); (case kF => exact rfl); (case kK => first | exact rfl | assumption); (case k1 => k_asm); (case k2 => k_asm); (case k3 => k_asm); (case k4 => k_asm); (case k5 => k_asm); (case k6 => k_is); (case k7 => k_is); (case k8 => ktr_room); (case k9 => first | exact BindsTo.of_eq rfl | exact binds_K (by k_in) rfl (by k_is) rfl rfl rfl | fail "no rule for these arguments"); (case c5 => decide); (case kB => exact locs rfl); (case c2 => exact rfl); (case c3 => exact rfl); (case c4 => exact rfl); k_whole; intro g' L' h' tk' hg' FG' F' N' B' X' T' l'; (clear hg'); (try k_lt l'); (try dsimp only); (try k_lift B'); (try k_fold)))
  k_with "call builtin:repr" => (k_here; (with_reducible show wpAny _ _ (call (Value.builtin "repr") [_]) _ _ _); k_dflt ((refine' Mine.ReprAs.run ?r0 ?rF ?rN ?rk ?ru ?rg ?_); (case r0 => with_reducible assumption); (case rF => k_asm); (case rN => k_asm); (case rk => first | exact (fun b o e => (Mine.keep_X (by with_reducible assumption) (by with_reducible assumption) (by with_reducible assumption) (by with_reducible assumption) b o e).1) | exact (fun _ _ e => Fr.keep (by with_reducible assumption) _ _ (Fr.keep (by with_reducible assumption) _ _ e)) | exact (fun _ _ e => Fr.keep (by with_reducible assumption) _ _ e)); (case ru => ((try simp only [units_deeper, units_in1, units_under_make, Mine.units_under_kw]); ktr_units)); (case rg => exact rfl); k_whole; intro t' k' h' F' N'))
  k_with "compareOp IsNot" => (k_here; (with_reducible show wpAny _ _ (compareOp CmpOp.IsNot _ Value.none) _ _ _); refine Mine.isNot_none' (by with_reducible assumption) ?_)
  k_with "compareOp Is" => (k_here; (with_reducible show wpAny _ _ (compareOp CmpOp.Is _ Value.none) _ _ _); refine Mine.is_none' (by with_reducible assumption) ?_)
  k_with "getMethod type:Exception" => (k_here; refine' method_type ?F ?X ?m (by decide +kernel) ?e ?h ?_; (case F => k_asm); (case X => k_asm); (case m => kernel_rfl); (case e => k_dflt k_is); (case h => k_handed))
  k_with "call builtin:Exception.__init__" => (k_here; k_dflt (refine' Mine.init_K ?k1 ?k2 ?k3 ?k4 ?k5 ?k6 ?_; (case k1 => k_asm); (case k2 => k_asm); (case k3 => k_asm); (case k6 => (intro tx'; k_upd)); (case k4 => first | (with_reducible assumption) | exact Mine.xc59 _ rfl); (case k5 => exact Nat.le_of_ble_eq_true rfl); k_whole); intro t' h' F' N' l1; (try dsimp only at N'); (try k_lt l1); (try k_sweep))
  k_with "call builtin:str.format" => (k_here; (with_reducible show wpAny _ _ (call (Value.builtin "str.format") [Value.str _ _, Value.int _ _]) _ _ _); (refine Mine.line_2d (by assumption) (by assumption) ?_); intro _ _)
  k_with "call builtin:str.join" => (k_here; (with_reducible show wpAny _ _ (call (Value.builtin "str.join") [Value.str _ _, Value.ref _]) _ _ _); k_dflt (refine' Mine.join_cat ?jN ?jm ?ji ?jB ?jn ?_; (case jN => k_asm); (case jm => k_mem); (case ji => repeat (first | exact PyProof.Rows.StrsAre.nil | apply PyProof.Rows.StrsAre.cons)); (case jB => (repeat (first | exact List.forall_mem_nil _ | refine List.forall_mem_cons.mpr ⟨by first | (with_reducible exact Mine.le5 (Mine.ReprAs.len (by assumption))) | (with_reducible exact Mine.line_len (by assumption) (by assumption)) | decide +kernel, ?_⟩))); (case jn => exact Nat.le_of_ble_eq_true rfl)); intro _ _; (try simp only [Mine.catS]))
  k_with "setAttr ref" => (k_here; k_dflt (refine' Mine.set_newK ?k1 ?k2 ?k3 ?k4 ?k5 ?k6 ?_; (case k1 => k_asm); (case k2 => k_asm); (case k3 => k_asm); (case k6 => (intro dx'; k_upd)); (case k4 => first | (with_reducible assumption) | exact Mine.xc59 _ rfl); (case k5 => k_is); k_whole; intro d' h' F' N' l1; (try dsimp only at N'); (try k_lt l1); (try k_sweep)))
  k_with "setAttr ref" => (k_here; k_dflt (refine' Mine.set_dictK ?k1 ?k2 ?k3 ?k4 ?k5 ?k6 ?k7 ?k10 ?k11 ?k12 ?k13 ?_; (case k1 => k_asm); (case k2 => k_asm); (case k3 => k_asm); (case k4 => (refine' Mine.instX ?N ?h1 ?h2; (case N => k_asm); (case h1 => k_mem); (case h2 => k_mem))); (case k5 => exact rfl); (case k6 => first | (with_reducible assumption) | exact Mine.xc59 _ rfl); (case k7 => k_is); (case k10 => k_get); (case k11 => k_put); (case k12 => k_upd); (case k13 => exact Nat.le_of_ble_eq_true rfl); k_whole; intro h' F' N'; (try k_sweep)))
  k_with "setAttr ref" => (k_here; (with_reducible show wpAny _ _ (setAttr (Value.ref _) (PySem.Str.ofString "args") (Value.ref _)) _ _ _); k_dflt (refine' Mine.set_argsK ?k1 ?k2 ?k3 ?k4 ?k5 ?k6 ?k7 ?k8 ?_; (case k1 => k_asm); (case k2 => k_asm); (case k3 => k_asm); (case k4 => (refine' Mine.instX ?N ?h1 ?h2; (case N => k_asm); (case h1 => k_mem); (case h2 => k_mem))); (case k5 => first | (with_reducible assumption) | exact Mine.xc59 _ rfl); (case k6 => k_is); (case k7 => exact News.isTup (by k_asm) (by k_mem)); (case k8 => k_upd); k_whole; intro h' F' N'; (try k_sweep)))
  k_with "getAttr ref" => (k_here; k_dflt (refine' Mine.get_ownX ?k1 ?k2 ?k3 ?k4 ?k5 ?k6 ?k7 ?k8 ?_; (case k1 => k_asm); (case k2 => k_asm); (case k3 => (refine' Mine.instX ?N ?h1 ?h2; (case N => k_asm); (case h1 => k_mem); (case h2 => k_mem))); (case k4 => first | (with_reducible assumption) | exact Mine.xc59 _ rfl); (case k5 => k_is); (case k6 => k_is); (case k7 => k_get); (case k8 => first | k_handed | with_reducible assumption); k_whole))
  k_with "getAttr ref" => (k_here; (with_reducible show wpAny _ _ (getAttr (Value.ref _) (PySem.Str.ofString "args") _) _ _ _); k_dflt (refine' Mine.get_argsX ?k1 ?k2 ?k3 ?k4 ?k5 ?k6 ?k7 ?_; (case k1 => k_asm); (case k2 => k_asm); (case k3 => (refine' Mine.instX ?N ?h1 ?h2; (case N => k_asm); (case h1 => k_mem); (case h2 => k_mem))); (case k4 => first | (with_reducible assumption) | exact Mine.xc59 _ rfl); (case k5 => k_is); (case k6 => k_is); (case k7 => k_is); k_whole))
  k_with "ite" => (k_here; (first | refine Mine.ite_ff ?_ | refine Mine.ite_tt ?_ | refine Mine.ite_f (Mine.any_f hc3 hc4 hc5) ?_ | refine Mine.ite_f (by decide +kernel) ?_ | refine Mine.ite_t (by decide +kernel) ?_ | refine Mine.ite_f (by with_reducible assumption) ?_ | refine Mine.ite_t (by with_reducible assumption) ?_))
  k_with "ite" => (k_here; (simp only [hit9]); walk_at "ite")
  k_with "eval Dict" => (k_here; k_dflt (refine' PySem.W.kdn_eval (knd := PySem.strKind _ _) ?F ?N ?b ?a ?l ?e ?n ?_; (case F => k_asm); (case N => first | k_asm | exact News.nil); (case b => exact Top.nolimit (by k_asm)); (case a => rfl); (case l => rfl); (case e => exact List.cons_ne_nil _ _); (case n => exact Nat.le_of_ble_eq_true rfl)); intro d' h' o' F' N' l1 lo' hd'; (try k_lt l1))
  k_with "KdnMade" => (k_here; k_dflt (refine' PySem.W.kdn_made_str ?F ?N ?U ?d ?k ?n ?_; (case F => k_asm); (case N => k_asm); (case U => k_updF); (case d => k_asm); (case k => rfl); (case n => exact of_decide_eq_true (by first | rfl | kernel_rfl!)); intro h' o' F' N' hd'); (try dsimp only at N' hd'))
  k_with "storeName" => (k_here; (simp only [hsl9]); walk_at "storeName")
  k_with "storeName" => (k_here; (simp only [hit9]); walk_at "storeName")
  k_with "storeName" => (k_here; (simp only [hlt9]); walk_at "storeName")
  k_with "storeName" => (k_here; (simp only [Mine.hexnum]); walk_at "storeName")
  k_with "storeName" => (k_here; (simp only [Int.toNat_natCast]); walk_at "storeName")
  k_with "exec Assign cons ListComp" => (k_here; k_dflt (refine Mine.Assign_ListComp_str (F₀ := by k_asm) (by rfl) (by with_unfolding_all rfl) (by rfl) (by decide) (by rfl) (by decide) (by rfl) (by rfl) (by rfl) ?_))
  k_with "eval ListComp" => (k_here; k_dflt (refine Mine.ListComp_str (by k_asm) (by rfl) (by decide) (by rfl) (by decide) (by rfl) ?_))
  k_with "SrcS" => (k_here; k_dflt (refine' Mine.SrcS.two ?sy ?sc ?sd ?sh ?sF ?sN ?_; (case sy => exact hhx9); (case sc => exact Mine.hx_lt (Mine.hi16 hc1)); (case sd => exact Mine.hx_lt (Mine.lo16 _)); (case sh => rfl); (case sF => k_asm); (case sN => k_asm)); intro g')
  k_with "CompRest" => (k_here; (with_unfolding_all (refine PyProof.Rows.LCg.CompRest.succ ?_)); intro v' I' oI' C' oC' D' m' h' tk' E' hv' hC' hx' F' N' off' ne'; (obtain ⟨t9', hv9'⟩ := hv'); (dsimp only [Mine.nth2] at hv9'); subst hv9'; (try simp only [PyProof.Rows.LCg.Off3, and_true] at off'))
  k_with "call builtin:str.find" => (k_here; (refine KXw.find (Mine.hex_find (by first | exact Mine.hi16 hc1 | exact Mine.lo16 _)) ?_); intro _ _)
  k_fill
  k_with "exec While BoolOp cons nil" => (k_while (fun _ a o => ReadIn W T9 39 p a o) (fun _ a _ => ((W.length : Int) - a).toNat) "at" "out"; (rename ReadIn _ _ _ _ _ _ => hin9); (obtain ⟨hlo9, hhi9, hol9, hc9⟩ := Mine.turn39 hin9); (rcases hc9 with ⟨hit9, hot9⟩ | ⟨c9, hit9, hc1, hc2, hb1, hb2, hnx9⟩ | ⟨hit9, hlt9, hnx9⟩ | ⟨hit9, hlt9, hnx9⟩ | ⟨hit9, hlt9, hnx9⟩ | ⟨hit9, hlt9, hnx9⟩ | ⟨hit9, hlt9, hnx9⟩ | ⟨c9, hit9, hlt9, hhx9, hc1, hc2, hc3, hc4, hc5, hnx9⟩))
  k_with "state" => first | with_reducible assumption | exact Mine.read_go (by assumption)
  intro w loose mean mg mb dp un cn cs a ccd cl outer A₀ base h₀ L m h g d tk os Q E W T9 p t1 t2 B F X T hk hd hu hra hsl9 hW9 hret
  refine wpAny_call ?_
  (refine' Mine.code_defG ?k1 ?k2 ?k3 ?k4 ?k5 ?kA ?kF ?kK ?k6 ?k7 ?k8 ?k9 ?kB ?_ ?c2 ?c3 ?c4 ?c5)
  (case kA => exact rfl)
  (case kF => exact rfl)
  (case kK => first | exact rfl | assumption)
  (case k1 => k_asm)
  (case k2 => k_asm)
  (case k3 => k_asm)
  (case k4 => exact PyProof.Rows.News.nil)
  (case k5 => k_asm)
  (case k6 => k_is)
  (case k7 => k_is)
  (case k8 => ktr_room)
  (case k9 => first | exact BindsTo.of_eq rfl | exact binds_K (by k_in) rfl (by k_is) rfl rfl rfl | fail "no rule for these arguments")
  (case c5 => decide)
  (case kB => exact locs rfl)
  (case c2 => exact rfl)
  (case c3 => exact rfl)
  (case c4 => exact rfl)
  intro g1 L1 h2 tk2 hg1 FG1 F2 N2 B2 X2 T2 l2
  (try k_lt l2)
  (try k_lift B2)
  (try k_fold)
  k_steps
  all_goals (first
    | (exfalso; omega)
    | (exfalso; exact Mine.due39 hin9 hot9 (by assumption) (by assumption))
    | (exfalso; exact Mine.due34f hin9 hot9 (by assumption))
    | (exfalso; exact Mine.due34t hin9 hot9 (by assumption))
    | (have e9 := Mine.read_pos hin9 hot9
       exact hret _ _ _ _ _ (keep_0 hg1 (by k_asm)) (Mine.fresh hg1 (by assumption)) (by k_asm) (Mine.news1 (by k_asm) (by rw [← e9, ← hot9]; k_mem)))
    | skip)
end Mine
end
section
open PySem PySem.W PyProof.Rows PySem.Calls
namespace Mine
local macro_rules | `(tactic| k_ne) => `(tactic| k_extra "ne")
local macro_rules | `(tactic| walk_at "exec For Name BinOp cons nil") => `(tactic| k_extra "exec For Name BinOp cons nil")
local macro_rules | `(tactic| walk_at "call ref") => `(tactic| k_extra "call ref")
local macro_rules | `(tactic| walk_at "call builtin:repr") => `(tactic| k_extra "call builtin:repr")
local macro_rules | `(tactic| walk_at "compareOp IsNot") => `(tactic| k_extra "compareOp IsNot")
local macro_rules | `(tactic| walk_at "compareOp Is") => `(tactic| k_extra "compareOp Is")
local macro_rules | `(tactic| walk_at "getMethod type:Exception") => `(tactic| k_extra "getMethod type:Exception")
local macro_rules | `(tactic| walk_at "call builtin:Exception.__init__") => `(tactic| k_extra "call builtin:Exception.__init__")
local macro_rules | `(tactic| walk_at "call builtin:str.format") => `(tactic| k_extra "call builtin:str.format")
local macro_rules | `(tactic| walk_at "call builtin:str.join") => `(tactic| k_extra "call builtin:str.join")
local macro_rules | `(tactic| walk_at "setAttr ref") => `(tactic| k_extra "setAttr ref")
local macro_rules | `(tactic| walk_at "getAttr ref") => `(tactic| k_extra "getAttr ref")
local macro_rules | `(tactic| kt_len) => `(tactic| (with_reducible exact Mine.ReprAs.len (by with_reducible assumption)))
local macro_rules | `(tactic| kt_len) => `(tactic| (with_reducible exact Mine.pad2_len (by with_reducible assumption) (by with_reducible assumption)))
local macro_rules | `(tactic| kt_len) => `(tactic| (with_reducible exact Mine.itext_len_le (by with_reducible assumption) (by with_reducible assumption)))
local macro_rules | `(tactic| walk_at "ite") => `(tactic| k_extra "ite")
local macro_rules | `(tactic| walk_at "eval Dict") => `(tactic| k_extra "eval Dict")
local macro_rules | `(tactic| walk_at "KdnMade") => `(tactic| k_extra "KdnMade")
local macro_rules | `(tactic| walk_at "storeName") => `(tactic| k_extra "storeName")
local macro_rules | `(tactic| walk_at "exec Assign cons ListComp") => `(tactic| k_extra "exec Assign cons ListComp")
local macro_rules | `(tactic| walk_at "eval ListComp") => `(tactic| k_extra "eval ListComp")
local macro_rules | `(tactic| walk_at "SrcS") => `(tactic| k_extra "SrcS")
local macro_rules | `(tactic| walk_at "CompRest") => `(tactic| k_extra "CompRest")
local macro_rules | `(tactic| walk_at "call builtin:str.find") => `(tactic| k_extra "call builtin:str.find")
set_option rowWalk.seconds 0 in
set_option maxRecDepth 100000 in
set_option maxHeartbeats 16000000 in
theorem read34_T : ∀ (w : World) (loose : List PySem.Str) (mean : ExcName → Option Value) (mg mb : PySem.Str → Option Value) (dp un : Nat) (cn : PySem.Str) (cs : Scope) (a : Addr) (ccd : Value) (cl : List (PySem.Str × Addr)) (outer : List Env) (A₀ : Around) (base h₀ : Heap) (L : Addr) (m : PySem.Str → Option Value) (h : Heap) (g : Array GenState) (d : Drawn) (tk : Nat) (os : OsState) (Q E : Value → Shared → Prop) (W T9 : PySem.Str) (p : Int) (t1 t2 : Tok), Below A₀ base outer h₀ → Fr h₀ L h m → (MineH.hd.heap_39 w.params).In h₀ → Top MineH.hd.view_39 loose mean mg mb h₀ → cs.kind = .function → dp + 5 < recursionLimit → un + 80 < cLine → ReadAt W T9 34 p → Txt.slice W (some p) (some (p + 1)) = PySem.Str.ofString "\"" → W.length ≤ 1000000 →
    (∀ (a9 : Addr) ta tb h' tk', (∀ b o, h.get? b = some o → h'.get? b = some o) → h.get? a9 = none → Fr h₀ L h' m → News h₀ L h' [(a9, tupObj [.str T9 ta, .int (p + (reprText T9).length) tb])] → Q (.ref a9) ⟨h', g, d, tk', os⟩) →
    wpAny (model PySem.Challenge.rw_dm0029_01.row.prog w) (ktrTop dp un (some []) cn cs L a ccd cl outer) (call (.ref 66) [.str W t1, .int p t2]) Q E ⟨h, g, d, tk, os⟩ := by
  k_with_none
  k_with "ne" => (first | exact Mine.ne_l1 (by assumption) | exact Mine.ne_l1' (by assumption) | exact Mine.ne_r1 (by assumption) | exact Mine.ne_r1' (by assumption) | exact Mine.ne_l2 (by assumption) | exact Mine.ne_l2' (by assumption) | exact Mine.ne_r2 (by assumption) | exact Mine.ne_r2' (by assumption) | exact Mine.ne_l3 (by assumption) | exact Mine.ne_l3' (by assumption) | exact Mine.ne_r3 (by assumption) | exact Mine.ne_r3' (by assumption) | exact Mine.ne_l4 (by assumption) | exact Mine.ne_l4' (by assumption) | exact Mine.ne_r4 (by assumption) | exact Mine.ne_r4' (by assumption) | exact Mine.ne_l5 (by assumption) | exact Mine.ne_l5' (by assumption) | exact Mine.ne_r5 (by assumption) | exact Mine.ne_r5' (by assumption) | exact Mine.ne_l6 (by assumption) | exact Mine.ne_l6' (by assumption) | exact Mine.ne_r6 (by assumption) | exact Mine.ne_r6' (by assumption) | exact Mine.ne_l7 (by assumption) | exact Mine.ne_l7' (by assumption) | exact Mine.ne_r7 (by assumption) | exact Mine.ne_r7' (by assumption) | exact Mine.ne_l8 (by assumption) | exact Mine.ne_l8' (by assumption) | exact Mine.ne_r8 (by assumption) | exact Mine.ne_r8' (by assumption) | exact Mine.ne_l9 (by assumption) | exact Mine.ne_l9' (by assumption) | exact Mine.ne_r9 (by assumption) | exact Mine.ne_r9' (by assumption))
  k_with "exec For Name BinOp cons nil" => (k_here; (rename Fr _ _ _ _ => lF'); (with_unfolding_all refine' For_invVF lF' ?k1 ?k2 ?_; (case k1 => exact rfl); (case k2 => exact rfl); k_whole))
  k_with "call ref" => (k_here; k_dflt ((refine wpAny_call ?_); (refine' Mine.code_defG ?k1 ?k2 ?k3 ?k4 ?k5 ?kA ?kF ?kK ?k6 ?k7 ?k8 ?k9 ?kB ?_ ?c2 ?c3 ?c4 ?c5); (case kA => exact rfl); (case kF => exact rfl); (case kK => first | exact rfl | assumption); (case k1 => k_asm); (case k2 => k_asm); (case k3 => k_asm); (case k4 => k_asm); (case k5 => k_asm); (case k6 => k_is); (case k7 => k_is); (case k8 => ktr_room); (case k9 => first | exact BindsTo.of_eq rfl | exact binds_K (by k_in) rfl (by k_is) rfl rfl rfl | fail "no rule for these arguments"); (case c5 => decide); (case kB => exact locs rfl); (case c2 => exact rfl); (case c3 => exact rfl); (case c4 => exact rfl); k_whole; intro g' L' h' tk' hg' FG' F' N' B' X' T' l'; (clear hg'); (try k_lt l'); (try dsimp only); (try k_lift B'); (try k_fold)))
  k_with "call builtin:repr" => (k_here; (with_reducible show wpAny _ _ (call (Value.builtin "repr") [_]) _ _ _); k_dflt ((refine' Mine.ReprAs.run ?r0 ?rF ?rN ?rk ?ru ?rg ?_); (case r0 => with_reducible assumption); (case rF => k_asm); (case rN => k_asm); (case rk => first | exact (fun b o e => (Mine.keep_X (by with_reducible assumption) (by with_reducible assumption) (by with_reducible assumption) (by with_reducible assumption) b o e).1) | exact (fun _ _ e => Fr.keep (by with_reducible assumption) _ _ (Fr.keep (by with_reducible assumption) _ _ e)) | exact (fun _ _ e => Fr.keep (by with_reducible assumption) _ _ e)); (case ru => ((try simp only [units_deeper, units_in1, units_under_make, Mine.units_under_kw]); ktr_units)); (case rg => exact rfl); k_whole; intro t' k' h' F' N'))
  k_with "compareOp IsNot" => (k_here; (with_reducible show wpAny _ _ (compareOp CmpOp.IsNot _ Value.none) _ _ _); refine Mine.isNot_none' (by with_reducible assumption) ?_)
  k_with "compareOp Is" => (k_here; (with_reducible show wpAny _ _ (compareOp CmpOp.Is _ Value.none) _ _ _); refine Mine.is_none' (by with_reducible assumption) ?_)
  k_with "getMethod type:Exception" => (k_here; refine' method_type ?F ?X ?m (by decide +kernel) ?e ?h ?_; (case F => k_asm); (case X => k_asm); (case m => kernel_rfl); (case e => k_dflt k_is); (case h => k_handed))
  k_with "call builtin:Exception.__init__" => (k_here; k_dflt (refine' Mine.init_K ?k1 ?k2 ?k3 ?k4 ?k5 ?k6 ?_; (case k1 => k_asm); (case k2 => k_asm); (case k3 => k_asm); (case k6 => (intro tx'; k_upd)); (case k4 => first | (with_reducible assumption) | exact Mine.xc59 _ rfl); (case k5 => exact Nat.le_of_ble_eq_true rfl); k_whole); intro t' h' F' N' l1; (try dsimp only at N'); (try k_lt l1); (try k_sweep))
  k_with "call builtin:str.format" => (k_here; (with_reducible show wpAny _ _ (call (Value.builtin "str.format") [Value.str _ _, Value.int _ _]) _ _ _); (refine Mine.line_2d (by assumption) (by assumption) ?_); intro _ _)
  k_with "call builtin:str.join" => (k_here; (with_reducible show wpAny _ _ (call (Value.builtin "str.join") [Value.str _ _, Value.ref _]) _ _ _); k_dflt (refine' Mine.join_cat ?jN ?jm ?ji ?jB ?jn ?_; (case jN => k_asm); (case jm => k_mem); (case ji => repeat (first | exact PyProof.Rows.StrsAre.nil | apply PyProof.Rows.StrsAre.cons)); (case jB => (repeat (first | exact List.forall_mem_nil _ | refine List.forall_mem_cons.mpr ⟨by first | (with_reducible exact Mine.le5 (Mine.ReprAs.len (by assumption))) | (with_reducible exact Mine.line_len (by assumption) (by assumption)) | decide +kernel, ?_⟩))); (case jn => exact Nat.le_of_ble_eq_true rfl)); intro _ _; (try simp only [Mine.catS]))
  k_with "setAttr ref" => (k_here; k_dflt (refine' Mine.set_newK ?k1 ?k2 ?k3 ?k4 ?k5 ?k6 ?_; (case k1 => k_asm); (case k2 => k_asm); (case k3 => k_asm); (case k6 => (intro dx'; k_upd)); (case k4 => first | (with_reducible assumption) | exact Mine.xc59 _ rfl); (case k5 => k_is); k_whole; intro d' h' F' N' l1; (try dsimp only at N'); (try k_lt l1); (try k_sweep)))
  k_with "setAttr ref" => (k_here; k_dflt (refine' Mine.set_dictK ?k1 ?k2 ?k3 ?k4 ?k5 ?k6 ?k7 ?k10 ?k11 ?k12 ?k13 ?_; (case k1 => k_asm); (case k2 => k_asm); (case k3 => k_asm); (case k4 => (refine' Mine.instX ?N ?h1 ?h2; (case N => k_asm); (case h1 => k_mem); (case h2 => k_mem))); (case k5 => exact rfl); (case k6 => first | (with_reducible assumption) | exact Mine.xc59 _ rfl); (case k7 => k_is); (case k10 => k_get); (case k11 => k_put); (case k12 => k_upd); (case k13 => exact Nat.le_of_ble_eq_true rfl); k_whole; intro h' F' N'; (try k_sweep)))
  k_with "setAttr ref" => (k_here; (with_reducible show wpAny _ _ (setAttr (Value.ref _) (PySem.Str.ofString "args") (Value.ref _)) _ _ _); k_dflt (refine' Mine.set_argsK ?k1 ?k2 ?k3 ?k4 ?k5 ?k6 ?k7 ?k8 ?_; (case k1 => k_asm); (case k2 => k_asm); (case k3 => k_asm); (case k4 => (refine' Mine.instX ?N ?h1 ?h2; (case N => k_asm); (case h1 => k_mem); (case h2 => k_mem))); (case k5 => first | (with_reducible assumption) | exact Mine.xc59 _ rfl); (case k6 => k_is); (case k7 => exact News.isTup (by k_asm) (by k_mem)); (case k8 => k_upd); k_whole; intro h' F' N'; (try k_sweep)))
  k_with "getAttr ref" => (k_here; k_dflt (refine' Mine.get_ownX ?k1 ?k2 ?k3 ?k4 ?k5 ?k6 ?k7 ?k8 ?_; (case k1 => k_asm); (case k2 => k_asm); (case k3 => (refine' Mine.instX ?N ?h1 ?h2; (case N => k_asm); (case h1 => k_mem); (case h2 => k_mem))); (case k4 => first | (with_reducible assumption) | exact Mine.xc59 _ rfl); (case k5 => k_is); (case k6 => k_is); (case k7 => k_get); (case k8 => first | k_handed | with_reducible assumption); k_whole))
  k_with "getAttr ref" => (k_here; (with_reducible show wpAny _ _ (getAttr (Value.ref _) (PySem.Str.ofString "args") _) _ _ _); k_dflt (refine' Mine.get_argsX ?k1 ?k2 ?k3 ?k4 ?k5 ?k6 ?k7 ?_; (case k1 => k_asm); (case k2 => k_asm); (case k3 => (refine' Mine.instX ?N ?h1 ?h2; (case N => k_asm); (case h1 => k_mem); (case h2 => k_mem))); (case k4 => first | (with_reducible assumption) | exact Mine.xc59 _ rfl); (case k5 => k_is); (case k6 => k_is); (case k7 => k_is); k_whole))
  k_with "ite" => (k_here; (first | refine Mine.ite_ff ?_ | refine Mine.ite_tt ?_ | refine Mine.ite_f (Mine.any_f hc3 hc4 hc5) ?_ | refine Mine.ite_f (by decide +kernel) ?_ | refine Mine.ite_t (by decide +kernel) ?_ | refine Mine.ite_f (by with_reducible assumption) ?_ | refine Mine.ite_t (by with_reducible assumption) ?_))
  k_with "ite" => (k_here; (simp only [hit9]); walk_at "ite")
  k_with "eval Dict" => (k_here; k_dflt (refine' PySem.W.kdn_eval (knd := PySem.strKind _ _) ?F ?N ?b ?a ?l ?e ?n ?_; (case F => k_asm); (case N => first | k_asm | exact News.nil); (case b => exact Top.nolimit (by k_asm)); (case a => rfl); (case l => rfl); (case e => exact List.cons_ne_nil _ _); (case n => exact Nat.le_of_ble_eq_true rfl)); intro d' h' o' F' N' l1 lo' hd'; (try k_lt l1))
  k_with "KdnMade" => (k_here; k_dflt (refine' PySem.W.kdn_made_str ?F ?N ?U ?d ?k ?n ?_; (case F => k_asm); (case N => k_asm); (case U => k_updF); (case d => k_asm); (case k => rfl); (case n => exact of_decide_eq_true (by first | rfl | kernel_rfl!)); intro h' o' F' N' hd'); (try dsimp only at N' hd'))
  k_with "storeName" => (k_here; (simp only [hsl9]); walk_at "storeName")
  k_with "storeName" => (k_here; (simp only [hit9]); walk_at "storeName")
  k_with "storeName" => (k_here; (simp only [hlt9]); walk_at "storeName")
  k_with "storeName" => (k_here; (simp only [Mine.hexnum]); walk_at "storeName")
  k_with "storeName" => (k_here; (simp only [Int.toNat_natCast]); walk_at "storeName")
  k_with "exec Assign cons ListComp" => (k_here; k_dflt (refine Mine.Assign_ListComp_str (F₀ := by k_asm) (by rfl) (by with_unfolding_all rfl) (by rfl) (by decide) (by rfl) (by decide) (by rfl) (by rfl) (by rfl) ?_))
  k_with "eval ListComp" => (k_here; k_dflt (refine Mine.ListComp_str (by k_asm) (by rfl) (by decide) (by rfl) (by decide) (by rfl) ?_))
  k_with "SrcS" => (k_here; k_dflt (refine' Mine.SrcS.two ?sy ?sc ?sd ?sh ?sF ?sN ?_; (case sy => exact hhx9); (case sc => exact Mine.hx_lt (Mine.hi16 hc1)); (case sd => exact Mine.hx_lt (Mine.lo16 _)); (case sh => rfl); (case sF => k_asm); (case sN => k_asm)); intro g')
  k_with "CompRest" => (k_here; (with_unfolding_all (refine PyProof.Rows.LCg.CompRest.succ ?_)); intro v' I' oI' C' oC' D' m' h' tk' E' hv' hC' hx' F' N' off' ne'; (obtain ⟨t9', hv9'⟩ := hv'); (dsimp only [Mine.nth2] at hv9'); subst hv9'; (try simp only [PyProof.Rows.LCg.Off3, and_true] at off'))
  k_with "call builtin:str.find" => (k_here; (refine KXw.find (Mine.hex_find (by first | exact Mine.hi16 hc1 | exact Mine.lo16 _)) ?_); intro _ _)
  k_fill
  k_with "exec While BoolOp cons nil" => (k_while (fun _ a o => ReadIn W T9 34 p a o) (fun _ a _ => ((W.length : Int) - a).toNat) "at" "out"; (rename ReadIn _ _ _ _ _ _ => hin9); (obtain ⟨hlo9, hhi9, hol9, hc9⟩ := Mine.turn34 hin9); (rcases hc9 with ⟨hit9, hot9⟩ | ⟨c9, hit9, hc1, hc2, hb1, hb2, hnx9⟩ | ⟨hit9, hlt9, hnx9⟩ | ⟨hit9, hlt9, hnx9⟩ | ⟨hit9, hlt9, hnx9⟩ | ⟨hit9, hlt9, hnx9⟩ | ⟨hit9, hlt9, hnx9⟩ | ⟨c9, hit9, hlt9, hhx9, hc1, hc2, hc3, hc4, hc5, hnx9⟩))
  k_with "state" => first | with_reducible assumption | exact Mine.read_go (by assumption)
  intro w loose mean mg mb dp un cn cs a ccd cl outer A₀ base h₀ L m h g d tk os Q E W T9 p t1 t2 B F X T hk hd hu hra hsl9 hW9 hret
  refine wpAny_call ?_
  (refine' Mine.code_defG ?k1 ?k2 ?k3 ?k4 ?k5 ?kA ?kF ?kK ?k6 ?k7 ?k8 ?k9 ?kB ?_ ?c2 ?c3 ?c4 ?c5)
  (case kA => exact rfl)
  (case kF => exact rfl)
  (case kK => first | exact rfl | assumption)
  (case k1 => k_asm)
  (case k2 => k_asm)
  (case k3 => k_asm)
  (case k4 => exact PyProof.Rows.News.nil)
  (case k5 => k_asm)
  (case k6 => k_is)
  (case k7 => k_is)
  (case k8 => ktr_room)
  (case k9 => first | exact BindsTo.of_eq rfl | exact binds_K (by k_in) rfl (by k_is) rfl rfl rfl | fail "no rule for these arguments")
  (case c5 => decide)
  (case kB => exact locs rfl)
  (case c2 => exact rfl)
  (case c3 => exact rfl)
  (case c4 => exact rfl)
  intro g1 L1 h2 tk2 hg1 FG1 F2 N2 B2 X2 T2 l2
  (try k_lt l2)
  (try k_lift B2)
  (try k_fold)
  k_steps
  all_goals (first
    | (exfalso; omega)
    | (exfalso; exact Mine.due39 hin9 hot9 (by assumption) (by assumption))
    | (exfalso; exact Mine.due34f hin9 hot9 (by assumption))
    | (exfalso; exact Mine.due34t hin9 hot9 (by assumption))
    | (have e9 := Mine.read_pos hin9 hot9
       exact hret _ _ _ _ _ (keep_0 hg1 (by k_asm)) (Mine.fresh hg1 (by assumption)) (by k_asm) (Mine.news1 (by k_asm) (by rw [← e9, ← hot9]; k_mem)))
    | skip)
end Mine
end
section
open PySem PySem.W PyProof.Rows PySem.Calls
namespace Mine
local macro_rules | `(tactic| k_ne) => `(tactic| k_extra "ne")
theorem read_T : ∀ (w : World) (loose : List PySem.Str) (mean : ExcName → Option Value) (mg mb : PySem.Str → Option Value) (dp un : Nat) (cn : PySem.Str) (cs : Scope) (a : Addr) (ccd : Value) (cl : List (PySem.Str × Addr)) (outer : List Env) (A₀ : Around) (base h₀ : Heap) (L : Addr) (m : PySem.Str → Option Value) (h : Heap) (g : Array GenState) (d : Drawn) (tk : Nat) (os : OsState) (Q E : Value → Shared → Prop) (W T9 : PySem.Str) (p : Int) (t1 t2 : Tok), Below A₀ base outer h₀ → Fr h₀ L h m → (MineH.hd.heap_39 w.params).In h₀ → Top MineH.hd.view_39 loose mean mg mb h₀ → cs.kind = .function → dp + 5 < recursionLimit → un + 80 < cLine → At W T9 p →
    (∀ (a9 : Addr) ta tb h' tk', (∀ b o, h.get? b = some o → h'.get? b = some o) → h.get? a9 = none → Fr h₀ L h' m → News h₀ L h' [(a9, tupObj [.str T9 ta, .int (p + (reprText T9).length) tb])] → Q (.ref a9) ⟨h', g, d, tk', os⟩) →
    wpAny (model PySem.Challenge.rw_dm0029_01.row.prog w) (ktrTop dp un (some []) cn cs L a ccd cl outer) (call (.ref 66) [.str W t1, .int p t2]) Q E ⟨h, g, d, tk, os⟩ := by
  intro w loose mean mg mb dp un cn cs a ccd cl outer A₀ base h₀ L m h g d tk os Q E W T9 p t1 t2 B F X T hk hd hu hat hret
  rcases hat.split with h9 | h9
  · exact read39_T w loose mean mg mb dp un cn cs a ccd cl outer A₀ base h₀ L m h g d tk os Q E W T9 p t1 t2 B F X T hk hd hu h9 (Mine.read_mark (by decide +kernel) h9) hat.len hret
  · exact read34_T w loose mean mg mb dp un cn cs a ccd cl outer A₀ base h₀ L m h g d tk os Q E W T9 p t1 t2 B F X T hk hd hu h9 (Mine.read_mark (by decide +kernel) h9) hat.len hret
local macro_rules | `(tactic| walk_at "exec For Name BinOp cons nil") => `(tactic| k_extra "exec For Name BinOp cons nil")
local macro_rules | `(tactic| walk_at "call ref") => `(tactic| k_extra "call ref")
local macro_rules | `(tactic| walk_at "call builtin:repr") => `(tactic| k_extra "call builtin:repr")
local macro_rules | `(tactic| walk_at "compareOp IsNot") => `(tactic| k_extra "compareOp IsNot")
local macro_rules | `(tactic| walk_at "compareOp Is") => `(tactic| k_extra "compareOp Is")
local macro_rules | `(tactic| walk_at "getMethod type:Exception") => `(tactic| k_extra "getMethod type:Exception")
local macro_rules | `(tactic| walk_at "call builtin:Exception.__init__") => `(tactic| k_extra "call builtin:Exception.__init__")
local macro_rules | `(tactic| walk_at "call builtin:str.format") => `(tactic| k_extra "call builtin:str.format")
local macro_rules | `(tactic| walk_at "call builtin:str.join") => `(tactic| k_extra "call builtin:str.join")
local macro_rules | `(tactic| walk_at "setAttr ref") => `(tactic| k_extra "setAttr ref")
local macro_rules | `(tactic| walk_at "getAttr ref") => `(tactic| k_extra "getAttr ref")
local macro_rules | `(tactic| kt_len) => `(tactic| (with_reducible exact Mine.ReprAs.len (by with_reducible assumption)))
local macro_rules | `(tactic| kt_len) => `(tactic| (with_reducible exact Mine.pad2_len (by with_reducible assumption) (by with_reducible assumption)))
local macro_rules | `(tactic| kt_len) => `(tactic| (with_reducible exact Mine.itext_len_le (by with_reducible assumption) (by with_reducible assumption)))
local macro_rules | `(tactic| walk_at "ite") => `(tactic| k_extra "ite")
local macro_rules | `(tactic| walk_at "call builtin:list.append") => `(tactic| k_extra "call builtin:list.append")
set_option rowWalk.seconds 0 in
set_option maxRecDepth 100000 in
set_option maxHeartbeats 16000000 in
theorem names_T : ∀ (w : World) (loose : List PySem.Str) (mean : ExcName → Option Value) (mg mb : PySem.Str → Option Value) (dp un : Nat) (cn : PySem.Str) (cs : Scope) (a : Addr) (ccd : Value) (cl : List (PySem.Str × Addr)) (outer : List Env) (A₀ : Around) (base h₀ : Heap) (L : Addr) (m : PySem.Str → Option Value) (h : Heap) (g : Array GenState) (d : Drawn) (tk : Nat) (os : OsState) (Q E : Value → Shared → Prop) (O S : PySem.Str) (t1 : Tok), Below A₀ base outer h₀ → Fr h₀ L h m → (MineH.hd.heap_39 w.params).In h₀ → Top MineH.hd.view_39 loose mean mg mb h₀ → cs.kind = .function → dp + 12 < recursionLimit → un + 240 < cLine → (∀ c ∈ O.cps.toList, c < 128) → (∀ c ∈ S.cps.toList, c < 128) → O.length ≤ 1000 → S.length ≤ 1000 → (noOpt O S).length ≤ 1000000 →
    (∀ (a9 : Addr) (k9 : Nat) ta tb h' tk', (∀ b o, h.get? b = some o → h'.get? b = some o) → h.get? a9 = none → Fr h₀ L h' m → News h₀ L h' [(a9, W.listOf #[.str O ta, .str S tb] k9)] → Q (.ref a9) ⟨h', g, d, tk', os⟩) →
    wpAny (model PySem.Challenge.rw_dm0029_01.row.prog w) (ktrTop dp un (some []) cn cs L a ccd cl outer) (call (.ref 73) [.str (noOpt O S) t1]) Q E ⟨h, g, d, tk, os⟩ := by
  k_with_none
  k_with "ne" => (first | exact Mine.ne_l1 (by assumption) | exact Mine.ne_l1' (by assumption) | exact Mine.ne_r1 (by assumption) | exact Mine.ne_r1' (by assumption) | exact Mine.ne_l2 (by assumption) | exact Mine.ne_l2' (by assumption) | exact Mine.ne_r2 (by assumption) | exact Mine.ne_r2' (by assumption) | exact Mine.ne_l3 (by assumption) | exact Mine.ne_l3' (by assumption) | exact Mine.ne_r3 (by assumption) | exact Mine.ne_r3' (by assumption) | exact Mine.ne_l4 (by assumption) | exact Mine.ne_l4' (by assumption) | exact Mine.ne_r4 (by assumption) | exact Mine.ne_r4' (by assumption) | exact Mine.ne_l5 (by assumption) | exact Mine.ne_l5' (by assumption) | exact Mine.ne_r5 (by assumption) | exact Mine.ne_r5' (by assumption) | exact Mine.ne_l6 (by assumption) | exact Mine.ne_l6' (by assumption) | exact Mine.ne_r6 (by assumption) | exact Mine.ne_r6' (by assumption) | exact Mine.ne_l7 (by assumption) | exact Mine.ne_l7' (by assumption) | exact Mine.ne_r7 (by assumption) | exact Mine.ne_r7' (by assumption) | exact Mine.ne_l8 (by assumption) | exact Mine.ne_l8' (by assumption) | exact Mine.ne_r8 (by assumption) | exact Mine.ne_r8' (by assumption) | exact Mine.ne_l9 (by assumption) | exact Mine.ne_l9' (by assumption) | exact Mine.ne_r9 (by assumption) | exact Mine.ne_r9' (by assumption))
  k_with "exec For Name BinOp cons nil" => (k_here; (rename Fr _ _ _ _ => lF'); (with_unfolding_all refine' For_invVF lF' ?k1 ?k2 ?_; (case k1 => exact rfl); (case k2 => exact rfl); k_whole))
  k_with "call ref" => (k_here; (fail_if_success (with_reducible show wpAny _ _ (call (Value.ref 66) _) _ _ _)); k_dflt ((refine wpAny_call ?_); (refine' Mine.code_defG ?k1 ?k2 ?k3 ?k4 ?k5 ?kA ?kF ?kK ?k6 ?k7 ?k8 ?k9 ?kB ?_ ?c2 ?c3 ?c4 ?c5); (case kA => exact rfl); (case kF => exact rfl); (case kK => first | exact rfl | assumption); (case k1 => k_asm); (case k2 => k_asm); (case k3 => k_asm); (case k4 => k_asm); (case k5 => k_asm); (case k6 => k_is); (case k7 => k_is); (case k8 => ktr_room); (case k9 => first | exact BindsTo.of_eq rfl | exact binds_K (by k_in) rfl (by k_is) rfl rfl rfl | fail "no rule for these arguments"); (case c5 => decide); (case kB => exact locs rfl); (case c2 => exact rfl); (case c3 => exact rfl); (case c4 => exact rfl); k_whole; intro g' L' h' tk' hg' FG' F' N' B' X' T' l'; (clear hg'); (try k_lt l'); (try dsimp only); (try k_lift B'); (try k_fold)))
  k_with "call builtin:repr" => (k_here; (with_reducible show wpAny _ _ (call (Value.builtin "repr") [_]) _ _ _); k_dflt ((refine' Mine.ReprAs.run ?r0 ?rF ?rN ?rk ?ru ?rg ?_); (case r0 => with_reducible assumption); (case rF => k_asm); (case rN => k_asm); (case rk => first | exact (fun b o e => (Mine.keep_X (by with_reducible assumption) (by with_reducible assumption) (by with_reducible assumption) (by with_reducible assumption) b o e).1) | exact (fun _ _ e => Fr.keep (by with_reducible assumption) _ _ (Fr.keep (by with_reducible assumption) _ _ e)) | exact (fun _ _ e => Fr.keep (by with_reducible assumption) _ _ e)); (case ru => ((try simp only [units_deeper, units_in1, units_under_make, Mine.units_under_kw]); ktr_units)); (case rg => exact rfl); k_whole; intro t' k' h' F' N'))
  k_with "compareOp IsNot" => (k_here; (with_reducible show wpAny _ _ (compareOp CmpOp.IsNot _ Value.none) _ _ _); refine Mine.isNot_none' (by with_reducible assumption) ?_)
  k_with "compareOp Is" => (k_here; (with_reducible show wpAny _ _ (compareOp CmpOp.Is _ Value.none) _ _ _); refine Mine.is_none' (by with_reducible assumption) ?_)
  k_with "getMethod type:Exception" => (k_here; refine' method_type ?F ?X ?m (by decide +kernel) ?e ?h ?_; (case F => k_asm); (case X => k_asm); (case m => kernel_rfl); (case e => k_dflt k_is); (case h => k_handed))
  k_with "call builtin:Exception.__init__" => (k_here; k_dflt (refine' Mine.init_K ?k1 ?k2 ?k3 ?k4 ?k5 ?k6 ?_; (case k1 => k_asm); (case k2 => k_asm); (case k3 => k_asm); (case k6 => (intro tx'; k_upd)); (case k4 => first | (with_reducible assumption) | exact Mine.xc59 _ rfl); (case k5 => exact Nat.le_of_ble_eq_true rfl); k_whole); intro t' h' F' N' l1; (try dsimp only at N'); (try k_lt l1); (try k_sweep))
  k_with "call builtin:str.format" => (k_here; (with_reducible show wpAny _ _ (call (Value.builtin "str.format") [Value.str _ _, Value.int _ _]) _ _ _); (refine Mine.line_2d (by assumption) (by assumption) ?_); intro _ _)
  k_with "call builtin:str.join" => (k_here; (with_reducible show wpAny _ _ (call (Value.builtin "str.join") [Value.str _ _, Value.ref _]) _ _ _); k_dflt (refine' Mine.join_cat ?jN ?jm ?ji ?jB ?jn ?_; (case jN => k_asm); (case jm => k_mem); (case ji => repeat (first | exact PyProof.Rows.StrsAre.nil | apply PyProof.Rows.StrsAre.cons)); (case jB => (repeat (first | exact List.forall_mem_nil _ | refine List.forall_mem_cons.mpr ⟨by first | (with_reducible exact Mine.le5 (Mine.ReprAs.len (by assumption))) | (with_reducible exact Mine.line_len (by assumption) (by assumption)) | decide +kernel, ?_⟩))); (case jn => exact Nat.le_of_ble_eq_true rfl)); intro _ _; (try simp only [Mine.catS]))
  k_with "setAttr ref" => (k_here; k_dflt (refine' Mine.set_newK ?k1 ?k2 ?k3 ?k4 ?k5 ?k6 ?_; (case k1 => k_asm); (case k2 => k_asm); (case k3 => k_asm); (case k6 => (intro dx'; k_upd)); (case k4 => first | (with_reducible assumption) | exact Mine.xc59 _ rfl); (case k5 => k_is); k_whole; intro d' h' F' N' l1; (try dsimp only at N'); (try k_lt l1); (try k_sweep)))
  k_with "setAttr ref" => (k_here; k_dflt (refine' Mine.set_dictK ?k1 ?k2 ?k3 ?k4 ?k5 ?k6 ?k7 ?k10 ?k11 ?k12 ?k13 ?_; (case k1 => k_asm); (case k2 => k_asm); (case k3 => k_asm); (case k4 => (refine' Mine.instX ?N ?h1 ?h2; (case N => k_asm); (case h1 => k_mem); (case h2 => k_mem))); (case k5 => exact rfl); (case k6 => first | (with_reducible assumption) | exact Mine.xc59 _ rfl); (case k7 => k_is); (case k10 => k_get); (case k11 => k_put); (case k12 => k_upd); (case k13 => exact Nat.le_of_ble_eq_true rfl); k_whole; intro h' F' N'; (try k_sweep)))
  k_with "setAttr ref" => (k_here; (with_reducible show wpAny _ _ (setAttr (Value.ref _) (PySem.Str.ofString "args") (Value.ref _)) _ _ _); k_dflt (refine' Mine.set_argsK ?k1 ?k2 ?k3 ?k4 ?k5 ?k6 ?k7 ?k8 ?_; (case k1 => k_asm); (case k2 => k_asm); (case k3 => k_asm); (case k4 => (refine' Mine.instX ?N ?h1 ?h2; (case N => k_asm); (case h1 => k_mem); (case h2 => k_mem))); (case k5 => first | (with_reducible assumption) | exact Mine.xc59 _ rfl); (case k6 => k_is); (case k7 => exact News.isTup (by k_asm) (by k_mem)); (case k8 => k_upd); k_whole; intro h' F' N'; (try k_sweep)))
  k_with "getAttr ref" => (k_here; k_dflt (refine' Mine.get_ownX ?k1 ?k2 ?k3 ?k4 ?k5 ?k6 ?k7 ?k8 ?_; (case k1 => k_asm); (case k2 => k_asm); (case k3 => (refine' Mine.instX ?N ?h1 ?h2; (case N => k_asm); (case h1 => k_mem); (case h2 => k_mem))); (case k4 => first | (with_reducible assumption) | exact Mine.xc59 _ rfl); (case k5 => k_is); (case k6 => k_is); (case k7 => k_get); (case k8 => first | k_handed | with_reducible assumption); k_whole))
  k_with "getAttr ref" => (k_here; (with_reducible show wpAny _ _ (getAttr (Value.ref _) (PySem.Str.ofString "args") _) _ _ _); k_dflt (refine' Mine.get_argsX ?k1 ?k2 ?k3 ?k4 ?k5 ?k6 ?k7 ?_; (case k1 => k_asm); (case k2 => k_asm); (case k3 => (refine' Mine.instX ?N ?h1 ?h2; (case N => k_asm); (case h1 => k_mem); (case h2 => k_mem))); (case k4 => first | (with_reducible assumption) | exact Mine.xc59 _ rfl); (case k5 => k_is); (case k6 => k_is); (case k7 => k_is); k_whole))
  k_with "ite" => (k_here; (first | refine Mine.ite_ff ?_ | refine Mine.ite_tt ?_ | refine Mine.ite_f (Mine.any_f hc3 hc4 hc5) ?_ | refine Mine.ite_f (by decide +kernel) ?_ | refine Mine.ite_t (by decide +kernel) ?_ | refine Mine.ite_f (by with_reducible assumption) ?_ | refine Mine.ite_t (by with_reducible assumption) ?_))
  k_with "ite" => (k_here; (simp only [hit9]); walk_at "ite")
  k_with "ite" => (k_here; first | refine Mine.ite_f (Mine.slice_bne hS1 rfl rfl) ?_ | refine Mine.ite_f (Mine.slice_bne hS2 rfl rfl) ?_)
  k_with "call builtin:list.append" => (k_here; (with_reducible show wpAny _ _ (call (Value.builtin _) [Value.ref _, _]) _ _ _); k_dflt (refine' append_K ?k1 ?k2 ?k3 ?_ ?z; (case k1 => k_asm); (case k2 => k_asm); (case k3 => k_upd); (case z => first | exact Nat.zero_le _ | exact Nat.le_of_ble_eq_true rfl); k_whole); intro h' F' N'; (try k_sweep))
  k_with "call ref" => (k_here; (with_reducible show wpAny _ _ (call (Value.ref 66) [_, _]) _ _ _); k_dflt (refine' Mine.read_T _ _ _ _ _ _ _ _ _ _ _ _ _ _ _ _ _ _ _ _ _ _ _ _ _ _ _ _ _ _ ?kB ?kF ?kX ?kT ?kk ?kd ?ku ?at9 ?_; (case at9 => first | with_reducible exact hA1 | with_reducible exact hA2); (case kB => k_asm); (case kF => k_asm); (case kX => k_asm); (case kT => k_asm); (case kk => first | exact rfl | assumption); (case kd => ktr_room); (case ku => ktr_units); k_whole); intro a9' ta' tb' h' tk' hk' hf' F' N1'; (have ne9' := Mine.news_ne (by k_asm) hf'); (simp only [List.forall_mem_cons, List.not_mem_nil, false_implies, implies_true, and_true] at ne9'); (repeat (obtain ⟨_, ne9'⟩ := ne9')); (have N' := Mine.news_lift (by k_asm) N1' hk'); (clear N1' hk'); (try simp only [List.cons_append, List.nil_append] at N'); (try dsimp only))
  k_fill
  intro w loose mean mg mb dp un cn cs a ccd cl outer A₀ base h₀ L m h g d tk os Q E O S t1 B F X T hk hd hu hO9 hS9 hOl hSl hWl hret
  have hA1 : At (noOpt O S) O (0 + ((10 : Nat) : Int)) := Mine.at1 hO9 (Nat.le_trans hOl (by decide)) hWl
  have hA2 : At (noOpt O S) S (0 + ((10 : Nat) : Int) + ((reprText O).length : Int) + ((13 : Nat) : Int)) := (Mine.at2 hS9 (Nat.le_trans hSl (by decide)) hWl).cast Mine.cast2
  have hS1 : Txt.slice (noOpt O S) (some 0) (some (0 + ((10 : Nat) : Int))) = PySem.Str.ofString "No option " := Mine.sl1 O S
  have hS2 : Txt.slice (noOpt O S) (some (0 + ((10 : Nat) : Int) + ((reprText O).length : Int))) (some (0 + ((10 : Nat) : Int) + ((reprText O).length : Int) + ((13 : Nat) : Int))) = PySem.Str.ofString " in section: " := by rw [Mine.cast2, Mine.cast1]; exact Mine.sl2 O S
  have hWn := Mine.noOpt_len O S
  generalize hW9 : noOpt O S = W9 at *
  refine wpAny_call ?_
  (refine' Mine.code_defG ?k1 ?k2 ?k3 ?k4 ?k5 ?kA ?kF ?kK ?k6 ?k7 ?k8 ?k9 ?kB ?_ ?c2 ?c3 ?c4 ?c5)
  (case kA => exact rfl)
  (case kF => exact rfl)
  (case kK => first | exact rfl | assumption)
  (case k1 => k_asm)
  (case k2 => k_asm)
  (case k3 => k_asm)
  (case k4 => exact PyProof.Rows.News.nil)
  (case k5 => k_asm)
  (case k6 => k_is)
  (case k7 => k_is)
  (case k8 => ktr_room)
  (case k9 => first | exact BindsTo.of_eq rfl | exact binds_K (by k_in) rfl (by k_is) rfl rfl rfl | fail "no rule for these arguments")
  (case c5 => decide)
  (case kB => exact locs rfl)
  (case c2 => exact rfl)
  (case c3 => exact rfl)
  (case c4 => exact rfl)
  intro g1 L1 h2 tk2 hg1 FG1 F2 N2 B2 X2 T2 l2
  (try k_lt l2)
  (try k_lift B2)
  (try k_fold)
  k_steps
  all_goals (first
    | (exact hret _ _ _ _ _ _ (keep_0 hg1 (by k_asm)) (Mine.fresh2 hg1 (by k_asm) (by k_mem)) (by k_asm) (Mine.news1 (by k_asm) (by k_mem)))
    | (exfalso; omega)
    | skip)
end Mine
end
section
open PySem PySem.W PyProof.Rows PySem.Calls PySem.Builtin PySem.Builtin.Str PySem.StrLaws
set_option maxRecDepth 100000
set_option maxHeartbeats 4000000
namespace Mine
def sign9 (k : Int) : PySem.Str := ⟨#[((if k < 0 then -k else k).fmod 128).toNat]⟩
theorem sign9_lt (k : Int) : ∀ c ∈ (sign9 k).cps.toList, c < 128 := by
  intro c hc
  have : c = ((if k < 0 then -k else k).fmod 128).toNat := by simpa [sign9] using hc
  rw [this]
  have h := Int.fmod_lt_of_pos (if k < 0 then -k else k) (b := 128) (by decide)
  omega
theorem join_lt : ∀ (l : List PySem.Str), (∀ x ∈ l, ∀ c ∈ x.cps.toList, c < 128) → ∀ c ∈ (Txt.join (PySem.Str.ofString "") l).cps.toList, c < 128 := by
  intro l h
  have e : (Txt.join (PySem.Str.ofString "") l) = PySem.Str.join (PySem.Str.ofString "") l := StrLaws.glued_eq_join _ _
  rw [e]
  have e0 : (PySem.Str.ofString "").cps.toList = [] := by decide +kernel
  have key : ∀ (l : List PySem.Str) (x : PySem.Str), (∀ y ∈ x :: l, ∀ c ∈ y.cps.toList, c < 128) → ∀ c ∈ (PySem.Str.join (PySem.Str.ofString "") (x :: l)).cps.toList, c < 128 := by
    intro l
    induction l with
    | nil => intro x hx c hc; exact hx x (List.mem_cons_self ..) c hc
    | cons y r ih =>
      intro x hx c hc
      have e2 : PySem.Str.join (PySem.Str.ofString "") (x :: y :: r) = x ++ PySem.Str.ofString "" ++ PySem.Str.join (PySem.Str.ofString "") (y :: r) := rfl
      rw [e2, cps_app, cps_app, e0, List.append_nil] at hc
      rcases List.mem_append.mp hc with hc | hc
      · exact hx x (List.mem_cons_self ..) c hc
      · exact ih y (fun z hz => hx z (List.mem_cons_of_mem _ hz)) c hc
  cases l with
  | nil =>
    intro c hc
    have e3 : (PySem.Str.join (PySem.Str.ofString "") ([] : List PySem.Str)).cps.toList = [] := by decide +kernel
    rw [e3] at hc
    cases hc
  | cons x r => exact key r x h
section
variable {prog : Program} {w : World} {A : Around} {E : Value → Shared → Prop} {s : Shared} {t : Tok} {Q : Value → Shared → Prop} {D : Addr} {ys : List Value} {l : List Int}
theorem join_signs (hl : s.heap.IsList D ys.toArray) (hc : CarriedAll ys ((List.take 60 l).map fun k => PyData.str (sign9 k)))
    (h : ∀ (tx : PySem.Str) t' k, (∀ c ∈ tx.cps.toList, c < 128) → tx.length ≤ 60 → Q (.str tx t') { s with toks := k }) :
    wpAny (model prog w) A (call (.builtin "str.join") [.str (PySem.Str.ofString "") t, .ref D]) Q E s := by
  have hl60 : (List.take 60 l).length ≤ 60 := List.length_take_le ..
  refine KT.join_1 hl hc (fun _ _ => rfl) (by omega) fun t' k e => ?_
  refine h _ t' k (join_lt _ fun x hx => ?_) (by omega)
  obtain ⟨k, _, rfl⟩ := List.mem_map.mp hx
  exact sign9_lt k
end
end Mine
namespace Mine
open PySem PySem.W PyProof.Rows PySem.Builtin.Str PySem.StrLaws
def Good9 (x y : PySem.Str) : Prop := (∀ c ∈ x.cps.toList, c < 128) ∧ (∀ c ∈ y.cps.toList, c < 128) ∧ x.length ≤ 100 ∧ y.length ≤ 100
theorem good_cut {tx : PySem.Str} (h : ∀ c ∈ tx.cps.toList, c < 128) (hl : tx.length ≤ 60) {i : Int} (h0 : 0 ≤ i) (h1 : i ≤ (tx.length : Int)) : Good9 (Txt.slice tx none (some i)) (Txt.slice tx (some i) none) := by
  obtain ⟨k, rfl⟩ : ∃ k : Nat, i = (k : Int) := ⟨i.toNat, by omega⟩
  have e1 := slice_to (x := tx) (j := k) (by omega)
  have e2 := slice_from (x := tx) (i := k) (by omega)
  refine ⟨fun c hc => h c ?_, fun c hc => h c ?_, ?_, ?_⟩
  · rw [e1] at hc; exact List.mem_of_mem_take hc
  · rw [e2] at hc; exact List.mem_of_mem_drop hc
  · rw [len_cps, e1, List.length_take]; rw [len_cps] at hl; omega
  · rw [len_cps, e2, List.length_drop]; rw [len_cps] at hl; omega
theorem cut_lo (n : Nat) {k : Int} (hk : 0 < k) : 0 ≤ (n : Int).fdiv k := Int.fdiv_nonneg (Int.natCast_nonneg _) (by omega)
theorem cut_hi3 (n : Nat) : (n : Int).fdiv 3 ≤ (n : Int) := by rw [Int.fdiv_eq_ediv_of_nonneg _ (by decide)]; omega
theorem cut_hi2 (n : Nat) : (n : Int).fdiv 2 ≤ (n : Int) := by rw [Int.fdiv_eq_ediv_of_nonneg _ (by decide)]; omega
theorem piece_lt : ∀ c ∈ (PySem.Str.ofString "' in section: '").cps.toList, c < 128 := by decide +kernel
theorem piece_len : (PySem.Str.ofString "' in section: '").length = 15 := by decide +kernel
theorem good_add {tx : PySem.Str} (h : ∀ c ∈ tx.cps.toList, c < 128) (hl : tx.length ≤ 60) : Good9 (tx ++ PySem.Str.ofString "' in section: '") (PySem.Str.ofString "' in section: '" ++ tx) := by
  refine ⟨fun c hc => ?_, fun c hc => ?_, ?_, ?_⟩
  · rw [cps_app] at hc; exact (List.mem_append.mp hc).elim (h c) (piece_lt c)
  · rw [cps_app] at hc; exact (List.mem_append.mp hc).elim (piece_lt c) (h c)
  · rw [PySem.Str.length_append, piece_len]; omega
  · rw [PySem.Str.length_append, piece_len]; omega
theorem rep_len {x : PySem.Str} (h : ∀ c ∈ x.cps.toList, c < 128) (hl : x.length ≤ 100) : (reprText x).length ≤ 4000000 := by
  have := StrLaws.reprText_len x (fun c hc => Nat.lt_trans (h c hc) (by decide))
  omega
theorem no_len {x y : PySem.Str} (g : Good9 x y) : (noOpt x y).length ≤ 1000000 := by
  have h1 := StrLaws.reprText_len x (fun c hc => Nat.lt_trans (g.1 c hc) (by decide))
  have h2 := StrLaws.reprText_len y (fun c hc => Nat.lt_trans (g.2.1 c hc) (by decide))
  have := noOpt_len x y
  have := g.2.2.1
  have := g.2.2.2
  omega
end Mine
end
section
open PySem PySem.W PyProof.Rows PySem.Calls PySem.Spec
set_option maxHeartbeats 4000000
namespace Mine
set_option maxRecDepth 100000 in
theorem bindsP (w : World) (o s : PySem.Str) (t1 t2 : Tok) : BindsI (MineH.hd.heap_39 w.params) [.str o t1, .str s t2] [] (.str o t1) (.str s t2) := by
  intro x s' X
  with_unfolding_all (first | exact BindsTo.of_eq rfl | exact binds_K X rfl rfl rfl rfl rfl)
set_option maxRecDepth 100000 in
theorem bindsK (w : World) (o s : PySem.Str) (t1 t2 : Tok) : BindsI (MineH.hd.heap_39 w.params) [] [(PySem.Str.ofString "section", .str s t2), (PySem.Str.ofString "option", .str o t1)] (.str o t1) (.str s t2) := by
  intro x s' X
  with_unfolding_all (first | exact BindsTo.of_eq rfl | exact binds_K X rfl rfl rfl rfl rfl)
theorem ok_lt {x : PySem.Str} (h : ∀ c ∈ x.cps.toList, c < 128) : PyData.strOk x = true := by
  unfold PyData.strOk
  rw [← Array.all_toList, List.all_eq_true]
  intro c hc
  have := h c hc
  simp; omega
section
variable {prog : Program} {w : World} {A : Around} {E : Value → Shared → Prop} {s : Shared} {Q : Value → Shared → Prop} {h₀ : Heap} {L : Addr} {news : List (Addr × Obj)}
theorem ne_txt2 {a b : Addr} {x y : PySem.Str} {t1 t2 t3 t4 : Tok} {n n' : Nat} (N : News h₀ L s.heap news) (ha : (a, W.listOf #[.str x t1, .str y t2] n) ∈ news) (hb : (b, W.listOf #[.str x t3, .str y t4] n') ∈ news) (g : Good9 x y) (hu : A.units + 64 < cLine)
    (h : Q (.bool false) s) : wpAny (model prog w) A (compareOp .NotEq (.ref a) (.ref b)) Q E s := by
  have hx := ok_lt g.1
  have hy := ok_lt g.2.1
  have p1 : PlainAll [.str x t1, .str y t2] [.str x, .str y] := .cons (.str _ _ hx) (.cons (.str _ _ hy) .nil)
  have p2 : PlainAll [.str x t3, .str y t4] [.str x, .str y] := .cons (.str _ _ hx) (.cons (.str _ _ hy) .nil)
  have hs : PySem.SeqAt.shaped (.list [.str x, .str y]) = true := by
    have := p1.dep
    simp [PySem.SeqAt.shaped, PyData.canLay0, p1.lay, PyData.depth]; omega
  refine ne_dataH (Reads.list (N _ ha).1 rfl rfl (p1.reads _)) (Reads.list (N _ hb).1 rfl rfl (p2.reads _)) hs hs hu ?_
  rw [PySem.SeqAt.eqv_refl _ (PySem.SeqAt.canLay_of_shaped hs)]
  exact h
theorem ne_tup2 {a b : Addr} {x y : PySem.Str} {t1 t2 t3 t4 : Tok} {n n' : Nat} (N : News h₀ L s.heap news) (ha : (a, tupK #[.str x t1, .str y t2] n) ∈ news) (hb : (b, tupK #[.str x t3, .str y t4] n') ∈ news) (g : Good9 x y) (hu : A.units + 64 < cLine)
    (h : Q (.bool false) s) : wpAny (model prog w) A (compareOp .NotEq (.ref a) (.ref b)) Q E s := by
  have hx := ok_lt g.1
  have hy := ok_lt g.2.1
  have p1 : PlainAll [.str x t1, .str y t2] [.str x, .str y] := .cons (.str _ _ hx) (.cons (.str _ _ hy) .nil)
  have p2 : PlainAll [.str x t3, .str y t4] [.str x, .str y] := .cons (.str _ _ hx) (.cons (.str _ _ hy) .nil)
  have hs : PySem.SeqAt.shaped (.tuple [.str x, .str y]) = true := by
    have := p1.dep
    simp [PySem.SeqAt.shaped, PyData.canLay0, p1.lay, PyData.depth]; omega
  refine ne_dataH (Reads.tuple (N _ ha).1 rfl rfl (p1.reads _)) (Reads.tuple (N _ hb).1 rfl rfl (p2.reads _)) hs hs hu ?_
  rw [PySem.SeqAt.eqv_refl _ (PySem.SeqAt.canLay_of_shaped hs)]
  exact h
end
end Mine
end
section
open PySem PySem.W PyProof.Rows PySem.Calls
namespace Mine

end Mine
namespace MineH
open Mine
local macro_rules | `(tactic| k_ne) => `(tactic| k_extra "ne")
local macro_rules | `(tactic| walk_at "kstepC") => `(tactic| first
  | ((fail_if_success (with_reducible show Mine.wpC _ _ (execs (Stmt.Try _ _ _ _ _ :: _) _) _ _ _)); (with_reducible (refine Mine.wpC_execs (Mine.wpC_any ?_))); (try dsimp only)) | (k_unfold; (try dsimp only)) | (k_end; wrow_close) | walk1 | (dsimp only; walk1) | (leave1; walk_say "STEP leave1"; try dsimp only))
local macro_rules | `(tactic| walk_at "exec For Name BinOp cons nil") => `(tactic| (k_here; k_extra "j1"))
local macro_rules | `(tactic| walk_at "call ref") => `(tactic| (k_here; (fail_if_success (with_reducible show wpAny _ _ (call (Value.ref 66) _) _ _ _)); (fail_if_success (with_reducible show wpAny _ _ (call (Value.ref 73) _) _ _ _)); (fail_if_success (with_reducible show wpAny _ _ (call (Value.ref 59) _) _ _ _)); k_extra "j2"))
local macro_rules | `(tactic| walk_at "call builtin:repr") => `(tactic| (k_here; (with_reducible show wpAny _ _ (call (Value.builtin "repr") [_]) _ _ _); k_extra "j3"))
local macro_rules | `(tactic| walk_at "compareOp IsNot") => `(tactic| (k_here; (with_reducible show wpAny _ _ (compareOp CmpOp.IsNot _ Value.none) _ _ _); k_extra "j4"))
local macro_rules | `(tactic| walk_at "compareOp Is") => `(tactic| (k_here; (with_reducible show wpAny _ _ (compareOp CmpOp.Is _ Value.none) _ _ _); k_extra "j5"))
local macro_rules | `(tactic| walk_at "getMethod type:Exception") => `(tactic| (k_here; k_extra "j6"))
local macro_rules | `(tactic| walk_at "call builtin:Exception.__init__") => `(tactic| (k_here; k_extra "j7"))
local macro_rules | `(tactic| walk_at "call builtin:str.format") => `(tactic| (k_here; (with_reducible show wpAny _ _ (call (Value.builtin "str.format") [Value.str _ _, Value.int _ _]) _ _ _); k_extra "j8"))
local macro_rules | `(tactic| walk_at "call builtin:str.join") => `(tactic| (k_here; (with_reducible show wpAny _ _ (call (Value.builtin "str.join") [Value.str _ _, Value.ref _]) _ _ _); k_extra "j9"))
local macro_rules | `(tactic| walk_at "setAttr ref") => `(tactic| (k_here; k_extra "j10"))
local macro_rules | `(tactic| walk_at "setAttr ref") => `(tactic| (k_here; k_extra "j11"))
local macro_rules | `(tactic| walk_at "setAttr ref") => `(tactic| (k_here; (with_reducible show wpAny _ _ (setAttr (Value.ref _) (PySem.Str.ofString "args") (Value.ref _)) _ _ _); k_extra "j12"))
local macro_rules | `(tactic| walk_at "getAttr ref") => `(tactic| (k_here; k_extra "j13"))
local macro_rules | `(tactic| walk_at "getAttr ref") => `(tactic| (k_here; (with_reducible show wpAny _ _ (getAttr (Value.ref _) (PySem.Str.ofString "args") _) _ _ _); k_extra "j14"))
local macro_rules | `(tactic| kt_len) => `(tactic| (with_reducible exact Mine.ReprAs.len (by with_reducible assumption)))
local macro_rules | `(tactic| kt_len) => `(tactic| (with_reducible exact Mine.pad2_len (by with_reducible assumption) (by with_reducible assumption)))
local macro_rules | `(tactic| kt_len) => `(tactic| (with_reducible exact Mine.itext_len_le (by with_reducible assumption) (by with_reducible assumption)))
local macro_rules | `(tactic| walk_at "ite") => `(tactic| (k_here; k_extra "j15"))
local macro_rules | `(tactic| walk_at "ite") => `(tactic| (k_here; (simp only [hit9]); walk_at "ite"))
local macro_rules | `(tactic| walk_at "CompSrc") => `(tactic| (k_here; (with_reducible show PyProof.Rows.LCg.CompSrc _ _ _ _ _ _ _ (Expr.Call (Expr.Name (PySem.Str.ofString "chr") _) _ _ _) _ _ _ _ _ _); k_extra "j16"))
local macro_rules | `(tactic| walk_at "call builtin:str.join") => `(tactic| (k_here; k_extra "j17"))
local macro_rules | `(tactic| walk_at "eval Name") => `(tactic| (k_here; (with_reducible show wpAny _ _ (eval (Expr.Name (PySem.Str.ofString "text") _) (envOfC _ _ _ _ _)) _ _ _); k_extra "j18"))
local macro_rules | `(tactic| walk_at "exec Assign cons ListComp") => `(tactic| (k_here; (with_reducible show wpAny _ _ (exec (Stmt.Assign _ (Expr.ListComp (Expr.Tuple _ _ _) _ _ _) _) _) _ _ _); k_extra "j19"))
local macro_rules | `(tactic| walk_at "CompSrc") => `(tactic| (k_here; (with_reducible show PyProof.Rows.LCg.CompSrc _ _ _ _ _ _ _ (Expr.Tuple _ _ _) _ _ _ _ _ _); k_extra "j20"))
local macro_rules | `(tactic| walk_at "exec For Tuple BinOp cons nil") => `(tactic| (k_here; (rename Fr _ _ _ _ => lF'); (with_unfolding_all refine' PySem.W.For_turns lF' ?_; k_whole)))
local macro_rules | `(tactic| walk_at "pyIter ref") => `(tactic| (k_here; (with_reducible show wpAny _ _ (pyIter (Value.ref _)) (fun it s₂ => PySem.W.TurnsAt _ _ _ _ _ _ _ _ _ it s₂) _ _); k_extra "j21"))
local macro_rules | `(tactic| walk_at "newTuple") => `(tactic| (k_here; k_extra "j22"))
local macro_rules | `(tactic| walk_at "call ref") => `(tactic| (k_here; (with_reducible show wpAny _ _ (call (Value.ref 59) _ _) _ _ _); k_extra "j23"))
local macro_rules | `(tactic| walk_at "call ref") => `(tactic| (k_here; (with_reducible show wpAny _ _ (call (Value.ref 73) [_]) _ _ _); k_extra "j24"))
local macro_rules | `(tactic| walk_at "compareOp NotEq ref ref") => `(tactic| (k_here; k_extra "j25"))
local macro_rules | `(tactic| walk_at "call type:str") => `(tactic| (k_here; (with_reducible show wpAny _ _ (call (Value.type "str") [Value.ref _]) _ _ _); k_extra "j26"))
local macro_rules | `(tactic| walk_at "call builtin:repr") => `(tactic| (k_here; (with_reducible show wpAny _ _ (call (Value.builtin "repr") [Value.ref _]) _ _ _); k_extra "j27"))
local macro_rules | `(tactic| walk_at "pyIter ref") => `(tactic| (k_here; (with_reducible show wpAny _ _ (pyIter (Value.ref _)) (fun it s₂ => LoopAtV _ _ _ _ _ _ _ _ _ it s₂) _ _); k_extra "j28"))
local macro_rules | `(tactic| walk_at "UnrEnd") => `(tactic| (k_here; k_extra "j29"))
local macro_rules | `(tactic| walk_at "PairPost") => `(tactic| (k_here; (dsimp only [Mine.PairPost])))
local macro_rules | `(tactic| walk_at "PairEnd") => `(tactic| (k_here; k_extra "j30"))
local macro_rules | `(tactic| walk_at "ite") => `(tactic| (k_here; (refine Mine.ite_no (by with_reducible exact Mine.bne_self _) ?_)))
local macro_rules | `(tactic| walk_at "KCtEl") => `(tactic| (k_here; exact ⟨rfl, _, rfl⟩))
set_option rowWalk.seconds 0 in
set_option maxRecDepth 100000 in
set_option maxHeartbeats 16000000 in
theorem whole : PySem.Challenge.rw_dm0029_01.Holds := by
  k_with_none
  k_with "ne" => (first | exact Mine.ne_l1 (by assumption) | exact Mine.ne_l1' (by assumption) | exact Mine.ne_r1 (by assumption) | exact Mine.ne_r1' (by assumption) | exact Mine.ne_l2 (by assumption) | exact Mine.ne_l2' (by assumption) | exact Mine.ne_r2 (by assumption) | exact Mine.ne_r2' (by assumption) | exact Mine.ne_l3 (by assumption) | exact Mine.ne_l3' (by assumption) | exact Mine.ne_r3 (by assumption) | exact Mine.ne_r3' (by assumption) | exact Mine.ne_l4 (by assumption) | exact Mine.ne_l4' (by assumption) | exact Mine.ne_r4 (by assumption) | exact Mine.ne_r4' (by assumption) | exact Mine.ne_l5 (by assumption) | exact Mine.ne_l5' (by assumption) | exact Mine.ne_r5 (by assumption) | exact Mine.ne_r5' (by assumption) | exact Mine.ne_l6 (by assumption) | exact Mine.ne_l6' (by assumption) | exact Mine.ne_r6 (by assumption) | exact Mine.ne_r6' (by assumption) | exact Mine.ne_l7 (by assumption) | exact Mine.ne_l7' (by assumption) | exact Mine.ne_r7 (by assumption) | exact Mine.ne_r7' (by assumption) | exact Mine.ne_l8 (by assumption) | exact Mine.ne_l8' (by assumption) | exact Mine.ne_r8 (by assumption) | exact Mine.ne_r8' (by assumption) | exact Mine.ne_l9 (by assumption) | exact Mine.ne_l9' (by assumption) | exact Mine.ne_r9 (by assumption) | exact Mine.ne_r9' (by assumption))
  k_with "j1" => (k_dflt ((rename Fr _ _ _ _ => lF'); (with_unfolding_all refine' For_invVF lF' ?j1k1 ?j1k2 ?_; (case j1k1 => exact rfl); (case j1k2 => exact rfl); k_whole)))
  k_with "j2" => (k_dflt (((refine wpAny_call ?_); (refine' Mine.code_defG ?j2k1 ?j2k2 ?j2k3 ?j2k4 ?j2k5 ?j2kA ?j2kF ?j2kK ?j2k6 ?j2k7 ?j2k8 ?j2k9 ?j2kB ?_ ?j2c2 ?j2c3 ?j2c4 ?j2c5); (case j2kA => exact rfl); (case j2kF => exact rfl); (case j2kK => first | exact rfl | assumption); (case j2k1 => k_asm); (case j2k2 => k_asm); (case j2k3 => k_asm); (case j2k4 => k_asm); (case j2k5 => k_asm); (case j2k6 => k_is); (case j2k7 => k_is); (case j2k8 => ktr_room); (case j2k9 => first | exact BindsTo.of_eq rfl | exact binds_K (by k_in) rfl (by k_is) rfl rfl rfl | fail "no rule for these arguments"); (case j2c5 => decide); (case j2kB => exact locs rfl); (case j2c2 => exact rfl); (case j2c3 => exact rfl); (case j2c4 => exact rfl); k_whole; intro g' L' h' tk' hg' FG' F' N' B' X' T' l'; (clear hg'); (try k_lt l'); (try dsimp only); (try k_lift B'); (try k_fold))))
  k_with "j3" => (k_dflt (((refine' Mine.ReprAs.run ?j3r0 ?j3rF ?j3rN ?j3rk ?j3ru ?j3rg ?_); (case j3r0 => with_reducible assumption); (case j3rF => k_asm); (case j3rN => k_asm); (case j3rk => first | exact (fun b o e => (Mine.keep_X (by with_reducible assumption) (by with_reducible assumption) (by with_reducible assumption) (by with_reducible assumption) b o e).1) | exact (fun _ _ e => Fr.keep (by with_reducible assumption) _ _ (Fr.keep (by with_reducible assumption) _ _ e)) | exact (fun _ _ e => Fr.keep (by with_reducible assumption) _ _ e)); (case j3ru => ((try simp only [units_deeper, units_in1, units_under_make, Mine.units_under_kw]); ktr_units)); (case j3rg => exact rfl); k_whole; intro t' k' h' F' N')))
  k_with "j4" => (k_dflt (refine Mine.isNot_none' (by with_reducible assumption) ?_))
  k_with "j5" => (k_dflt (refine Mine.is_none' (by with_reducible assumption) ?_))
  k_with "j6" => (k_dflt (refine' method_type ?j6F ?j6X ?j6m (by decide +kernel) ?j6e ?j6h ?_; (case j6F => k_asm); (case j6X => k_asm); (case j6m => kernel_rfl); (case j6e => k_is); (case j6h => k_handed)))
  k_with "j7" => (k_dflt ((refine' Mine.init_K ?j7k1 ?j7k2 ?j7k3 ?j7k4 ?j7k5 ?j7k6 ?_; (case j7k1 => k_asm); (case j7k2 => k_asm); (case j7k3 => k_asm); (case j7k6 => (intro tx'; k_upd)); (case j7k4 => first | (with_reducible assumption) | exact Mine.xc59 _ rfl); (case j7k5 => exact Nat.le_of_ble_eq_true rfl); k_whole); intro t' h' F' N' l1; (try dsimp only at N'); (try k_lt l1); (try k_sweep)))
  k_with "j8" => (k_dflt ((refine Mine.line_2d (by assumption) (by assumption) ?_); intro _ _))
  k_with "j9" => (k_dflt ((refine' Mine.join_cat ?j9jN ?j9jm ?j9ji ?j9jB ?j9jn ?_; (case j9jN => k_asm); (case j9jm => k_mem); (case j9ji => repeat (first | exact PyProof.Rows.StrsAre.nil | apply PyProof.Rows.StrsAre.cons)); (case j9jB => (repeat (first | exact List.forall_mem_nil _ | refine List.forall_mem_cons.mpr ⟨by first | (with_reducible exact Mine.le5 (Mine.ReprAs.len (by assumption))) | (with_reducible exact Mine.line_len (by assumption) (by assumption)) | decide +kernel, ?_⟩))); (case j9jn => exact Nat.le_of_ble_eq_true rfl)); intro _ _; (try simp only [Mine.catS])))
  k_with "j10" => (k_dflt ((refine' Mine.set_newK ?j10k1 ?j10k2 ?j10k3 ?j10k4 ?j10k5 ?j10k6 ?_; (case j10k1 => k_asm); (case j10k2 => k_asm); (case j10k3 => k_asm); (case j10k6 => (intro dx'; k_upd)); (case j10k4 => first | (with_reducible assumption) | exact Mine.xc59 _ rfl); (case j10k5 => k_is); k_whole; intro d' h' F' N' l1; (try dsimp only at N'); (try k_lt l1); (try k_sweep))))
  k_with "j11" => (k_dflt ((refine' Mine.set_dictK ?j11k1 ?j11k2 ?j11k3 ?j11k4 ?j11k5 ?j11k6 ?j11k7 ?j11k10 ?j11k11 ?j11k12 ?j11k13 ?_; (case j11k1 => k_asm); (case j11k2 => k_asm); (case j11k3 => k_asm); (case j11k4 => (refine' Mine.instX ?j11N ?j11h1 ?j11h2; (case j11N => k_asm); (case j11h1 => k_mem); (case j11h2 => k_mem))); (case j11k5 => exact rfl); (case j11k6 => first | (with_reducible assumption) | exact Mine.xc59 _ rfl); (case j11k7 => k_is); (case j11k10 => k_get); (case j11k11 => k_put); (case j11k12 => k_upd); (case j11k13 => exact Nat.le_of_ble_eq_true rfl); k_whole; intro h' F' N'; (try k_sweep))))
  k_with "j12" => (k_dflt ((refine' Mine.set_argsK ?j12k1 ?j12k2 ?j12k3 ?j12k4 ?j12k5 ?j12k6 ?j12k7 ?j12k8 ?_; (case j12k1 => k_asm); (case j12k2 => k_asm); (case j12k3 => k_asm); (case j12k4 => (refine' Mine.instX ?j12N ?j12h1 ?j12h2; (case j12N => k_asm); (case j12h1 => k_mem); (case j12h2 => k_mem))); (case j12k5 => first | (with_reducible assumption) | exact Mine.xc59 _ rfl); (case j12k6 => k_is); (case j12k7 => exact News.isTup (by k_asm) (by k_mem)); (case j12k8 => k_upd); k_whole; intro h' F' N'; (try k_sweep))))
  k_with "j13" => (k_dflt ((refine' Mine.get_ownX ?j13k1 ?j13k2 ?j13k3 ?j13k4 ?j13k5 ?j13k6 ?j13k7 ?j13k8 ?_; (case j13k1 => k_asm); (case j13k2 => k_asm); (case j13k3 => (refine' Mine.instX ?j13N ?j13h1 ?j13h2; (case j13N => k_asm); (case j13h1 => k_mem); (case j13h2 => k_mem))); (case j13k4 => first | (with_reducible assumption) | exact Mine.xc59 _ rfl); (case j13k5 => k_is); (case j13k6 => k_is); (case j13k7 => k_get); (case j13k8 => first | k_handed | with_reducible assumption); k_whole)))
  k_with "j14" => (k_dflt ((refine' Mine.get_argsX ?j14k1 ?j14k2 ?j14k3 ?j14k4 ?j14k5 ?j14k6 ?j14k7 ?_; (case j14k1 => k_asm); (case j14k2 => k_asm); (case j14k3 => (refine' Mine.instX ?j14N ?j14h1 ?j14h2; (case j14N => k_asm); (case j14h1 => k_mem); (case j14h2 => k_mem))); (case j14k4 => first | (with_reducible assumption) | exact Mine.xc59 _ rfl); (case j14k5 => k_is); (case j14k6 => k_is); (case j14k7 => k_is); k_whole)))
  k_with "j15" => (k_dflt ((first | refine Mine.ite_ff ?_ | refine Mine.ite_tt ?_ | refine Mine.ite_f (Mine.any_f hc3 hc4 hc5) ?_ | refine Mine.ite_f (by decide +kernel) ?_ | refine Mine.ite_t (by decide +kernel) ?_ | refine Mine.ite_f (by with_reducible assumption) ?_ | refine Mine.ite_t (by with_reducible assumption) ?_)))
  k_with "j16" => (k_dflt (((refine PyProof.Rows.LCg.CompSrc.ledger (by rfl) (by k_asm) (by k_asm) (by k_mem) (by size_fits) ?_); intro g'; (refine' PySem.W.kct_list Mine.sign9 (by assumption) (fun k' t' I' oI' C' oC' D' m' ys' h' tk' E' hk' hC' hx' F' N' off' ne' => ?_) ?_); (all_goals (try (simp only [PyProof.Rows.LCg.Off3, and_true] at off'))); (all_goals (try ((show PySem.W.KPfMark → _); intro hMark'))))))
  k_with "j17" => (k_dflt ((refine' Mine.join_signs ?j17jl ?j17jc ?_; (case j17jl => first | assumption | is_list | exact News.isList (by k_asm) (by k_mem)); (case j17jc => with_reducible assumption)); intro tx9 t' k' hTc9 hTl9))
  k_with "j18" => (k_dflt ((refine' PySem.W.nameX_C ?j18cN ?j18cc ?j18cm ?j18cd ?_ ?j18ck ?j18cx ?j18cb; (case j18ck => rfl); (case j18cx => rfl); (case j18cb => decide); (case j18cN => k_asm); (case j18cc => rfl); (case j18cm => k_mem); (case j18cd => k_asm); k_whole)))
  k_with "j19" => (k_dflt ((rename News _ _ _ _ => nS); (have nS2 := Mine.news1 nS (List.Mem.tail _ (List.Mem.tail _ (List.Mem.head _)))); (clear nS); (refine PyProof.Rows.LCg.Assign_ListComp_U (F₀ := by k_asm) (by rfl) (by with_unfolding_all rfl) (by with_unfolding_all rfl) (by decide) (by rfl) (by decide) (by rfl) (by rfl) (by rfl) ?_)))
  k_with "j20" => (k_dflt ((refine PyProof.Rows.LCg.CompSrc.ledger (by rfl) (by k_asm) (by k_asm) (by k_mem) (by first | size_fits | exact Nat.le_of_ble_eq_true rfl) ?_; intro g'; lcg_lit)))
  k_with "j21" => (k_dflt ((rename Fr _ _ _ _ => lF'); (rename News _ _ _ _ => lN'); (refine' Mine.iter_pairs Mine.Good9 [PySem.Str.ofString "option", PySem.Str.ofString "section", PySem.Str.ofString "err"] ?j21ph lF' lN' ?j21pm ?j21pc ?j21pd ?j21pv ?j21pt ?j21pf; (case j21ph => rfl); (case j21pm => k_mem); (case j21pc => rfl); (case j21pd => rfl); (case j21pv => (refine List.forall_mem_cons.mpr ⟨⟨_, _, _, _, _, _, rfl, by k_mem, by with_reducible exact Mine.good_cut (by assumption) (by assumption) (Int.le_refl _) (Int.natCast_nonneg _)⟩, ?_⟩; refine List.forall_mem_cons.mpr ⟨⟨_, _, _, _, _, _, rfl, by k_mem, by with_reducible exact Mine.good_cut (by assumption) (by assumption) (Mine.cut_lo _ (by decide)) (Mine.cut_hi3 _)⟩, ?_⟩; refine List.forall_mem_cons.mpr ⟨⟨_, _, _, _, _, _, rfl, by k_mem, by with_reducible exact Mine.good_cut (by assumption) (by assumption) (Mine.cut_lo _ (by decide)) (Mine.cut_hi2 _)⟩, ?_⟩; refine List.forall_mem_cons.mpr ⟨⟨_, _, _, _, _, _, rfl, by k_mem, by with_reducible exact Mine.good_cut (by assumption) (by assumption) (Int.natCast_nonneg _) (Int.le_refl _)⟩, ?_⟩; refine List.forall_mem_cons.mpr ⟨⟨_, _, _, _, _, _, rfl, by k_mem, by with_reducible exact Mine.good_add (by assumption) (by assumption)⟩, ?_⟩; exact List.forall_mem_nil _)); (case' j21pt => (intro T' x' y' t1' t2' k' I' oI' h' tk' m' hc' g9' F' N' l1; (have r1' := Mine.rep_len g9'.1 g9'.2.2.1); (have r2' := Mine.rep_len g9'.2.1 g9'.2.2.2); (have r3' := Mine.no_len g9'); (try k_lt l1))); (case' j21pf => (intro h' tk' m' F' N')))))
  k_with "j22" => (k_dflt ((refine' PySem.W.kup_newTuple ?j22F ?j22N ?_ ?j22z; (case j22F => k_asm); (case j22N => k_asm); (case j22z => kmk_size)); intro D' h' F' N' l1; (try k_lt l1); (try k_sweep)))
  k_with "j23" => (k_dflt ((first | (with_reducible show wpAny _ _ (call (Value.ref 59) _ []) _ _ _) | (with_unfolding_all show wpAny _ _ (call (Value.ref 59) _ [(PySem.Str.ofString "section", _), (PySem.Str.ofString "option", _)]) _ _ _)); (refine' Mine.noe_T _ _ _ _ _ _ _ _ _ _ _ _ _ _ _ _ _ _ _ _ _ _ _ _ _ _ _ _ _ _ _ ?j23kB ?j23kF ?j23kX ?j23kT ?j23kk ?j23kd ?j23ku ?j23pl ?j23bi ?j23r1 ?j23r2 ?_; (case j23bi => first | with_reducible exact Mine.bindsP _ _ _ _ _ | with_reducible exact Mine.bindsK _ _ _ _ _); (case j23pl => exact Nat.le_of_ble_eq_true rfl); (case j23r1 => with_reducible assumption); (case j23r2 => with_reducible assumption); (case j23kB => k_asm); (case j23kF => k_asm); (case j23kX => k_asm); (case j23kT => k_asm); (case j23kk => first | exact rfl | assumption); (case j23kd => ktr_room); (case j23ku => ktr_units); k_whole); intro x' dx' tx' kt0' kt1' kt2' km' h' tk' hk' F' N1'; (have N' := Mine.news_lift (by k_asm) N1' hk'); (clear N1' hk'); (try simp only [List.cons_append, List.nil_append] at N'); (try dsimp only)))
  k_with "j24" => (k_dflt ((refine' Mine.names_T _ _ _ _ _ _ _ _ _ _ _ _ _ _ _ _ _ _ _ _ _ _ _ _ _ _ _ _ ?j24kB ?j24kF ?j24kX ?j24kT ?j24kk ?j24kd ?j24ku ?j24g1 ?j24g2 ?j24g3 ?j24g4 ?j24g5 ?_; (case j24g1 => exact (by with_reducible assumption : Mine.Good9 _ _).1); (case j24g2 => exact (by with_reducible assumption : Mine.Good9 _ _).2.1); (case j24g3 => exact Nat.le_trans (by with_reducible assumption : Mine.Good9 _ _).2.2.1 (by decide)); (case j24g4 => exact Nat.le_trans (by with_reducible assumption : Mine.Good9 _ _).2.2.2 (by decide)); (case j24g5 => with_reducible assumption); (case j24kB => k_asm); (case j24kF => k_asm); (case j24kX => k_asm); (case j24kT => k_asm); (case j24kk => first | exact rfl | assumption); (case j24kd => ktr_room); (case j24ku => ktr_units); k_whole); intro a9' k9' ta' tb' h' tk' hk' hf' F' N1'; (have N' := Mine.news_lift (by k_asm) N1' hk'); (clear N1' hk'); (try simp only [List.cons_append, List.nil_append] at N'); (try dsimp only)))
  k_with "j25" => (k_dflt ((first | (refine' Mine.ne_txt2 ?j25qN ?j25qa ?j25qb ?j25qg ?j25qu ?_; (case j25qN => k_asm); (case j25qa => k_mem); (case j25qb => k_mem); (case j25qg => with_reducible assumption); (case j25qu => ktr_units)) | (refine' Mine.ne_tup2 ?j25qN ?j25qa ?j25qb ?j25qg ?j25qu ?_; (case j25qN => k_asm); (case j25qa => k_mem); (case j25qb => k_mem); (case j25qg => with_reducible assumption); (case j25qu => ktr_units))); k_whole))
  k_with "j26" => (k_dflt ((refine' Mine.str_F ?j26F ?j26X ?j26I ?j26k1 ?j26k4 ?j26k5 ?_; (case j26F => k_asm); (case j26X => k_asm); (case j26I => (refine' Mine.instX ?j26N ?j26h1 ?j26h2; (case j26N => k_asm); (case j26h1 => k_mem); (case j26h2 => k_mem))); (case j26k1 => k_units); (case j26k4 => k_is); (case j26k5 => k_is); k_whole)))
  k_with "j27" => (k_dflt ((refine' repr_K ?j27k1 ?j27F ?j27X ?j27I ?j27k4 ?j27k5 ?_; (case j27F => k_asm); (case j27X => k_asm); (case j27I => (refine' Mine.instX ?j27N ?j27h1 ?j27h2; (case j27N => k_asm); (case j27h1 => k_mem); (case j27h2 => k_mem))); (case j27k1 => k_units); (case j27k4 => k_is); (case j27k5 => k_is); k_whole)))
  k_with "j28" => (k_dflt (((rename Fr _ _ _ _ => lF'); (rename News _ _ _ _ => lN'); (refine' iter_listUnr ?j28ph lF' lN' ?j28pm ?j28pc ?j28pd ?j28pr); (case j28ph => rfl); (case j28pm => k_mem); (case j28pc => rfl); (case j28pd => rfl); (case' j28pr => (clear lF'; intro i' l1; (have l2' := l1); (try k_lt l1))))))
  k_with "j29" => (k_dflt (((rename Fr _ _ _ _ => uF'); (rename News _ _ _ _ => uN'); (first | (refine Mine.unr_head uF' uN' ?_ ?_) | (refine Mine.unr_head uF' (Mine.news_tl uN') ?_ ?_) | (refine Mine.unr_head uF' (Mine.news_tl (Mine.news_tl uN')) ?_ ?_) | (refine Mine.unr_head uF' (Mine.news_tl (Mine.news_tl (Mine.news_tl uN'))) ?_ ?_) | (refine Mine.unr_head uF' (Mine.news_tl (Mine.news_tl (Mine.news_tl (Mine.news_tl uN')))) ?_ ?_) | (refine Mine.unr_head uF' (Mine.news_tl (Mine.news_tl (Mine.news_tl (Mine.news_tl (Mine.news_tl uN'))))) ?_ ?_) | (refine Mine.unr_head uF' (Mine.news_tl (Mine.news_tl (Mine.news_tl (Mine.news_tl (Mine.news_tl (Mine.news_tl uN')))))) ?_ ?_) | (refine Mine.unr_head uF' (Mine.news_tl (Mine.news_tl (Mine.news_tl (Mine.news_tl (Mine.news_tl (Mine.news_tl (Mine.news_tl uN'))))))) ?_ ?_) | (refine Mine.unr_head uF' (Mine.news_tl (Mine.news_tl (Mine.news_tl (Mine.news_tl (Mine.news_tl (Mine.news_tl (Mine.news_tl (Mine.news_tl uN')))))))) ?_ ?_) | (refine Mine.unr_head uF' (Mine.news_tl (Mine.news_tl (Mine.news_tl (Mine.news_tl (Mine.news_tl (Mine.news_tl (Mine.news_tl (Mine.news_tl (Mine.news_tl uN'))))))))) ?_ ?_) | (refine Mine.unr_head uF' (Mine.news_tl (Mine.news_tl (Mine.news_tl (Mine.news_tl (Mine.news_tl (Mine.news_tl (Mine.news_tl (Mine.news_tl (Mine.news_tl (Mine.news_tl uN')))))))))) ?_ ?_) | (refine Mine.unr_head uF' (Mine.news_tl (Mine.news_tl (Mine.news_tl (Mine.news_tl (Mine.news_tl (Mine.news_tl (Mine.news_tl (Mine.news_tl (Mine.news_tl (Mine.news_tl (Mine.news_tl uN'))))))))))) ?_ ?_) | (refine Mine.unr_head uF' (Mine.news_tl (Mine.news_tl (Mine.news_tl (Mine.news_tl (Mine.news_tl (Mine.news_tl (Mine.news_tl (Mine.news_tl (Mine.news_tl (Mine.news_tl (Mine.news_tl (Mine.news_tl uN')))))))))))) ?_ ?_) | (refine Mine.unr_head uF' (Mine.news_tl (Mine.news_tl (Mine.news_tl (Mine.news_tl (Mine.news_tl (Mine.news_tl (Mine.news_tl (Mine.news_tl (Mine.news_tl (Mine.news_tl (Mine.news_tl (Mine.news_tl (Mine.news_tl uN'))))))))))))) ?_ ?_) | (refine Mine.unr_head uF' (Mine.news_tl (Mine.news_tl (Mine.news_tl (Mine.news_tl (Mine.news_tl (Mine.news_tl (Mine.news_tl (Mine.news_tl (Mine.news_tl (Mine.news_tl (Mine.news_tl (Mine.news_tl (Mine.news_tl (Mine.news_tl uN')))))))))))))) ?_ ?_) | (refine Mine.unr_head uF' (Mine.news_tl (Mine.news_tl (Mine.news_tl (Mine.news_tl (Mine.news_tl (Mine.news_tl (Mine.news_tl (Mine.news_tl (Mine.news_tl (Mine.news_tl (Mine.news_tl (Mine.news_tl (Mine.news_tl (Mine.news_tl (Mine.news_tl uN'))))))))))))))) ?_ ?_)); (first | with_reducible assumption | assumption); (try dsimp only); (refine ⟨by k_mem, ?_⟩))))
  k_with "j30" => (k_dflt ((rename News _ _ _ _ => nE'); (refine Mine.pair_end (by assumption) nE' (by intro p hp; revert p; exact (by repeat (first | exact List.forall_mem_nil _ | refine List.forall_mem_cons.mpr ⟨by k_mem, ?_⟩))) (by intro z h3; have h3' := Mine.not3 h3; repeat (first | rw [if_neg h3'.2.2] | rw [if_neg h3'.2.1] | rw [if_neg h3'.1] | rw [if_neg (by rw [h3]; exact Bool.false_ne_true)])))))
  refine MineH.hd ?_
  (k_fill)
  intro w s₀ s₁ mg mb G Y fa o pm cd doc dV kV ho hd hcd hD hmg hg args vals as hpre hlay hrd hwl hlo
  have KX := kIn_of Y
  have X := (Ground.X G).1
  have V := (Ground.X G).2
  try w_nolog (first | (have GL := glob_more (Ground.glob G (by first | k_qdec | decide +kernel) (by first | k_qdec | decide +kernel)) V))
  refine Ground.open G ?_
  intro T B D TE TW
  try (refine guard_noD D (by decide +kernel) ?_; clear D)
  obtain ⟨_, _, M⟩ := bmod_of_top T
  have TA := at_of_top T
  try (obtain ⟨_, _, he, B0⟩ := based_of_top T rfl hmg ho hd; have he' : cd = _ := he; subst he'; clear he)
  clear hmg
  wrow_args hpre hlay hrd hwl hlo
  refine MineH.enterC ?_
  w_top on
  have K0 := below_caller (Top.heap T)
  w_call any ho hd hcd hD T F
  clear hd TA
  k_drop
  (all_goals try k_fold)
  (try dsimp only)
  (try clear hcd)
  (try clear ho)
  repeat' ((fail_if_success (with_reducible show Mine.wpC _ _ (execs (Stmt.Assign _ (PySem.Expr.Constant _ _ _) _ :: _) _) _ _ _)); walk_at "kstepC")
  (rename Fr _ _ _ _ => gF)
  refine Mine.forget_map gF ?_
  clear gF
  intro m9 gF
  (try dsimp only)
  repeat' ((fail_if_success (with_reducible show Mine.wpC _ _ (execs (Stmt.Try _ _ _ _ _ :: _) _) _ _ _)); walk_at "kstepC")
  (try dsimp only)
  (rename Fr _ _ _ _ => tF); (rename News _ _ _ _ => tN)
  refine Mine.wpC_execs (Mine.wpC_Try ?_)
  refine Mine.wpC_execs (Mine.wpC_Expr rfl rfl ?_)
  refine Mine.wpC_Call_Name rfl ?_
  walk1
  (try dsimp only)
  refine Mine.wpC_callWith1 ?_ rfl
  walk1
  walk1
  walk1
  (try dsimp only)
  refine ⟨Mine.makesX_of (Frag.In.keeps KX (Fr.keep tF)) (Mine.xc59 _ rfl), ?_⟩
  refine' Mine.callC_refused tF KX (Mine.xc59 _ rfl) ?zi ?zf ?zr ?zo ?zc rfl ?zco ?zge ?zb ?zh
  (case zi => k_is)
  (case zf => k_is)
  (case zr => exact Nat.le_of_ble_eq_true rfl)
  (case zo => k_is)
  (case zc => k_is)
  (case zco => rfl)
  (case zge => rfl)
  (case zb => (intro x A' s' Q' E' hA' hE'; exact Mine.bind_short hA' hE'))
  (case' zh => intro h₁ h' e' t' k' msg' kh hx)
  (try dsimp only)
  refine Mine.caught_own tF kh hx rfl (by intro q; cases q) rfl PySem.F.isExc_TypeError PySem.F.notTuple_TypeError (by rw [isSubtype_type]; kernel_rfl) ?zn (by passes_own) ?zk
  (case' zn => (intro g9 s9 gF9 es9 Q9 E9 q9; subst es9; walk1; exact q9))
  (case' zk => intro g8 gF8 ko8)
  (try dsimp only)
  repeat' (walk_at "kstepC")
end MineH
namespace Mine
end Mine
end
set_option maxRecDepth 100000 in
theorem PySem.Challenge.cw_dm0029_01_holds : PySem.Challenge.rw_dm0029_01.Holds := by
  exact MineH.whole
